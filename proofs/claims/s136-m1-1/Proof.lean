import JvmDerived
import JvmDerived.Pilot.@@N@@Statement
import JvmDerived.Pilot.@@N@@Code
set_option linter.unusedVariables false
set_option linter.unusedSimpArgs false
namespace Jvm.RoadKit
open Sem ClassFile Op Lib Jvm.Stand Jvm.Free Jvm.LawKit
section Own
variable {p : Program} {l : Launch} {e : Env} {R : Room} {s : State} {m : MethodId} {args : Array Value} {below : List Frame} {meth : Method} {c : Code} {T : State} {locs : List Loc} {cells slots : Nat}
/-- from U the run ends, and Q holds of what it returns -/
def Outs (p : Program) (e : Env) (below : List Frame) (s : State) (Q : Option Value → Heap → List Loc → Prop) (C S : Nat) (U : State) : Prop :=
  ∃ s₂ o, Steps p.tables e below U s₂ ∧ s₂.status = .running ∧ Ended s₂ below o ∧ ∃ v L, o = .returned v ∧ Q v s₂.heap L ∧ FrameEnd s o s₂ L C S
variable {Q : Option Value → Heap → List Loc → Prop} {C S : Nat}
theorem Outs.of {U U' : State} (h : ∀ t, Steps p.tables e below U' t → Steps p.tables e below U t) (k : Outs p e below s Q C S U') : Outs p e below s Q C S U := by
  obtain ⟨t, o, st, r⟩ := k
  exact ⟨t, o, h t st, r⟩
theorem Outs.to {U U' : State} (h : Steps p.tables e below U U') (k : Outs p e below s Q C S U') : Outs p e below s Q C S U := by
  obtain ⟨t, o, st, r⟩ := k
  exact ⟨t, o, h.trans st, r⟩
theorem Outs.mono {U : State} {Q' : Option Value → Heap → List Loc → Prop} (k : Outs p e below s Q C S U) (h : ∀ v h L, Q v h L → Q' v h L) : Outs p e below s Q' C S U := by
  obtain ⟨t, o, st, h1, h2, v, L, h3, h4, h5⟩ := k
  exact ⟨t, o, st, h1, h2, v, L, h3, h _ _ _ h4, h5⟩
theorem Outs.ret (X : Stand p l e R s m args below meth c T locs cells slots) {g : JFrame} {v : Option Value} (hv : meth.sig.returnType = none → v = none) (hlk : meth.locks = false) (hC : cells ≤ C) (hS : slots ≤ S)
    (st : ∀ fs, (∀ (f : JFrame) (acts : List Action), f.method = m → f.locked = none → f.entered = [] → (doReturn e (T.setTop f) acts v).1 = T.setFrames fs) → Steps p.tables e below (T.setTop g) (T.setFrames fs))
    {h : Heap} (eT : T.heap = h) (q : Q v h locs) : Outs p e below s Q C S (T.setTop g) := by
  subst eT
  obtain ⟨fs, hr, hrun, hended, hW, hsame⟩ := X.leave (v := v) hv hlk
  exact ⟨_, _, st fs hr, hrun, hended, v, locs, rfl, q, ⟨_, rfl⟩, hW, hsame.mono hC hS⟩
theorem Outs.retI (X : Stand p l e R s m args below meth c T locs cells slots) (hx : p.tables.exec = Jvm.exec) {pc : Nat} {Ls : Array Slot} {z : Int32} {rest : List Value} (hret : meth.sig.returnType = some .int) (hd : decode c.code pc = .ok (.ireturn, 1)) (hlk : meth.locks = false) (hC : cells ≤ C) (hS : slots ≤ S)
    {h : Heap} (eT : T.heap = h) (q : Q (some (.int z)) h locs) : Outs p e below s Q C S (T.setTop (mkF m pc Ls (.int z :: rest))) :=
  Outs.ret X (fun h => by rw [hret] at h; cases h) hlk hC hS (fun fs hl => retOut X hx hret rfl (Or.inl ⟨rfl, Or.inl rfl, z, rfl⟩) hd hl) eT q
theorem Outs.retL (X : Stand p l e R s m args below meth c T locs cells slots) (hx : p.tables.exec = Jvm.exec) {pc : Nat} {Ls : Array Slot} {z : Int64} {rest : List Value} (hret : meth.sig.returnType = some .long) (hd : decode c.code pc = .ok (.lreturn, 1)) (hlk : meth.locks = false) (hC : cells ≤ C) (hS : slots ≤ S)
    {h : Heap} (eT : T.heap = h) (q : Q (some (.long z)) h locs) : Outs p e below s Q C S (T.setTop (mkF m pc Ls (.long z :: rest))) :=
  Outs.ret X (fun h => by rw [hret] at h; cases h) hlk hC hS (fun fs hl => retOut X hx hret rfl (Or.inr (Or.inl ⟨rfl, rfl, z, rfl⟩)) hd hl) eT q
theorem Outs.retN (X : Stand p l e R s m args below meth c T locs cells slots) (hx : p.tables.exec = Jvm.exec) {pc : Nat} {Ls : Array Slot} {z : Int32} {t : FieldType} {rest : List Value} (hret : meth.sig.returnType = some t) (ht : t = .boolean ∨ t = .byte ∨ t = .char ∨ t = .short) (hd : decode c.code pc = .ok (.ireturn, 1)) (hlk : meth.locks = false) (hC : cells ≤ C) (hS : slots ≤ S)
    {h : Heap} (eT : T.heap = h) (q : Q (some (.int (nar t z))) h locs) : Outs p e below s Q C S (T.setTop (mkF m pc Ls (.int z :: rest))) :=
  Outs.ret X (fun h => by rw [hret] at h; cases h) hlk hC hS (fun fs hl => Jvm.RoadKit.retN X hx hret ht hd hl) eT q
theorem Outs.retV (X : Stand p l e R s m args below meth c T locs cells slots) (hx : p.tables.exec = Jvm.exec) {pc : Nat} {Ls : Array Slot} (hret : meth.sig.returnType = none) (hd : decode c.code pc = .ok (.return_, 1)) (hlk : meth.locks = false) (hC : cells ≤ C) (hS : slots ≤ S)
    {h : Heap} (eT : T.heap = h) (q : Q none h locs) : Outs p e below s Q C S (T.setTop (mkF m pc Ls [])) :=
  Outs.ret X (fun _ => rfl) hlk hC hS (fun fs hl => X.returnOut hx hret hd hl) eT q
theorem Outs.retA (X : Stand p l e R s m args below meth c T locs cells slots) (hx : p.tables.exec = Jvm.exec) {pc : Nat} {Ls : Array Slot} {w : Value} {t : FieldType} {rest : List Value} (hret : meth.sig.returnType = some t) (ht : t.isReference = true) (hw : w.isRef = true) (hn : narrow t w = w) (hd : decode c.code pc = .ok (.areturn, 1)) (hlk : meth.locks = false) (hC : cells ≤ C) (hS : slots ≤ S)
    {h : Heap} (eT : T.heap = h) (q : Q (some w) h locs) : Outs p e below s Q C S (T.setTop (mkF m pc Ls (w :: rest))) :=
  Outs.ret X (fun h => by rw [hret] at h; cases h) hlk hC hS (fun fs hl => retOut X hx hret hn (Or.inr (Or.inr (Or.inr (Or.inr ⟨rfl, ht, hw⟩)))) hd hl) eT q
theorem lremM {g : JFrame} {target : State} (X : Stand p l e R s m args below meth c T locs cells slots) (hx : p.tables.exec = Jvm.exec) (hg : g.method = m) {x y : Int64} {rest : List Value} (hd : decode c.code g.pc = .ok (.lrem, 1)) (hs : g.stack = .long y :: .long x :: rest) (hy : y ≠ 0)
    (hr : Steps p.tables e below (T.setTop { g with pc := g.pc + 1, stack := .long (x % y) :: rest }) target) : Steps p.tables e below (T.setTop g) target :=
  XS.lrem X.here hx hg hd hs hy (by rw [lrem_mod]; exact hr)
/-- a body that returns v and leaves the heap as it was -/
def QR (z : Option Value) (h0 : Heap) (n0 : Nat) (v : Option Value) (h : Heap) (L : List Loc) : Prop := v = z ∧ Fr n0 L ∧ h = h0
/-- the law's own -/
def QL (n0 : Nat) (v : Option Value) (h : Heap) (L : List Loc) : Prop := v = some (.int 1) ∧ Fr n0 L
end Own
end Jvm.RoadKit
namespace Jvm.RoadKit
open Sem ClassFile Op Lib Jvm.Stand Jvm.Free Jvm.LawKit
section OwnHeap
variable {p : Program} {l : Launch} {e : Env} {R : Room} {s : State} {m : MethodId} {args : Array Value} {below : List Frame} {meth : Method} {c : Code} {T : State} {locs : List Loc} {cells slots : Nat} {Z : State} {a0 : Array Value} {h h' : Heap} {a b : Addr} {ty : FieldType} {n : Nat}
def upv {α : Type} (g : Nat → α) (k : Nat) (v : α) : Nat → α := fun j => if j = k then v else g j
theorem upv_same {α : Type} (g : Nat → α) (k : Nat) (v : α) : upv g k v k = v := if_pos rfl
theorem upv_ne {α : Type} (g : Nat → α) {k j : Nat} (v : α) (q : j ≠ k) : upv g k v j = g j := if_neg q
/-- an array of n places; place j holds f j -/
def AF (Z : State) (h : Heap) (a : Addr) (ty : FieldType) (n : Nat) (f : Nat → Value) : Prop :=
  ∃ c : Cell, Arr Z h a c ty ∧ c.slots.size = n ∧ n < 2147483648 ∧ ∀ j, j < n → c.slots[j]? = some (f j)
def AI (Z : State) (h : Heap) (a : Addr) (ty : FieldType) (n : Nat) (g : Nat → Int32) : Prop := AF Z h a ty n (fun j => .int (g j))
def AJ (Z : State) (h : Heap) (a : Addr) (ty : FieldType) (n : Nat) (g : Nat → Int64) : Prop := AF Z h a ty n (fun j => .long (g j))
theorem AF.lt {f : Nat → Value} (F : AF Z h a ty n f) : a < h.size := by obtain ⟨c, A, -⟩ := F; exact A.lt
theorem AF.ext {f : Nat → Value} (F : AF Z h a ty n f) (E : Ext h h') : AF Z h' a ty n f := by obtain ⟨c, A, r⟩ := F; exact ⟨c, A.ext E, r⟩
theorem AF.other {f : Nat → Value} {sl : Nat} {v : Value} (F : AF Z h b ty n f) (W : Wr h h' a sl v) (q : b ≠ a) : AF Z h' b ty n f := by obtain ⟨c, A, r⟩ := F; exact ⟨c, A.other W q, r⟩
theorem AF.keep {f : Nat → Value} {ws : List Addr} (F : AF Z h a ty n f) (K : Keep h h' ws) (q : a ∉ ws) : AF Z h' a ty n f := by obtain ⟨c, A, r⟩ := F; exact ⟨c, ⟨K.2.1 a c A.1 q, A.2⟩, r⟩
theorem AF.len {f : Nat → Value} (F : AF Z h a ty n f) : n < 2147483648 := by obtain ⟨c, A, -, M, -⟩ := F; exact M
theorem AF.cong {f f' : Nat → Value} (F : AF Z h a ty n f) (q : ∀ j, j < n → f j = f' j) : AF Z h a ty n f' := by
  obtain ⟨c, A, S, M, G⟩ := F
  exact ⟨c, A, S, M, fun j hj => by rw [← q j hj]; exact G j hj⟩
theorem AI.cong {g g' : Nat → Int32} (F : AI Z h a ty n g) (q : ∀ j, j < n → g j = g' j) : AI Z h a ty n g' := AF.cong F fun j hj => by rw [q j hj]
theorem AJ.cong {g g' : Nat → Int64} (F : AJ Z h a ty n g) (q : ∀ j, j < n → g j = g' j) : AJ Z h a ty n g' := AF.cong F fun j hj => by rw [q j hj]
theorem own_nat {j : Int32} {k : Nat} (hk : j.toInt = k) : j.toNatClampNeg = k := by
  show j.toInt.toNat = k
  rw [hk]; rfl
theorem own_in {cl : Cell} {j : Int32} {k : Nat} (S : cl.slots.size = n) (hk : j.toInt = k) (hn : k < n) : ¬ (j < 0 ∨ cl.slots.size ≤ j.toNatClampNeg) := by
  rw [own_nat hk, S, Int32.lt_iff_toInt_lt, hk]
  have : (0 : Int32).toInt = 0 := rfl
  omega
theorem AF.set {f : Nat → Value} {k : Nat} {v : Value} (F : AF Z h a ty n f) (W : Wr h h' a k v) : AF Z h' a ty n (upv f k v) := by
  obtain ⟨c, A, S, M, G⟩ := F
  refine ⟨c.setSlot k v, A.same W, by rw [sz_set]; exact S, M, fun j hj => ?_⟩
  have hz : j < c.slots.size := by omega
  simp only [Cell.setSlot, upv, Array.getElem?_setIfInBounds]
  by_cases q : j = k
  · subst q; simp [hz]
  · rw [if_neg (Ne.symm q), if_neg q]; exact G j hj
theorem AI.set {g : Nat → Int32} {k : Nat} {x : Int32} (F : AI Z h a ty n g) (W : Wr h h' a k (.int x)) : AI Z h' a ty n (upv g k x) :=
  AF.cong (AF.set F W) fun j _ => by simp only [upv]; split <;> rfl
theorem AJ.set {g : Nat → Int64} {k : Nat} {x : Int64} (F : AJ Z h a ty n g) (W : Wr h h' a k (.long x)) : AJ Z h' a ty n (upv g k x) :=
  AF.cong (AF.set F W) fun j _ => by simp only [upv]; split <;> rfl
theorem AF.fresh {k : ClassId} {z : Int32} {i : Nat} (A : Arr Z h a (newA k ty z) ty) (q : z.toInt = i) : AF Z h a ty i (fun _ => defaultValue ty) := by
  have S : (newA k ty z).slots.size = i := by rw [sz_new, own_nat q]
  refine ⟨_, A, S, ?_, fun j hj => ?_⟩
  · have := z.toInt_lt; omega
  · have hz : j < (newA k ty z).slots.size := by omega
    simp only [newA] at hz ⊢
    rw [Array.getElem?_eq_getElem hz]; simp
section Loads
theorem ldI (X : Stand p l e R s m args below meth c T locs cells slots) (hx : p.tables.exec = Jvm.exec) (hZ : Z.Warmed39 s.vm) (eT : T.heap = h) {g : Nat → Int32} (F : AI Z h a .int n g) {j : Int32} {k : Nat} (hk : j.toInt = k) (hn : k < n) {f : JFrame} (hg : f.method = m) {rest : List Value} (hs : f.stack = .int j :: .ref a :: rest) (hd : decode c.code f.pc = .ok (.iaload, 1)) :
    ∀ target, Steps p.tables e below (T.setTop { f with pc := f.pc + 1, stack := .int (g k) :: rest }) target → Steps p.tables e below (T.setTop f) target := by
  obtain ⟨cl, A, S, M, G⟩ := F
  intro target kt
  exact X.iaload hx (by rw [eT]; exact A.1) (State.isArrayOf_alike hZ.alike A.2.1) A.2.2 (own_in S hk hn) (by rw [own_nat hk]; exact G k hn) hg hs hd target kt
theorem ldB (X : Stand p l e R s m args below meth c T locs cells slots) (hx : p.tables.exec = Jvm.exec) (hZ : Z.Warmed39 s.vm) (eT : T.heap = h) {g : Nat → Int32} (F : AI Z h a .byte n g) {j : Int32} {k : Nat} (hk : j.toInt = k) (hn : k < n) {f : JFrame} (hg : f.method = m) {rest : List Value} (hs : f.stack = .int j :: .ref a :: rest) (hd : decode c.code f.pc = .ok (.baload, 1)) :
    ∀ target, Steps p.tables e below (T.setTop { f with pc := f.pc + 1, stack := .int (g k) :: rest }) target → Steps p.tables e below (T.setTop f) target := by
  obtain ⟨cl, A, S, M, G⟩ := F
  intro target kt
  exact X.baloadBytes hx (by rw [eT]; exact A.1) (State.isArrayOf_alike hZ.alike A.2.1) A.2.2 (own_in S hk hn) (by rw [own_nat hk]; exact G k hn) hg hs hd target kt
theorem ldJ (X : Stand p l e R s m args below meth c T locs cells slots) (hx : p.tables.exec = Jvm.exec) (hZ : Z.Warmed39 s.vm) (eT : T.heap = h) {g : Nat → Int64} (F : AJ Z h a .long n g) {j : Int32} {k : Nat} (hk : j.toInt = k) (hn : k < n) {f : JFrame} (hg : f.method = m) {rest : List Value} (hs : f.stack = .int j :: .ref a :: rest) (hd : decode c.code f.pc = .ok (.laload, 1)) :
    ∀ target, Steps p.tables e below (T.setTop { f with pc := f.pc + 1, stack := .long (g k) :: rest }) target → Steps p.tables e below (T.setTop f) target := by
  obtain ⟨cl, A, S, M, G⟩ := F
  intro target kt
  exact X.laload hx (by rw [eT]; exact A.1) (State.isArrayOf_alike hZ.alike A.2.1) A.2.2 (own_in S hk hn) (by rw [own_nat hk]; exact G k hn) hg hs hd target kt
theorem ldR (X : Stand p l e R s m args below meth c T locs cells slots) (hx : p.tables.exec = Jvm.exec) (hZ : Z.Warmed39 s.vm) (eT : T.heap = h) {g : Nat → Value} (F : AF Z h a ty n g) (hty : ty.isReference = true) {j : Int32} {k : Nat} (hk : j.toInt = k) (hn : k < n) {f : JFrame} (hg : f.method = m) {rest : List Value} (hs : f.stack = .int j :: .ref a :: rest) (hd : decode c.code f.pc = .ok (.aaload, 1)) :
    ∀ target, Steps p.tables e below (T.setTop { f with pc := f.pc + 1, stack := g k :: rest }) target → Steps p.tables e below (T.setTop f) target := by
  obtain ⟨cl, A, S, M, G⟩ := F
  intro target kt
  exact X.aaload hx (by rw [eT]; exact A.1) (State.isArrayOf_alike hZ.alike A.2.1) hty A.2.2 (own_in S hk hn) (by rw [own_nat hk]; exact G k hn) hg hs hd target kt
theorem alen (X : Stand p l e R s m args below meth c T locs cells slots) (hx : p.tables.exec = Jvm.exec) (hZ : Z.Warmed39 s.vm) (eT : T.heap = h) {g : Nat → Value} (F : AF Z h a ty n g) {z : Int32} (hz : z.toInt = n) {f : JFrame} (hg : f.method = m) {rest : List Value} (hs : f.stack = .ref a :: rest) (hd : decode c.code f.pc = .ok (.arraylength, 1)) :
    ∀ target, Steps p.tables e below (T.setTop { f with pc := f.pc + 1, stack := .int z :: rest }) target → Steps p.tables e below (T.setTop f) target := by
  obtain ⟨cl, A, S, M, G⟩ := F
  intro target kt
  have h0 : ¬ z < 0 := by
    rw [Int32.lt_iff_toInt_lt, hz]
    have : (0 : Int32).toInt = 0 := rfl
    omega
  have q : cl.slots.size.toInt32 = z := by rw [S, ← own_nat hz]; exact (back32 h0).1
  refine X.arraylength hx (by rw [eT]; exact A.1) (State.isArrayOf_alike hZ.alike A.2.1) hg hs hd target ?_
  rw [q]; exact kt
end Loads
section Stores
theorem puI (X : Stand p l e R s m args below meth c T locs cells slots) (hx : p.tables.exec = Jvm.exec) (hZ : Z.Warmed39 s.vm) (eT : T.heap = h) {g : Nat → Int32} (F : AI Z h a .int n g) {j x : Int32} {k : Nat} (hk : j.toInt = k) (hn : k < n) {f : JFrame} (hg : f.method = m) {rest : List Value} (hs : f.stack = .int x :: .int j :: .ref a :: rest) (hd : decode c.code f.pc = .ok (.iastore, 1)) :
    ∃ T' h', Stand p l e R s m args below meth c T' (locs ++ [⟨a, k⟩]) cells slots ∧ T'.heap = h' ∧ Wr h h' a k (.int x) ∧ AI Z h' a .int n (upv g k x) ∧ ∀ target, Steps p.tables e below (T'.setTop { f with pc := f.pc + 1, stack := rest }) target → Steps p.tables e below (T.setTop f) target := by
  obtain ⟨cl, A, S, M, G⟩ := id F
  obtain ⟨T', h', X', e', W, st⟩ := stI X hx hZ eT A (j := j) (own_in S hk hn) hg hs hd
  rw [own_nat hk] at X' W
  exact ⟨T', h', X', e', W, AI.set F W, st⟩
theorem puB (X : Stand p l e R s m args below meth c T locs cells slots) (hx : p.tables.exec = Jvm.exec) (hZ : Z.Warmed39 s.vm) (eT : T.heap = h) {g : Nat → Int32} (F : AI Z h a .byte n g) {j x : Int32} {k : Nat} (hk : j.toInt = k) (hn : k < n) {f : JFrame} (hg : f.method = m) {rest : List Value} (hs : f.stack = .int x :: .int j :: .ref a :: rest) (hd : decode c.code f.pc = .ok (.bastore, 1)) :
    ∃ T' h', Stand p l e R s m args below meth c T' (locs ++ [⟨a, k⟩]) cells slots ∧ T'.heap = h' ∧ Wr h h' a k (.int x.toInt8.toInt32) ∧ AI Z h' a .byte n (upv g k x.toInt8.toInt32) ∧ ∀ target, Steps p.tables e below (T'.setTop { f with pc := f.pc + 1, stack := rest }) target → Steps p.tables e below (T.setTop f) target := by
  obtain ⟨cl, A, S, M, G⟩ := id F
  obtain ⟨T', h', X', e', W, st⟩ := stB X hx hZ eT A (j := j) (own_in S hk hn) hg hs hd
  rw [own_nat hk] at X' W
  exact ⟨T', h', X', e', W, AI.set F W, st⟩
theorem puJ (X : Stand p l e R s m args below meth c T locs cells slots) (hx : p.tables.exec = Jvm.exec) (hZ : Z.Warmed39 s.vm) (eT : T.heap = h) {g : Nat → Int64} (F : AJ Z h a .long n g) {j : Int32} {x : Int64} {k : Nat} (hk : j.toInt = k) (hn : k < n) {f : JFrame} (hg : f.method = m) {rest : List Value} (hs : f.stack = .long x :: .int j :: .ref a :: rest) (hd : decode c.code f.pc = .ok (.lastore, 1)) :
    ∃ T' h', Stand p l e R s m args below meth c T' (locs ++ [⟨a, k⟩]) cells slots ∧ T'.heap = h' ∧ Wr h h' a k (.long x) ∧ AJ Z h' a .long n (upv g k x) ∧ ∀ target, Steps p.tables e below (T'.setTop { f with pc := f.pc + 1, stack := rest }) target → Steps p.tables e below (T.setTop f) target := by
  obtain ⟨cl, A, S, M, G⟩ := id F
  obtain ⟨T', h', X', e', W, st⟩ := stJ X hx hZ eT A (j := j) (own_in S hk hn) hg hs hd
  rw [own_nat hk] at X' W
  exact ⟨T', h', X', e', W, AJ.set F W, st⟩
theorem puR (X : Stand p l e R s m args below meth c T locs cells slots) (hx : p.tables.exec = Jvm.exec) (hZ : Z.Warmed39 s.vm) (eT : T.heap = h) {g : Nat → Value} (F : AF Z h a ty n g) (hty : ty.isReference = true) {j : Int32} {x : Value} (O : Sto Z h a x) {k : Nat} (hk : j.toInt = k) (hn : k < n) {f : JFrame} (hg : f.method = m) {rest : List Value} (hs : f.stack = x :: .int j :: .ref a :: rest) (hd : decode c.code f.pc = .ok (.aastore, 1)) :
    ∃ T' h', Stand p l e R s m args below meth c T' (locs ++ [⟨a, k⟩]) cells slots ∧ T'.heap = h' ∧ Wr h h' a k x ∧ AF Z h' a ty n (upv g k x) ∧ ∀ target, Steps p.tables e below (T'.setTop { f with pc := f.pc + 1, stack := rest }) target → Steps p.tables e below (T.setTop f) target := by
  obtain ⟨cl, A, S, M, G⟩ := id F
  obtain ⟨T', h', X', e', W, st⟩ := stR X hx hZ eT A (j := j) (own_in S hk hn) hty O hg hs hd
  rw [own_nat hk] at X' W
  exact ⟨T', h', X', e', W, AF.set F W, st⟩
theorem newAF (X : Stand p l e R s m args below meth c T locs cells slots) (hx : p.tables.exec = Jvm.exec) (hZ : Z.Warmed39 s.vm) {aty : ArrayType} (w : (Cond.arrayClass (newarray.typeOf aty)).before a0 Z = true) (eT : T.heap = h) {f : JFrame} (hg : f.method = m) (hd : decode c.code f.pc = .ok (.newarray aty, 2)) {z : Int32} {rest : List Value} (hs : f.stack = .int z :: rest)
    {k : Nat} (hk : z.toInt = k) {cap : Nat} (hcap : k ≤ cap) (hb : cap * 8 ≤ 536870912) (hc : cells + 1 ≤ R.cells) (hl : slots + cap ≤ R.slots) :
    ∃ T' h', Stand p l e R s m args below meth c T' locs (cells + 1) (slots + cap) ∧ T'.heap = h' ∧ Ext h h' ∧ AF Z h' h.size (newarray.typeOf aty) k (fun _ => defaultValue (newarray.typeOf aty)) ∧
      ∀ target, Steps p.tables e below (T'.setTop { f with pc := f.pc + 2, stack := .ref h.size :: rest }) target → Steps p.tables e below (T.setTop f) target := by
  have h0 : ¬ z < 0 := by
    rw [Int32.lt_iff_toInt_lt, hk]
    have : (0 : Int32).toInt = 0 := rfl
    omega
  obtain ⟨T', h', cA, X', e', E, A, st⟩ := newP X hx hZ w eT hg hd hs h0 (cap := cap) (by rw [own_nat hk]; exact hcap) hb hc hl
  exact ⟨T', h', X', e', E, AF.fresh A hk, st⟩
end Stores
theorem hide (X : Stand p l e R s m args below meth c T locs cells slots) {n0 : Nat} (N : Fr n0 locs) {C S : Nat} (hc : cells ≤ C) (hs : slots ≤ S) : ∃ L, Stand p l e R s m args below meth c T L C S ∧ Fr n0 L := ⟨locs, X.more hc hs, N⟩
theorem own_selects {args' : Array Value} {U : State} {y : MethodName} {k : Nat} (wi : (Cond.instantiable y.cls k).before args' U = true) (hpriv : U.PrivateAt y) (hinst : (Cond.instanceMethod y).before args' U = true) (hy : y.cls ≠ "java/lang/invoke/MethodHandle" ∧ y.cls ≠ "java/lang/invoke/VarHandle") : (Cond.selects y.cls y y).before args' U = true := by
  obtain ⟨c1, k1, i1, i2, -, i3, -⟩ := Cond.instantiable_spec wi
  have hni : k1.isInterface = false := by cases q : k1.isInterface <;> simp [q] at i3 ⊢
  exact Jvm.Stand.selects_self_of_private i1 i2 hni hpriv hinst hy
theorem isRef_cat {w : Value} (q : w.isRef = true) : w.category = 1 := by
  rcases ref_cases q with rfl | ⟨x, rfl⟩ <;> rfl
theorem mem1 {α : Type} (x : α) (L : List α) : x ∈ x :: L := List.mem_cons_self
theorem mem2 {α : Type} (x y : α) (L : List α) : x ∈ y :: x :: L := List.mem_cons_of_mem _ List.mem_cons_self
end OwnHeap
end Jvm.RoadKit
namespace Jvm.RoadKit
open Sem ClassFile Op Lib Jvm.Stand Jvm.Free Jvm.LawKit
section OwnCopy
variable {p : Program} {l : Launch} {e : Env} {R : Room} {s : State} {m : MethodId} {args : Array Value} {below : List Frame} {meth : Method} {c : Code} {T : State} {locs : List Loc} {cells slots : Nat} {Z : State} {a0 : Array Value} {h h' : Heap} {a b : Addr} {ty : FieldType} {n : Nat}
theorem own_map {g : Nat → Int64} {i : Nat} (hi : i < n) (d : Value) : ((List.range n).map fun j => Value.long (g j)).getD i d = .long (g i) := by
  simp [List.getD_eq_getElem?_getD, hi]
theorem own_z (h : n < 2147483648) : ∃ z : Int32, z.toInt = n := ⟨Int32.ofInt n, Int32.toInt_ofInt_of_le (by omega) (by omega)⟩
theorem AJ.arv {g : Nat → Int64} {z : Int32} (F : AJ Z h a .long n g) (hz : z.toInt = n) : ∃ k, Arv Z h a k .long z ((List.range n).map fun j => Value.long (g j)) (.long 0) := by
  obtain ⟨c, A, S, M, G⟩ := F
  refine ⟨c.cls, c, A, rfl, by rw [S, own_nat hz], ?_, fun i hi => ?_, fun i hi => ?_⟩
  · rw [Int32.lt_iff_toInt_lt, hz]
    have : (0 : Int32).toInt = 0 := rfl
    omega
  · rw [own_map (by omega)]; exact G i (by omega)
  · rw [own_map (by omega)]; rfl
theorem Arv.aj {g : Nat → Int64} {z : Int32} {k : ClassId} {vs : List Value} {d : Value} (F : Arv Z h a k .long z vs d) (hz : z.toInt = n) (q : ∀ j, j < n → vs.getD j d = .long (g j)) : AJ Z h a .long n g := by
  obtain ⟨c, A, -, S, M, G, -⟩ := F
  rw [own_nat hz] at S
  have := z.toInt_lt
  exact ⟨c, A, S, by omega, fun j hj => by rw [G j (by omega), q j hj]⟩
theorem cpJ (X : Stand p l e R s m args below meth c T locs cells slots) (hx : p.tables.exec = Jvm.exec) (hZ : Z.Warmed39 s.vm) {own : String} {index : Nat} (hown : s.vm.findClass own = some m.cls)
    (w1 : (Cond.methodLink own index Jvm.Stand.acN).before a0 Z = true) (w2 : (Cond.native Jvm.Stand.acN).before a0 Z = true) (w3 : (Cond.static Jvm.Stand.acN).before a0 Z = true) (w4 : (Cond.initialized "java/lang/System").before a0 Z = true) (eT : T.heap = h)
    {n1 n2 k : Nat} {g1 g2 : Nat → Int64} (A : AJ Z h a .long n1 g1) (B : AJ Z h b .long n2 g2) {nn : Int32} (hk : nn.toInt = k) (h1 : k ≤ n1) (h2 : k ≤ n2) {n0 : Nat} (N : Fr n0 locs) (ge : n0 ≤ b)
    {f : JFrame} (hg : f.method = m) (hsize : f.locals.size = c.maxLocals) {rest : List Value} (hs : f.stack = .int nn :: .int 0 :: .ref b :: .int 0 :: .ref a :: rest) (hd : decode c.code f.pc = .ok (.invokestatic index, 3))
    (hf : 1 ≤ R.frames) {W : Nat} (hW : 2 * f.monitorRoom + (rest.map fun v => v.category).sum ≤ W) (hlo : W + (nativeFrameWords "java/lang/System" "arraycopy" 5 + 11) ≤ R.locals) :
    ∃ T' h' L, Stand p l e R s m args below meth c T' L cells slots ∧ T'.heap = h' ∧ Fr n0 L ∧ Keep h h' [b] ∧ AJ Z h' b .long n2 (fun j => if j < k then g1 j else g2 j) ∧
      ∀ target, Steps p.tables e below (T'.setTop { f with pc := f.pc + 3, stack := rest }) target → Steps p.tables e below (T.setTop f) target := by
  obtain ⟨z1, hz1⟩ := own_z (AF.len A)
  obtain ⟨z2, hz2⟩ := own_z (AF.len B)
  obtain ⟨k1, A1⟩ := AJ.arv A hz1
  obtain ⟨k2, B1⟩ := AJ.arv B hz2
  have e0 : (0 : Int32).toNatClampNeg = 0 := rfl
  have en : nn.toNatClampNeg = k := own_nat hk
  obtain ⟨T', h', L, X', e', N', K', V', st⟩ := cpA X hx hZ hown w1 w2 w3 w4 eT A1 B1 (sp := 0) (dp := 0) (nn := nn) (us := (List.range nn.toNatClampNeg).map fun i => ((List.range n1).map fun j => Value.long (g1 j)).getD ((0 : Int32).toNatClampNeg + i) (.long 0)) (Or.inl ⟨rfl, rfl⟩) (by decide) (by decide)
    (by rw [Int32.lt_iff_toInt_lt, hk]; have : (0 : Int32).toInt = 0 := rfl
        omega)
    (by rw [e0, en, own_nat hz1]; omega) (by rw [e0, en, own_nat hz2]; omega) rfl (by rw [e0, en]; simp; exact h2) N ge hg hsize hs hd hf hW hlo
  refine ⟨T', h', L, X', e', N', K', Arv.aj V' hz2 (fun j hj => ?_), st⟩
  rw [e0, en]
  simp only [List.take_zero, List.nil_append, Nat.zero_add, List.getD_eq_getElem?_getD]
  by_cases q : j < k
  · rw [List.getElem?_append_left (by simp; exact q), if_pos q]
    simp [q, Nat.lt_of_lt_of_le q h1]
  · rw [List.getElem?_append_right (by simp; omega), if_neg q]
    simp only [List.length_map, List.length_range, List.getElem?_drop]
    rw [show k + (j - k) = j by omega]
    simp [hj]
end OwnCopy
end Jvm.RoadKit
namespace Jvm.Pilot.@@N@@
open Jvm Jvm.ClassFile Sem Op Lib Jvm.Free Jvm.Stand Jvm.LawKit Jvm.RoadKit Bundle Jvm.Pilot.@@N@@.Jvm.D
def colA (q : Int64) : Nat → Int64 → Int64
  | 0, a => a
  | n + 1, a => colA q n ((a * q) + 1)
theorem own_left {i i1 : Int32} {n : Nat} (h : i1.toInt - i.toInt = (n : Int) + 1) : i < i1 ∧ i1.toInt - (i + 1).toInt = n := by
  have a := c_iadd i 1
  have h1 : (1 : Int32).toInt = 1 := by decide
  have r1 := rng32 i
  have r2 := rng32 i1
  have r3 := rng32 (i + 1)
  rw [Int32.lt_iff_toInt_lt]
  omega
theorem d3_5 : decode prog_10_method_16_code 5 = .ok (.iload 4, 2) := by decide +kernel
theorem d3_7 : decode prog_10_method_16_code 7 = .ok (.iload_n 1, 1) := by decide +kernel
theorem d3_8 : decode prog_10_method_16_code 8 = .ok (.if_icmp .ge 16, 3) := by decide +kernel
theorem d3_24 : decode prog_10_method_16_code 24 = .ok (.lload_n 2, 1) := by decide +kernel
theorem d3_25 : decode prog_10_method_16_code 25 = .ok (.lreturn, 1) := by decide +kernel
theorem d3_11 : decode prog_10_method_16_code 11 = .ok (.lload_n 2, 1) := by decide +kernel
theorem d3_12 : decode prog_10_method_16_code 12 = .ok (.iload_n 0, 1) := by decide +kernel
theorem d3_13 : decode prog_10_method_16_code 13 = .ok (.i2l, 1) := by decide +kernel
theorem d3_14 : decode prog_10_method_16_code 14 = .ok (.lmul, 1) := by decide +kernel
theorem d3_15 : decode prog_10_method_16_code 15 = .ok (.lconst 1, 1) := by decide +kernel
theorem d3_16 : decode prog_10_method_16_code 16 = .ok (.ladd, 1) := by decide +kernel
theorem d3_17 : decode prog_10_method_16_code 17 = .ok (.lstore_n 2, 1) := by decide +kernel
theorem d3_18 : decode prog_10_method_16_code 18 = .ok (.iinc 4 1, 3) := by decide +kernel
theorem d3_21 : decode prog_10_method_16_code 21 = .ok (.goto (-16), 3) := by decide +kernel
set_option maxRecDepth 65536 in
set_option maxHeartbeats 40000000 in
theorem loopc {p : Program} {l : Launch} {e : Env} {s : State} {m : MethodId} {args : Array Value} {below : List Frame} {meth : Method} {c : Code} {Z : State} {a0 : Array Value} (hx : p.tables.exec = Jvm.exec) (hZ : Z.Warmed39 s.vm) (hw : ∀ d ∈ tables_1, d.before a0 Z = true) (hby : c.code = prog_10_method_16_code) (hml : c.maxLocals = 5) (hown : s.vm.findClass "com/example/bitmend/bitmend/CodeParameters" = some m.cls) (hnm : meth.name = "columns") (hret : meth.sig.returnType = some .long) (hlk : meth.locks = false) (i0 i1 : Int32) (h0 : Heap) (n0 : Nat) : ∀ (n : Nat) (T : State) (locs : List Loc) (X0 : Stand p l e ({ frames := 0, cells := 0, slots := 0, locals := 0 } : Room) s m args below meth c T locs 0 0) (N0 : Fr n0 locs) (e0 : T.heap = h0) (i : Int32) (ch : Int64) (hi : i1.toInt - i.toInt = n),
    Outs p e below s (QR (some (.long (colA (i0.toInt64) n ch))) h0 n0) 0 0 (T.setTop (mkF m 5 #[.val (.int i0), .val (.int i1), .val (.long ch), .second, .val (.int i)] [])) := by
  intro n
  induction n with
  | zero =>
    intro T locs X0 N0 e0 i ch hi
    have h8 : ¬ i < i1 := by rw [Int32.lt_iff_toInt_lt]; omega
    refine Outs.of (U' := T.setTop (mkF m 25 #[.val (.int i0), .val (.int i1), .val (.long ch), .second, .val (.int i)] [(.long ch)])) (fun t k => ?_) ?_
    · refine XS.iload X0.here hx rfl (hb hby d3_5) rfl ?_
      refine XS.iloadN X0.here hx rfl (hb hby d3_7) rfl ?_
      refine XS.icmpYes X0.here hx rfl (pc0 := 8) (pc' := 24) rfl (hb hby d3_8) rfl (flt h8).2.1 (by decide) (by decide) ?_
      refine XS.lloadN X0.here hx rfl (hb hby d3_24) rfl ?_
      exact k
    exact Outs.retL X0 hx hret (hb hby d3_25) hlk (by decide) (by decide) e0 ⟨rfl, N0, rfl⟩
  | succ n ih =>
    intro T locs X0 N0 e0 i ch hi
    have h8 := own_left hi
    refine Outs.of (U' := T.setTop (mkF m 5 #[.val (.int i0), .val (.int i1), .val (.long ((ch * (i0.toInt64)) + (1 : Int64))), .second, .val (.int (i + (1 : Int32)))] [])) (fun t k => ?_) ?_
    · refine XS.iload X0.here hx rfl (hb hby d3_5) rfl ?_
      refine XS.iloadN X0.here hx rfl (hb hby d3_7) rfl ?_
      refine XS.icmpNo X0.here hx rfl (hb hby d3_8) rfl (tlt h8.1).2.1 ?_
      refine XS.lloadN X0.here hx rfl (hb hby d3_11) rfl ?_
      refine XS.iloadN X0.here hx rfl (hb hby d3_12) rfl ?_
      refine XS.i2l X0.here hx rfl (hb hby d3_13) rfl ?_
      refine XS.lmul X0.here hx rfl (hb hby d3_14) rfl ?_
      refine XS.lconst X0.here hx rfl (hb hby d3_15) ?_
      refine XS.ladd X0.here hx rfl (hb hby d3_16) rfl ?_
      refine XS.lstoreN X0.here hx rfl (hb hby d3_17) rfl (l' := #[.val (.int i0), .val (.int i1), .val (.long ((ch * (i0.toInt64)) + (1 : Int64))), .second, .val (.int i)]) rfl ?_
      refine XS.iinc X0.here hx rfl (hb hby d3_18) rfl (l' := #[.val (.int i0), .val (.int i1), .val (.long ((ch * (i0.toInt64)) + (1 : Int64))), .second, .val (.int (i + (1 : Int32)))]) rfl ?_
      refine XS.goto X0.here hx rfl (pc0 := 21) (pc' := 5) rfl (hb hby d3_21) (by decide) (by decide) ?_
      exact k
    exact ih T locs X0 N0 e0 (i + 1) ((ch * (i0.toInt64)) + 1) h8.2
theorem ef_3 (m : MethodId) (x0 : Int32) (x1 : Int32) : entryFrame m #[(.int x0), (.int x1)] 5 = mkF m 0 #[.val (.int x0), .val (.int x1), .unset, .unset, .unset] [] := by first | (simp [entryFrame, mkF, argsToLocals, Value.category]; done) | rfl
theorem d3_0 : decode prog_10_method_16_code 0 = .ok (.lconst 0, 1) := by decide +kernel
theorem d3_1 : decode prog_10_method_16_code 1 = .ok (.lstore_n 2, 1) := by decide +kernel
theorem d3_2 : decode prog_10_method_16_code 2 = .ok (.iconst 0, 1) := by decide +kernel
theorem d3_3 : decode prog_10_method_16_code 3 = .ok (.istore 4, 2) := by decide +kernel
theorem pn_3 : plainName "com/example/bitmend/bitmend/CodeParameters" = true := by first | (simp [plainName, overriddenIn]; done) | decide +kernel
def F_f3 (i0 : Int32) (i1 : Int32) : Int64 := (colA (i0.toInt64) (i1.toInt.toNat) (0 : Int64))
set_option maxRecDepth 65536 in
set_option maxHeartbeats 40000000 in
theorem rm3 (l : Launch) (Z : State) (a0 : Array Value) (hw : ∀ d ∈ tables_1, d.before a0 Z = true) (ws : List Jvm.Cond) (i0 : Int32) (i1 : Int32)  (h0 : Heap) (n0 : Nat) (hpos : 0 ≤ i1.toInt) :
    MetFree l (⟨"com/example/bitmend/bitmend/CodeParameters", "columns", "(II)J"⟩ : MethodName) (head1 (Jvm.Cond.code (⟨"com/example/bitmend/bitmend/CodeParameters", "columns", "(II)J"⟩ : MethodName) prog_10_method_16_code 5 (some .long) :: ws) ({ frames := 0, cells := 0, slots := 0, locals := 0 } : Room)) (fun a U => a = #[(.int i0), (.int i1)] ∧ Z.Warmed39 U.vm ∧ U.heap = h0) (fun _ _ _ _ _ => True) (fun _ U o U' => ∃ v L, o = .returned v ∧ QR (some (.long (F_f3 i0 i1))) h0 n0 v U'.heap L ∧ FrameEnd U o U' L ({ frames := 0, cells := 0, slots := 0, locals := 0 } : Room).cells ({ frames := 0, cells := 0, slots := 0, locals := 0 } : Room).slots) := by
  refine MetFree.of_bodySF (plainFor_of_name pn_3) hisR ?_
  intro p e s m args below meth c s₁ Bd hml0 hP hK
  obtain ⟨rfl, hZ, hh⟩ := hP
  have hx := Bd.exec
  have hby := Bd.bytes
  have hml : c.maxLocals = 5 := hml0
  have hown : s.vm.findClass "com/example/bitmend/bitmend/CodeParameters" = some m.cls := findClass_of_methodNamed Bd.named
  have hnm := (name_of_methodNamed Bd.named Bd.method).1
  have hret := Bd.returns
  have hlk : meth.locks = false := BodyLoose.notSynchronized Bd
  have X0 : Stand p l e ({ frames := 0, cells := 0, slots := 0, locals := 0 } : Room) s m #[(.int i0), (.int i1)] below meth c s₁ [] 0 0 := Stand.of_body Bd
  have e0 : s₁.heap = h0 := by rw [← hh, Bd.state]; rfl
  have N0 := Fr.nil n0
  show Outs p e below s (QR (some (.long (F_f3 i0 i1))) h0 n0) _ _ _
  refine Outs.of (U' := s₁.setTop (mkF m 0 #[.val (.int i0), .val (.int i1), .unset, .unset, .unset] [])) (fun t k => castTop (ef_3 m i0 i1) k) ?_
  refine Outs.of (U' := s₁.setTop (mkF m 5 #[.val (.int i0), .val (.int i1), .val (.long (0 : Int64)), .second, .val (.int (0 : Int32))] [])) (fun t k => ?_) ?_
  · refine XS.lconst X0.here hx rfl (hb hby d3_0) ?_
    refine XS.lstoreN X0.here hx rfl (hb hby d3_1) rfl (l' := #[.val (.int i0), .val (.int i1), .val (.long (0 : Int64)), .second, .unset]) rfl ?_
    refine XS.iconst X0.here hx rfl (hb hby d3_2) ?_
    refine XS.istore X0.here hx rfl (hb hby d3_3) rfl (l' := #[.val (.int i0), .val (.int i1), .val (.long (0 : Int64)), .second, .val (.int (0 : Int32))]) rfl ?_
    exact k
  rw [show (F_f3 i0 i1) = (colA (i0.toInt64) (i1.toInt.toNat) (0 : Int64)) from rfl]
  exact loopc hx hZ hw hby hml hown hnm hret hlk i0 i1 h0 n0 _ s₁ _ X0 N0 e0 0 0 (by rw [Int.toNat_of_nonneg hpos]; exact Int.sub_zero _)
theorem ef_5 (m : MethodId) (x0 : Int32) (x1 : Int32) : entryFrame m #[(.int x0), (.int x1)] 2 = mkF m 0 #[.val (.int x0), .val (.int x1)] [] := by first | (simp [entryFrame, mkF, argsToLocals, Value.category]; done) | rfl
theorem d5_0 : decode jdk_29_method_69_code 0 = .ok (.iload_n 0, 1) := by decide +kernel
theorem d5_1 : decode jdk_29_method_69_code 1 = .ok (.iload_n 1, 1) := by decide +kernel
theorem d5_2 : decode jdk_29_method_69_code 2 = .ok (.if_icmp .gt 7, 3) := by decide +kernel
theorem d5_9 : decode jdk_29_method_69_code 9 = .ok (.iload_n 1, 1) := by decide +kernel
theorem d5_5 : decode jdk_29_method_69_code 5 = .ok (.iload_n 0, 1) := by decide +kernel
theorem d5_6 : decode jdk_29_method_69_code 6 = .ok (.goto 4, 3) := by decide +kernel
theorem d5_10 : decode jdk_29_method_69_code 10 = .ok (.ireturn, 1) := by decide +kernel
def f5_2_s0 (i0 : Int32) (i1 : Int32) : Int32 := (if i1 < i0 then i1 else i0)
def F_f5 (i0 : Int32) (i1 : Int32) : Int32 := (f5_2_s0 i0 i1)
set_option maxRecDepth 65536 in
set_option maxHeartbeats 40000000 in
theorem rm5 (l : Launch) (Z : State) (a0 : Array Value) (hw : ∀ d ∈ tables_1, d.before a0 Z = true) (ws : List Jvm.Cond) (i0 : Int32) (i1 : Int32)  (h0 : Heap) (n0 : Nat)  :
    MetFree l (⟨"java/lang/Math", "min", "(II)I"⟩ : MethodName) (head1 (Jvm.Cond.code (⟨"java/lang/Math", "min", "(II)I"⟩ : MethodName) jdk_29_method_69_code 2 (some .int) :: ws) ({ frames := 0, cells := 0, slots := 0, locals := 0 } : Room)) (fun a U => a = #[(.int i0), (.int i1)] ∧ Z.Warmed39 U.vm ∧ U.heap = h0) (fun _ _ _ _ _ => True) (fun _ U o U' => ∃ v L, o = .returned v ∧ QR (some (.int (F_f5 i0 i1))) h0 n0 v U'.heap L ∧ FrameEnd U o U' L ({ frames := 0, cells := 0, slots := 0, locals := 0 } : Room).cells ({ frames := 0, cells := 0, slots := 0, locals := 0 } : Room).slots) := by
  refine MetFree.of_bodySF (Jvm.Free.JP.mathPlain rfl (by decide +kernel)) hisR ?_
  intro p e s m args below meth c s₁ Bd hml0 hP hK
  obtain ⟨rfl, hZ, hh⟩ := hP
  have hx := Bd.exec
  have hby := Bd.bytes
  have hml : c.maxLocals = 2 := hml0
  have hown : s.vm.findClass "java/lang/Math" = some m.cls := findClass_of_methodNamed Bd.named
  have hnm := (name_of_methodNamed Bd.named Bd.method).1
  have hret := Bd.returns
  have hlk : meth.locks = false := BodyLoose.notSynchronized Bd
  have X0 : Stand p l e ({ frames := 0, cells := 0, slots := 0, locals := 0 } : Room) s m #[(.int i0), (.int i1)] below meth c s₁ [] 0 0 := Stand.of_body Bd
  have e0 : s₁.heap = h0 := by rw [← hh, Bd.state]; rfl
  have N0 := Fr.nil n0
  show Outs p e below s (QR (some (.int (F_f5 i0 i1))) h0 n0) _ _ _
  refine Outs.of (U' := s₁.setTop (mkF m 0 #[.val (.int i0), .val (.int i1)] [])) (fun t k => castTop (ef_5 m i0 i1) k) ?_
  refine Outs.of (U' := s₁.setTop (mkF m 10 #[.val (.int i0), .val (.int i1)] [(.int (f5_2_s0 i0 i1))])) (fun t k => ?_) ?_
  · refine XS.iloadN X0.here hx rfl (hb hby d5_0) rfl ?_
    refine XS.iloadN X0.here hx rfl (hb hby d5_1) rfl ?_
    by_cases hc2 : i1 < i0
    · refine XS.icmpYes X0.here hx rfl (pc0 := 2) (pc' := 9) rfl (hb hby d5_2) rfl (tlt hc2).2.2.1 (by decide) (by decide) ?_
      refine XS.iloadN X0.here hx rfl (hb hby d5_9) rfl ?_
      rw [show (f5_2_s0 i0 i1) = i1 from (if_pos hc2)] at k
      exact k
    · refine XS.icmpNo X0.here hx rfl (hb hby d5_2) rfl (flt hc2).2.2.1 ?_
      refine XS.iloadN X0.here hx rfl (hb hby d5_5) rfl ?_
      refine XS.goto X0.here hx rfl (pc0 := 6) (pc' := 10) rfl (hb hby d5_6) (by decide) (by decide) ?_
      rw [show (f5_2_s0 i0 i1) = i0 from (if_neg hc2)] at k
      exact k
  exact Outs.retI X0 hx hret (hb hby d5_10) hlk (by decide) (by decide) e0 ⟨congrArg (fun z_ => some (Value.int z_)) (show (F_f5 i0 i1) = (f5_2_s0 i0 i1) from rfl).symm, N0, rfl⟩
theorem ef_4 (m : MethodId) (x0 : Addr) (x1 : Int32) : entryFrame m #[(.ref x0), (.int x1)] 3 = mkF m 0 #[.val (.ref x0), .val (.int x1), .unset] [] := by first | (simp [entryFrame, mkF, argsToLocals, Value.category]; done) | rfl
theorem d4_0 : decode jdk_65_method_124_code 0 = .ok (.iload_n 1, 1) := by decide +kernel
theorem d4_1 : decode jdk_65_method_124_code 1 = .ok (.aload_n 0, 1) := by decide +kernel
theorem d4_2 : decode jdk_65_method_124_code 2 = .ok (.arraylength, 1) := by decide +kernel
theorem d4_3 : decode jdk_65_method_124_code 3 = .ok (.if_icmp .ne 11, 3) := by decide +kernel
theorem d4_14 : decode jdk_65_method_124_code 14 = .ok (.iload_n 1, 1) := by decide +kernel
theorem d4_15 : decode jdk_65_method_124_code 15 = .ok (.newarray .long, 2) := by decide +kernel
theorem d4_17 : decode jdk_65_method_124_code 17 = .ok (.astore_n 2, 1) := by decide +kernel
theorem d4_18 : decode jdk_65_method_124_code 18 = .ok (.aload_n 0, 1) := by decide +kernel
theorem d4_19 : decode jdk_65_method_124_code 19 = .ok (.iconst 0, 1) := by decide +kernel
theorem d4_20 : decode jdk_65_method_124_code 20 = .ok (.aload_n 2, 1) := by decide +kernel
theorem d4_21 : decode jdk_65_method_124_code 21 = .ok (.iconst 0, 1) := by decide +kernel
theorem d4_22 : decode jdk_65_method_124_code 22 = .ok (.aload_n 0, 1) := by decide +kernel
theorem d4_23 : decode jdk_65_method_124_code 23 = .ok (.arraylength, 1) := by decide +kernel
theorem d4_24 : decode jdk_65_method_124_code 24 = .ok (.iload_n 1, 1) := by decide +kernel
theorem pd_4 : parseMethodDescriptor "(II)I" = some ⟨[.int, .int], some .int⟩ := by decide +kernel
theorem d4_25 : decode jdk_65_method_124_code 25 = .ok (.invokestatic 304, 3) := by decide +kernel
theorem d4_28 : decode jdk_65_method_124_code 28 = .ok (.invokestatic 150, 3) := by decide +kernel
theorem d4_31 : decode jdk_65_method_124_code 31 = .ok (.aload_n 2, 1) := by decide +kernel
theorem d4_32 : decode jdk_65_method_124_code 32 = .ok (.areturn, 1) := by decide +kernel
theorem pn_4 : plainName "java/util/Arrays" = true := by first | (simp [plainName, overriddenIn]; done) | decide +kernel
def cp2_g28 (g : Nat → Int64) : Nat → Int64 := (fun j_ => if j_ < 32 then g j_ else (fun _ => (0 : Int64)) j_)
def Q_cp2 (Z : State) (o0 : Addr) (g : Nat → Int64) (h0 : Heap) (n0 : Nat) (v : Option Value) (h : Heap) (L : List Loc) : Prop := ∃ b1 : Addr, n0 ≤ b1 ∧ h0.size ≤ b1 ∧ v = some (.ref b1) ∧ Fr n0 L ∧ Keep h0 h [] ∧ AJ Z h b1 .long 32 (cp2_g28 g)
set_option maxRecDepth 65536 in
set_option maxHeartbeats 40000000 in
theorem rmcp2 (l : Launch) (Z : State) (a0 : Array Value) (hw : ∀ d ∈ tables_1, d.before a0 Z = true) (ws : List Jvm.Cond) (o0 : Addr) (g : Nat → Int64) (h0 : Heap) (n0 : Nat) (Z0 : n0 ≤ h0.size) (A_o0 : AJ Z h0 o0 .long 33 g) :
    MetFree l (⟨"java/util/Arrays", "copyOf", "([JI)[J"⟩ : MethodName) (head1 (Jvm.Cond.code (⟨"java/util/Arrays", "copyOf", "([JI)[J"⟩ : MethodName) jdk_65_method_124_code 3 (some (.array .long)) :: ws) ({ frames := 1, cells := 1, slots := 32, locals := 18 } : Room)) (fun a U => a = #[(.ref o0), (.int (32 : Int32))] ∧ Z.Warmed39 U.vm ∧ U.heap = h0) (fun _ _ _ _ _ => True) (fun _ U o U' => ∃ v L, o = .returned v ∧ Q_cp2 Z o0 g h0 n0 v U'.heap L ∧ FrameEnd U o U' L ({ frames := 1, cells := 1, slots := 32, locals := 18 } : Room).cells ({ frames := 1, cells := 1, slots := 32, locals := 18 } : Room).slots) := by
  refine MetFree.of_bodySF (plainFor_of_name pn_4) hisR ?_
  intro p e s m args below meth c s₁ Bd hml0 hP hK
  obtain ⟨rfl, hZ, hh⟩ := hP
  have hx := Bd.exec
  have hby := Bd.bytes
  have hml : c.maxLocals = 3 := hml0
  have hown : s.vm.findClass "java/util/Arrays" = some m.cls := findClass_of_methodNamed Bd.named
  have hnm := (name_of_methodNamed Bd.named Bd.method).1
  have hret := Bd.returns
  have hlk : meth.locks = false := BodyLoose.notSynchronized Bd
  have X0 : Stand p l e ({ frames := 1, cells := 1, slots := 32, locals := 18 } : Room) s m #[(.ref o0), (.int (32 : Int32))] below meth c s₁ [] 0 0 := Stand.of_body Bd
  have e0 : s₁.heap = h0 := by rw [← hh, Bd.state]; rfl
  have N0 := Fr.nil n0
  show Outs p e below s (Q_cp2 Z o0 g h0 n0) _ _ _
  refine Outs.of (U' := s₁.setTop (mkF m 0 #[.val (.ref o0), .val (.int (32 : Int32)), .unset] [])) (fun t k => castTop (ef_4 m o0 (32 : Int32)) k) ?_
  refine Outs.of (U' := s₁.setTop (mkF m 2 #[.val (.ref o0), .val (.int (32 : Int32)), .unset] [(.ref o0), (.int (32 : Int32))])) (fun t k => ?_) ?_
  · refine XS.iloadN X0.here hx rfl (hb hby d4_0) rfl ?_
    refine XS.aloadN X0.here hx rfl (hb hby d4_1) rfl rfl ?_
    exact k
  refine Outs.of (alen X0 hx hZ e0 A_o0 (z := (33 : Int32)) rfl (f := (mkF m 2 #[.val (.ref o0), .val (.int (32 : Int32)), .unset] [(.ref o0), (.int (32 : Int32))])) rfl rfl (hb hby d4_2)) ?_
  refine Outs.of (U' := s₁.setTop (mkF m 15 #[.val (.ref o0), .val (.int (32 : Int32)), .unset] [(.int (32 : Int32))])) (fun t k => ?_) ?_
  · refine XS.icmpYes X0.here hx rfl (pc0 := 3) (pc' := 14) rfl (hb hby d4_3) rfl (feq (show ¬ ((32 : Int32) = (33 : Int32)) from (by decide))).2 (by decide) (by decide) ?_
    refine XS.iloadN X0.here hx rfl (hb hby d4_14) rfl ?_
    exact k
  obtain ⟨T1, h1, X1, e1, E1, A1, st1⟩ := newAF X0 hx hZ (aty := .long) (hw _ (List.mem_of_getElem? (i := 11) rfl)) e0 (f := (mkF m 15 #[.val (.ref o0), .val (.int (32 : Int32)), .unset] [(.int (32 : Int32))])) rfl (hb hby d4_15) rfl (k := 32) rfl (cap := 32) (by decide) (by decide) (by decide) (by decide)
  obtain ⟨b1, g1⟩ : ∃ z, z = h0.size := ⟨_, rfl⟩
  rw [← g1] at A1 st1
  have g_b1 : n0 ≤ b1 := Nat.le_trans Z0 (Nat.le_of_eq g1.symm)
  have sz_b1 : h0.size ≤ b1 := Nat.le_trans (Keep.refl h0 []).1 (Nat.le_of_eq g1.symm)
  have ne_o0_b1 : o0 ≠ b1 := Nat.ne_of_lt (Nat.lt_of_lt_of_eq A_o0.lt g1.symm)
  have V1 : AJ Z h1 b1 .long 32 (fun _ => (0 : Int64)) := A1
  refine Outs.of st1 ?_
  refine Outs.of (U' := T1.setTop (mkF m 23 #[.val (.ref o0), .val (.int (32 : Int32)), .val (.ref b1)] [(.ref o0), (.int (0 : Int32)), (.ref b1), (.int (0 : Int32)), (.ref o0)])) (fun t k => ?_) ?_
  · refine XS.astoreN X1.here hx rfl (hb hby d4_17) rfl rfl (l' := #[.val (.ref o0), .val (.int (32 : Int32)), .val (.ref b1)]) rfl ?_
    refine XS.aloadN X1.here hx rfl (hb hby d4_18) rfl rfl ?_
    refine XS.iconst X1.here hx rfl (hb hby d4_19) ?_
    refine XS.aloadN X1.here hx rfl (hb hby d4_20) rfl rfl ?_
    refine XS.iconst X1.here hx rfl (hb hby d4_21) ?_
    refine XS.aloadN X1.here hx rfl (hb hby d4_22) rfl rfl ?_
    exact k
  have f2 : AJ Z h1 o0 .long 33 g := (A_o0.ext E1)
  refine Outs.of (alen X1 hx hZ e1 f2 (z := (33 : Int32)) rfl (f := (mkF m 23 #[.val (.ref o0), .val (.int (32 : Int32)), .val (.ref b1)] [(.ref o0), (.int (0 : Int32)), (.ref b1), (.int (0 : Int32)), (.ref o0)])) rfl rfl (hb hby d4_23)) ?_
  refine Outs.of (U' := T1.setTop (mkF m 25 #[.val (.ref o0), .val (.int (32 : Int32)), .val (.ref b1)] [(.int (32 : Int32)), (.int (33 : Int32)), (.int (0 : Int32)), (.ref b1), (.int (0 : Int32)), (.ref o0)])) (fun t k => ?_) ?_
  · refine XS.iloadN X1.here hx rfl (hb hby d4_24) rfl ?_
    exact k
  obtain ⟨_, _, ⟨T3, L3, k3, n3⟩, -, X3, ⟨Lc3, hQ3, l3, y3, z3⟩, st3⟩ := Jvm.LawKit.callS X1 hx (y := (⟨"java/lang/Math", "min", "(II)I"⟩ : MethodName)) hown (mvT hZ (hw _ (List.mem_of_getElem? (i := 21) rfl))) (mvT hZ (hw _ (List.mem_of_getElem? (i := 22) rfl))) (mvT hZ (hw _ (List.mem_of_getElem? (i := 23) rfl))) (mvT hZ (hw _ (List.mem_of_getElem? (i := 24) rfl))) (by decide) (backOf (W := 4) (rm5 l Z a0 hw [] (33 : Int32) (32 : Int32) h1 n0 ) hZ (hw _ (List.mem_of_getElem? (i := 24) rfl)) (hw _ (List.mem_of_getElem? (i := 23) rfl)) (by decide) (by decide)) (g := (mkF m 25 #[.val (.ref o0), .val (.int (32 : Int32)), .val (.ref b1)] [(.int (32 : Int32)), (.int (33 : Int32)), (.int (0 : Int32)), (.ref b1), (.int (0 : Int32)), (.ref o0)])) rfl (by rw [hml]; rfl) (argsL := [(.int (33 : Int32)), (.int (32 : Int32))]) (rest := [(.int (0 : Int32)), (.ref b1), (.int (0 : Int32)), (.ref o0)]) (lenOf pd_4 rfl) rfl (by show 2 * 0 + _ ≤ _; exact Nat.le_of_eq rfl) (hb hby d4_25) (fun _ _ => ⟨rfl, e1, (by decide : 1 + 0 ≤ _), (by decide : 32 + 0 ≤ _)⟩)
  dsimp only [Pt.U, Pt.locs, Pt.cells, Pt.slots] at X3 l3 y3 z3 st3 hQ3
  subst l3 y3 z3
  obtain ⟨rfl, N3q, e3⟩ := hQ3
  have N3 := Fr.app N0 N3q
  obtain ⟨Lh3, X3, N3⟩ := hide X3 N3 (C := 1) (S := 32) (by decide) (by decide)
  refine Outs.of st3 ?_
  obtain ⟨T4, h4, Lc4, X4, e4, N4, K4, V4, st4⟩ := cpJ X3 hx hZ hown (hw _ (List.mem_of_getElem? (i := 25) rfl)) (hw _ (List.mem_of_getElem? (i := 28) rfl)) (hw _ (List.mem_of_getElem? (i := 26) rfl)) (hw _ (List.mem_of_getElem? (i := 27) rfl)) e3 f2 V1 (nn := (32 : Int32)) (k := 32) rfl (by decide) (by decide) N3 g_b1 (f := (mkF m 28 #[.val (.ref o0), .val (.int (32 : Int32)), .val (.ref b1)] [(.int (32 : Int32)), (.int (0 : Int32)), (.ref b1), (.int (0 : Int32)), (.ref o0)])) rfl (by rw [hml]; rfl) rfl (hb hby d4_28) (by decide) (W := 0) (by show 2 * 0 + _ ≤ _; exact Nat.le_of_eq rfl) (by decide)
  replace V4 : AJ Z h4 b1 .long 32 (cp2_g28 g) := V4
  obtain ⟨Lh4, X4, N4⟩ := hide X4 N4 (C := 1) (S := 32) (by decide) (by decide)
  refine Outs.of st4 ?_
  refine Outs.of (U' := T4.setTop (mkF m 32 #[.val (.ref o0), .val (.int (32 : Int32)), .val (.ref b1)] [(.ref b1)])) (fun t k => ?_) ?_
  · refine XS.aloadN X4.here hx rfl (hb hby d4_31) rfl rfl ?_
    exact k
  exact Outs.retA (w := (.ref b1)) X4 hx hret rfl rfl rfl (hb hby d4_32) hlk (by decide) (by decide) e4 ⟨b1, g_b1, sz_b1, rfl, N4, (((Keep.refl h0 []).ext E1).trans K4 (allS (Or.inr sz_b1) all0)), V4⟩
theorem ef_1 (m : MethodId) (x0 : Addr) (x1 : Int32) : entryFrame m #[(.ref x0), (.int x1)] 4 = mkF m 0 #[.val (.ref x0), .val (.int x1), .unset, .unset] [] := by first | (simp [entryFrame, mkF, argsToLocals, Value.category]; done) | rfl
theorem d1_0 : decode prog_35_method_1_code 0 = .ok (.aload_n 0, 1) := by decide +kernel
theorem d1_1 : decode prog_35_method_1_code 1 = .ok (.invokespecial 1, 3) := by decide +kernel
theorem d1_4 : decode prog_35_method_1_code 4 = .ok (.aload_n 0, 1) := by decide +kernel
theorem d1_5 : decode prog_35_method_1_code 5 = .ok (.iload_n 1, 1) := by decide +kernel
theorem d1_6 : decode prog_35_method_1_code 6 = .ok (.putfield 7, 3) := by decide +kernel
theorem d1_9 : decode prog_35_method_1_code 9 = .ok (.bipush 33, 2) := by decide +kernel
theorem d1_11 : decode prog_35_method_1_code 11 = .ok (.newarray .long, 2) := by decide +kernel
theorem d1_13 : decode prog_35_method_1_code 13 = .ok (.astore_n 2, 1) := by decide +kernel
theorem d1_14 : decode prog_35_method_1_code 14 = .ok (.iconst 0, 1) := by decide +kernel
theorem d1_15 : decode prog_35_method_1_code 15 = .ok (.istore_n 3, 1) := by decide +kernel
theorem d1_16 : decode prog_35_method_1_code 16 = .ok (.aload_n 2, 1) := by decide +kernel
theorem d1_17 : decode prog_35_method_1_code 17 = .ok (.iload_n 3, 1) := by decide +kernel
theorem d1_18 : decode prog_35_method_1_code 18 = .ok (.iload_n 1, 1) := by decide +kernel
theorem d1_19 : decode prog_35_method_1_code 19 = .ok (.iload_n 3, 1) := by decide +kernel
theorem pd_2 : parseMethodDescriptor "(II)J" = some ⟨[.int, .int], some .long⟩ := by decide +kernel
theorem d1_20 : decode prog_35_method_1_code 20 = .ok (.invokestatic 15, 3) := by decide +kernel
theorem d1_23 : decode prog_35_method_1_code 23 = .ok (.lconst 1, 1) := by decide +kernel
theorem d1_24 : decode prog_35_method_1_code 24 = .ok (.ladd, 1) := by decide +kernel
theorem d1_25 : decode prog_35_method_1_code 25 = .ok (.lastore, 1) := by decide +kernel
theorem d1_26 : decode prog_35_method_1_code 26 = .ok (.iinc 3 1, 3) := by decide +kernel
theorem d1_29 : decode prog_35_method_1_code 29 = .ok (.aload_n 2, 1) := by decide +kernel
theorem d1_30 : decode prog_35_method_1_code 30 = .ok (.iload_n 3, 1) := by decide +kernel
theorem d1_31 : decode prog_35_method_1_code 31 = .ok (.iconst 1, 1) := by decide +kernel
theorem d1_32 : decode prog_35_method_1_code 32 = .ok (.isub, 1) := by decide +kernel
theorem d1_33 : decode prog_35_method_1_code 33 = .ok (.laload, 1) := by decide +kernel
theorem d1_34 : decode prog_35_method_1_code 34 = .ok (.ldc2_w 21, 3) := by decide +kernel
theorem d1_37 : decode prog_35_method_1_code 37 = .ok (.lcmp, 1) := by decide +kernel
theorem d1_38 : decode prog_35_method_1_code 38 = .ok (.ifCond .le (-22), 3) := by decide +kernel
theorem d1_41 : decode prog_35_method_1_code 41 = .ok (.aload_n 0, 1) := by decide +kernel
theorem d1_42 : decode prog_35_method_1_code 42 = .ok (.aload_n 2, 1) := by decide +kernel
theorem d1_43 : decode prog_35_method_1_code 43 = .ok (.iload_n 3, 1) := by decide +kernel
theorem pd_3 : parseMethodDescriptor "([JI)[J" = some ⟨[(.array .long), .int], some (.array .long)⟩ := by decide +kernel
theorem d1_44 : decode prog_35_method_1_code 44 = .ok (.invokestatic 23, 3) := by decide +kernel
theorem d1_47 : decode prog_35_method_1_code 47 = .ok (.putfield 29, 3) := by decide +kernel
theorem d1_50 : decode prog_35_method_1_code 50 = .ok (.return_, 1) := by decide +kernel
theorem pn_1 : plainName "com/example/bitmend/bitmend/PositionalColumns" = true := by first | (simp [plainName, overriddenIn]; done) | decide +kernel
def ct2_g25  : Nat → Int64 := (upv (fun _ => (0 : Int64)) 0 ((F_f3 (2 : Int32) (0 : Int32)) + (1 : Int64)))
def ct2_g25a  : Nat → Int64 := (upv ct2_g25 1 ((F_f3 (2 : Int32) (1 : Int32)) + (1 : Int64)))
def ct2_g25b  : Nat → Int64 := (upv ct2_g25a 2 ((F_f3 (2 : Int32) (2 : Int32)) + (1 : Int64)))
def ct2_g25c  : Nat → Int64 := (upv ct2_g25b 3 ((F_f3 (2 : Int32) (3 : Int32)) + (1 : Int64)))
def ct2_g25d  : Nat → Int64 := (upv ct2_g25c 4 ((F_f3 (2 : Int32) (4 : Int32)) + (1 : Int64)))
def ct2_g25e  : Nat → Int64 := (upv ct2_g25d 5 ((F_f3 (2 : Int32) (5 : Int32)) + (1 : Int64)))
def ct2_g25f  : Nat → Int64 := (upv ct2_g25e 6 ((F_f3 (2 : Int32) (6 : Int32)) + (1 : Int64)))
def ct2_g25g  : Nat → Int64 := (upv ct2_g25f 7 ((F_f3 (2 : Int32) (7 : Int32)) + (1 : Int64)))
def ct2_g25h  : Nat → Int64 := (upv ct2_g25g 8 ((F_f3 (2 : Int32) (8 : Int32)) + (1 : Int64)))
def ct2_g25i  : Nat → Int64 := (upv ct2_g25h 9 ((F_f3 (2 : Int32) (9 : Int32)) + (1 : Int64)))
def ct2_g25j  : Nat → Int64 := (upv ct2_g25i 10 ((F_f3 (2 : Int32) (10 : Int32)) + (1 : Int64)))
def ct2_g25k  : Nat → Int64 := (upv ct2_g25j 11 ((F_f3 (2 : Int32) (11 : Int32)) + (1 : Int64)))
def ct2_g25l  : Nat → Int64 := (upv ct2_g25k 12 ((F_f3 (2 : Int32) (12 : Int32)) + (1 : Int64)))
def ct2_g25m  : Nat → Int64 := (upv ct2_g25l 13 ((F_f3 (2 : Int32) (13 : Int32)) + (1 : Int64)))
def ct2_g25n  : Nat → Int64 := (upv ct2_g25m 14 ((F_f3 (2 : Int32) (14 : Int32)) + (1 : Int64)))
def ct2_g25o  : Nat → Int64 := (upv ct2_g25n 15 ((F_f3 (2 : Int32) (15 : Int32)) + (1 : Int64)))
def ct2_g25p  : Nat → Int64 := (upv ct2_g25o 16 ((F_f3 (2 : Int32) (16 : Int32)) + (1 : Int64)))
def ct2_g25q  : Nat → Int64 := (upv ct2_g25p 17 ((F_f3 (2 : Int32) (17 : Int32)) + (1 : Int64)))
def ct2_g25r  : Nat → Int64 := (upv ct2_g25q 18 ((F_f3 (2 : Int32) (18 : Int32)) + (1 : Int64)))
def ct2_g25s  : Nat → Int64 := (upv ct2_g25r 19 ((F_f3 (2 : Int32) (19 : Int32)) + (1 : Int64)))
def ct2_g25t  : Nat → Int64 := (upv ct2_g25s 20 ((F_f3 (2 : Int32) (20 : Int32)) + (1 : Int64)))
def ct2_g25u  : Nat → Int64 := (upv ct2_g25t 21 ((F_f3 (2 : Int32) (21 : Int32)) + (1 : Int64)))
def ct2_g25v  : Nat → Int64 := (upv ct2_g25u 22 ((F_f3 (2 : Int32) (22 : Int32)) + (1 : Int64)))
def ct2_g25w  : Nat → Int64 := (upv ct2_g25v 23 ((F_f3 (2 : Int32) (23 : Int32)) + (1 : Int64)))
def ct2_g25x  : Nat → Int64 := (upv ct2_g25w 24 ((F_f3 (2 : Int32) (24 : Int32)) + (1 : Int64)))
def ct2_g25y  : Nat → Int64 := (upv ct2_g25x 25 ((F_f3 (2 : Int32) (25 : Int32)) + (1 : Int64)))
def ct2_g25z  : Nat → Int64 := (upv ct2_g25y 26 ((F_f3 (2 : Int32) (26 : Int32)) + (1 : Int64)))
def ct2_g25aa  : Nat → Int64 := (upv ct2_g25z 27 ((F_f3 (2 : Int32) (27 : Int32)) + (1 : Int64)))
def ct2_g25ab  : Nat → Int64 := (upv ct2_g25aa 28 ((F_f3 (2 : Int32) (28 : Int32)) + (1 : Int64)))
def ct2_g25ac  : Nat → Int64 := (upv ct2_g25ab 29 ((F_f3 (2 : Int32) (29 : Int32)) + (1 : Int64)))
def ct2_g25ad  : Nat → Int64 := (upv ct2_g25ac 30 ((F_f3 (2 : Int32) (30 : Int32)) + (1 : Int64)))
def ct2_g25ae  : Nat → Int64 := (upv ct2_g25ad 31 ((F_f3 (2 : Int32) (31 : Int32)) + (1 : Int64)))
def Q_ct2 (Z : State) (o0 : Addr) (h0 : Heap) (n0 : Nat) (v : Option Value) (h : Heap) (L : List Loc) : Prop := ∃ b70 : Addr, n0 ≤ b70 ∧ h0.size ≤ b70 ∧ v = none ∧ Fr n0 L ∧ Keep h0 h [o0] ∧ Exa Z h o0 "com/example/bitmend/bitmend/PositionalColumns" ∧ Fld Z h o0 "com/example/bitmend/bitmend/PositionalColumns" "checkPositions" "[J" (.ref b70) ∧ AJ Z h b70 .long 32 (cp2_g28 ct2_g25ae)
set_option maxRecDepth 65536 in
set_option maxHeartbeats 40000000 in
theorem rmct2 (l : Launch) (Z : State) (a0 : Array Value) (hw : ∀ d ∈ tables_1, d.before a0 Z = true) (ws : List Jvm.Cond) (o0 : Addr)  (h0 : Heap) (n0 : Nat) (Z0 : n0 ≤ h0.size) (E_o0 : Exa Z h0 o0 "com/example/bitmend/bitmend/PositionalColumns") (g_o0 : n0 ≤ o0) (F_o0_fieldSize : Fld Z h0 o0 "com/example/bitmend/bitmend/PositionalColumns" "fieldSize" "I" (.int (0 : Int32))) (F_o0_checkPositions : Fld Z h0 o0 "com/example/bitmend/bitmend/PositionalColumns" "checkPositions" "[J" .null) :
    MetFree l (⟨"com/example/bitmend/bitmend/PositionalColumns", "<init>", "(I)V"⟩ : MethodName) (head1 (Jvm.Cond.code (⟨"com/example/bitmend/bitmend/PositionalColumns", "<init>", "(I)V"⟩ : MethodName) prog_35_method_1_code 4 none :: ws) ({ frames := 2, cells := 2, slots := 65, locals := 33 } : Room)) (fun a U => a = #[(.ref o0), (.int (2 : Int32))] ∧ Z.Warmed39 U.vm ∧ U.heap = h0) (fun _ _ _ _ _ => True) (fun _ U o U' => ∃ v L, o = .returned v ∧ Q_ct2 Z o0 h0 n0 v U'.heap L ∧ FrameEnd U o U' L ({ frames := 2, cells := 2, slots := 65, locals := 33 } : Room).cells ({ frames := 2, cells := 2, slots := 65, locals := 33 } : Room).slots) := by
  refine MetFree.of_bodySF (plainFor_of_name pn_1) hisR ?_
  intro p e s m args below meth c s₁ Bd hml0 hP hK
  obtain ⟨rfl, hZ, hh⟩ := hP
  have hx := Bd.exec
  have hby := Bd.bytes
  have hml : c.maxLocals = 4 := hml0
  have hown : s.vm.findClass "com/example/bitmend/bitmend/PositionalColumns" = some m.cls := findClass_of_methodNamed Bd.named
  have hnm := (name_of_methodNamed Bd.named Bd.method).1
  have hret := Bd.returns
  have hlk : meth.locks = false := BodyLoose.notSynchronized Bd
  have X0 : Stand p l e ({ frames := 2, cells := 2, slots := 65, locals := 33 } : Room) s m #[(.ref o0), (.int (2 : Int32))] below meth c s₁ [] 0 0 := Stand.of_body Bd
  have e0 : s₁.heap = h0 := by rw [← hh, Bd.state]; rfl
  have N0 := Fr.nil n0
  show Outs p e below s (Q_ct2 Z o0 h0 n0) _ _ _
  refine Outs.of (U' := s₁.setTop (mkF m 0 #[.val (.ref o0), .val (.int (2 : Int32)), .unset, .unset] [])) (fun t k => castTop (ef_1 m o0 (2 : Int32)) k) ?_
  refine Outs.of (U' := s₁.setTop (mkF m 1 #[.val (.ref o0), .val (.int (2 : Int32)), .unset, .unset] [(.ref o0)])) (fun t k => ?_) ?_
  · refine XS.aloadN X0.here hx rfl (hb hby d1_0) rfl rfl ?_
    exact k
  obtain ⟨T1, X1, e1, st1⟩ := initO X0 hx hZ hown (hw _ (List.mem_of_getElem? (i := 6) rfl)) (hw _ (List.mem_of_getElem? (i := 7) rfl)) (hw _ (List.mem_of_getElem? (i := 8) rfl)) e0 (g := (mkF m 1 #[.val (.ref o0), .val (.int (2 : Int32)), .unset, .unset] [(.ref o0)])) rfl (by rw [hml]; rfl) rfl (hb hby d1_1) (by decide) (W := 0) (by show 2 * 0 + _ ≤ _; exact Nat.le_of_eq rfl) (by decide)
  refine Outs.of st1 ?_
  refine Outs.of (U' := T1.setTop (mkF m 6 #[.val (.ref o0), .val (.int (2 : Int32)), .unset, .unset] [(.int (2 : Int32)), (.ref o0)])) (fun t k => ?_) ?_
  · refine XS.aloadN X1.here hx rfl (hb hby d1_4) rfl rfl ?_
    refine XS.iloadN X1.here hx rfl (hb hby d1_5) rfl ?_
    exact k
  obtain ⟨T2, h2, X2, e2, W2, st2⟩ := putF X1 hx hZ hown (host := "") (Or.inl (hw _ (List.mem_of_getElem? (i := 9) rfl))) Via.refl e1 F_o0_fieldSize E_o0 (Or.inr ⟨(hw _ (List.mem_of_getElem? (i := 10) rfl)), rfl, hnm⟩) (hw _ (List.mem_of_getElem? (i := 1) rfl)) (ty := .int) (by decide) rfl rfl (g := (mkF m 6 #[.val (.ref o0), .val (.int (2 : Int32)), .unset, .unset] [(.int (2 : Int32)), (.ref o0)])) rfl rfl (hb hby d1_6)
  have F2 : Fld Z h2 o0 "com/example/bitmend/bitmend/PositionalColumns" "fieldSize" "I" (.int (2 : Int32)) := F_o0_fieldSize.same W2
  have N2 := Fr.snoc X2 N0 g_o0
  obtain ⟨Lh2, X2, N2⟩ := hide X2 N2 (C := 0) (S := 0) (by decide) (by decide)
  refine Outs.of st2 ?_
  refine Outs.of (U' := T2.setTop (mkF m 11 #[.val (.ref o0), .val (.int (2 : Int32)), .unset, .unset] [(.int (33 : Int32))])) (fun t k => ?_) ?_
  · refine XS.bipush X2.here hx rfl (hb hby d1_9) ?_
    exact k
  have f4 : Exa Z h2 o0 "com/example/bitmend/bitmend/PositionalColumns" := (E_o0.wr W2)
  obtain ⟨T3, h3, X3, e3, E3, A3, st3⟩ := newAF X2 hx hZ (aty := .long) (hw _ (List.mem_of_getElem? (i := 11) rfl)) e2 (f := (mkF m 11 #[.val (.ref o0), .val (.int (2 : Int32)), .unset, .unset] [(.int (33 : Int32))])) rfl (hb hby d1_11) rfl (k := 33) rfl (cap := 33) (by decide) (by decide) (by decide) (by decide)
  obtain ⟨b3, g3⟩ : ∃ z, z = h2.size := ⟨_, rfl⟩
  rw [← g3] at A3 st3
  have g_b3 : n0 ≤ b3 := Nat.le_trans (Nat.le_trans Z0 (Keep.of_wr W2).1) (Nat.le_of_eq g3.symm)
  have sz_b3 : h0.size ≤ b3 := Nat.le_trans ((Keep.refl h0 [o0]).wr W2 (Or.inl (List.mem_of_getElem? (i := 0) rfl))).1 (Nat.le_of_eq g3.symm)
  have ne_o0_b3 : o0 ≠ b3 := Nat.ne_of_lt (Nat.lt_of_lt_of_eq f4.lt g3.symm)
  have V3 : AJ Z h3 b3 .long 33 (fun _ => (0 : Int64)) := A3
  refine Outs.of st3 ?_
  refine Outs.of (U' := T3.setTop (mkF m 20 #[.val (.ref o0), .val (.int (2 : Int32)), .val (.ref b3), .val (.int (0 : Int32))] [(.int (0 : Int32)), (.int (2 : Int32)), (.int (0 : Int32)), (.ref b3)])) (fun t k => ?_) ?_
  · refine XS.astoreN X3.here hx rfl (hb hby d1_13) rfl rfl (l' := #[.val (.ref o0), .val (.int (2 : Int32)), .val (.ref b3), .unset]) rfl ?_
    refine XS.iconst X3.here hx rfl (hb hby d1_14) ?_
    refine XS.istoreN X3.here hx rfl (hb hby d1_15) rfl (l' := #[.val (.ref o0), .val (.int (2 : Int32)), .val (.ref b3), .val (.int (0 : Int32))]) rfl ?_
    refine XS.aloadN X3.here hx rfl (hb hby d1_16) rfl rfl ?_
    refine XS.iloadN X3.here hx rfl (hb hby d1_17) rfl ?_
    refine XS.iloadN X3.here hx rfl (hb hby d1_18) rfl ?_
    refine XS.iloadN X3.here hx rfl (hb hby d1_19) rfl ?_
    exact k
  obtain ⟨_, _, ⟨T5, L5, k5, n5⟩, -, X5, ⟨Lc5, hQ5, l5, y5, z5⟩, st5⟩ := Jvm.LawKit.callS X3 hx (y := (⟨"com/example/bitmend/bitmend/CodeParameters", "columns", "(II)J"⟩ : MethodName)) hown (mvT hZ (hw _ (List.mem_of_getElem? (i := 12) rfl))) (mvT hZ (hw _ (List.mem_of_getElem? (i := 13) rfl))) (mvT hZ (hw _ (List.mem_of_getElem? (i := 14) rfl))) (mvT hZ (hw _ (List.mem_of_getElem? (i := 15) rfl))) (by decide) (backOf (W := 2) (rm3 l Z a0 hw [] (2 : Int32) (0 : Int32) h3 n0 (by decide)) hZ (hw _ (List.mem_of_getElem? (i := 15) rfl)) (hw _ (List.mem_of_getElem? (i := 14) rfl)) (by decide) (by decide)) (g := (mkF m 20 #[.val (.ref o0), .val (.int (2 : Int32)), .val (.ref b3), .val (.int (0 : Int32))] [(.int (0 : Int32)), (.int (2 : Int32)), (.int (0 : Int32)), (.ref b3)])) rfl (by rw [hml]; rfl) (argsL := [(.int (2 : Int32)), (.int (0 : Int32))]) (rest := [(.int (0 : Int32)), (.ref b3)]) (lenOf pd_2 rfl) rfl (by show 2 * 0 + _ ≤ _; exact Nat.le_of_eq rfl) (hb hby d1_20) (fun _ _ => ⟨rfl, e3, (by decide : 1 + 0 ≤ _), (by decide : 33 + 0 ≤ _)⟩)
  dsimp only [Pt.U, Pt.locs, Pt.cells, Pt.slots] at X5 l5 y5 z5 st5 hQ5
  subst l5 y5 z5
  obtain ⟨rfl, N5q, e5⟩ := hQ5
  have N5 := Fr.app N2 N5q
  obtain ⟨Lh5, X5, N5⟩ := hide X5 N5 (C := 1) (S := 33) (by decide) (by decide)
  refine Outs.of st5 ?_
  refine Outs.of (U' := T5.setTop (mkF m 25 #[.val (.ref o0), .val (.int (2 : Int32)), .val (.ref b3), .val (.int (0 : Int32))] [(.long ((F_f3 (2 : Int32) (0 : Int32)) + (1 : Int64))), (.int (0 : Int32)), (.ref b3)])) (fun t k => ?_) ?_
  · refine XS.lconst X5.here hx rfl (hb hby d1_23) ?_
    refine XS.ladd X5.here hx rfl (hb hby d1_24) rfl ?_
    exact k
  obtain ⟨T6, h6, X6, e6, W6, V6, st6⟩ := puJ X5 hx hZ e5 V3 (j := (0 : Int32)) (x := ((F_f3 (2 : Int32) (0 : Int32)) + (1 : Int64))) (k := 0) rfl (by decide) (f := (mkF m 25 #[.val (.ref o0), .val (.int (2 : Int32)), .val (.ref b3), .val (.int (0 : Int32))] [(.long ((F_f3 (2 : Int32) (0 : Int32)) + (1 : Int64))), (.int (0 : Int32)), (.ref b3)])) rfl rfl (hb hby d1_25)
  replace V6 : AJ Z h6 b3 .long 33 ct2_g25 := V6
  have N6 := Fr.snoc X6 N5 g_b3
  obtain ⟨Lh6, X6, N6⟩ := hide X6 N6 (C := 1) (S := 33) (by decide) (by decide)
  refine Outs.of st6 ?_
  refine Outs.of (U' := T6.setTop (mkF m 33 #[.val (.ref o0), .val (.int (2 : Int32)), .val (.ref b3), .val (.int (1 : Int32))] [(.int (0 : Int32)), (.ref b3)])) (fun t k => ?_) ?_
  · refine XS.iinc X6.here hx rfl (hb hby d1_26) rfl (l' := #[.val (.ref o0), .val (.int (2 : Int32)), .val (.ref b3), .val (.int (1 : Int32))]) rfl ?_
    refine XS.aloadN X6.here hx rfl (hb hby d1_29) rfl rfl ?_
    refine XS.iloadN X6.here hx rfl (hb hby d1_30) rfl ?_
    refine XS.iconst X6.here hx rfl (hb hby d1_31) ?_
    refine XS.isub X6.here hx rfl (hb hby d1_32) rfl ?_
    exact k
  refine Outs.of (ldJ X6 hx hZ e6 V6 (j := (0 : Int32)) (k := 0) rfl (by decide) (f := (mkF m 33 #[.val (.ref o0), .val (.int (2 : Int32)), .val (.ref b3), .val (.int (1 : Int32))] [(.int (0 : Int32)), (.ref b3)])) rfl rfl (hb hby d1_33)) ?_
  refine Outs.of (U' := T6.setTop (mkF m 20 #[.val (.ref o0), .val (.int (2 : Int32)), .val (.ref b3), .val (.int (1 : Int32))] [(.int (1 : Int32)), (.int (2 : Int32)), (.int (1 : Int32)), (.ref b3)])) (fun t k => ?_) ?_
  · refine X6.ldc2Long hx hown (mvT hZ (hw _ (List.mem_of_getElem? (i := 16) rfl))) (g := (mkF m 34 #[.val (.ref o0), .val (.int (2 : Int32)), .val (.ref b3), .val (.int (1 : Int32))] [(.long (ct2_g25 0))])) rfl (hb hby d1_34) _ ?_
    refine XS.lcmp X6.here hx rfl (hb hby d1_37) rfl ?_
    refine XS.ifYes X6.here hx rfl (pc0 := 38) (pc' := 16) rfl (hb hby d1_38) rfl ((if0 _ _).trans (flt (fun q_ => (show ¬ ((2147483647 : Int64) < (ct2_g25 0)) from (by decide +kernel)) ((lw_gt _ _).mp q_))).2.2.2) (by decide) (by decide) ?_
    refine XS.aloadN X6.here hx rfl (hb hby d1_16) rfl rfl ?_
    refine XS.iloadN X6.here hx rfl (hb hby d1_17) rfl ?_
    refine XS.iloadN X6.here hx rfl (hb hby d1_18) rfl ?_
    refine XS.iloadN X6.here hx rfl (hb hby d1_19) rfl ?_
    exact k
  obtain ⟨_, _, ⟨T7, L7, k7, n7⟩, -, X7, ⟨Lc7, hQ7, l7, y7, z7⟩, st7⟩ := Jvm.LawKit.callS X6 hx (y := (⟨"com/example/bitmend/bitmend/CodeParameters", "columns", "(II)J"⟩ : MethodName)) hown (mvT hZ (hw _ (List.mem_of_getElem? (i := 12) rfl))) (mvT hZ (hw _ (List.mem_of_getElem? (i := 13) rfl))) (mvT hZ (hw _ (List.mem_of_getElem? (i := 14) rfl))) (mvT hZ (hw _ (List.mem_of_getElem? (i := 15) rfl))) (by decide) (backOf (W := 2) (rm3 l Z a0 hw [] (2 : Int32) (1 : Int32) h6 n0 (by decide)) hZ (hw _ (List.mem_of_getElem? (i := 15) rfl)) (hw _ (List.mem_of_getElem? (i := 14) rfl)) (by decide) (by decide)) (g := (mkF m 20 #[.val (.ref o0), .val (.int (2 : Int32)), .val (.ref b3), .val (.int (1 : Int32))] [(.int (1 : Int32)), (.int (2 : Int32)), (.int (1 : Int32)), (.ref b3)])) rfl (by rw [hml]; rfl) (argsL := [(.int (2 : Int32)), (.int (1 : Int32))]) (rest := [(.int (1 : Int32)), (.ref b3)]) (lenOf pd_2 rfl) rfl (by show 2 * 0 + _ ≤ _; exact Nat.le_of_eq rfl) (hb hby d1_20) (fun _ _ => ⟨rfl, e6, (by decide : 1 + 0 ≤ _), (by decide : 33 + 0 ≤ _)⟩)
  dsimp only [Pt.U, Pt.locs, Pt.cells, Pt.slots] at X7 l7 y7 z7 st7 hQ7
  subst l7 y7 z7
  obtain ⟨rfl, N7q, e7⟩ := hQ7
  have N7 := Fr.app N6 N7q
  obtain ⟨Lh7, X7, N7⟩ := hide X7 N7 (C := 1) (S := 33) (by decide) (by decide)
  refine Outs.of st7 ?_
  refine Outs.of (U' := T7.setTop (mkF m 25 #[.val (.ref o0), .val (.int (2 : Int32)), .val (.ref b3), .val (.int (1 : Int32))] [(.long ((F_f3 (2 : Int32) (1 : Int32)) + (1 : Int64))), (.int (1 : Int32)), (.ref b3)])) (fun t k => ?_) ?_
  · refine XS.lconst X7.here hx rfl (hb hby d1_23) ?_
    refine XS.ladd X7.here hx rfl (hb hby d1_24) rfl ?_
    exact k
  obtain ⟨T8, h8, X8, e8, W8, V8, st8⟩ := puJ X7 hx hZ e7 V6 (j := (1 : Int32)) (x := ((F_f3 (2 : Int32) (1 : Int32)) + (1 : Int64))) (k := 1) rfl (by decide) (f := (mkF m 25 #[.val (.ref o0), .val (.int (2 : Int32)), .val (.ref b3), .val (.int (1 : Int32))] [(.long ((F_f3 (2 : Int32) (1 : Int32)) + (1 : Int64))), (.int (1 : Int32)), (.ref b3)])) rfl rfl (hb hby d1_25)
  replace V8 : AJ Z h8 b3 .long 33 ct2_g25a := V8
  have N8 := Fr.snoc X8 N7 g_b3
  obtain ⟨Lh8, X8, N8⟩ := hide X8 N8 (C := 1) (S := 33) (by decide) (by decide)
  refine Outs.of st8 ?_
  refine Outs.of (U' := T8.setTop (mkF m 33 #[.val (.ref o0), .val (.int (2 : Int32)), .val (.ref b3), .val (.int (2 : Int32))] [(.int (1 : Int32)), (.ref b3)])) (fun t k => ?_) ?_
  · refine XS.iinc X8.here hx rfl (hb hby d1_26) rfl (l' := #[.val (.ref o0), .val (.int (2 : Int32)), .val (.ref b3), .val (.int (2 : Int32))]) rfl ?_
    refine XS.aloadN X8.here hx rfl (hb hby d1_29) rfl rfl ?_
    refine XS.iloadN X8.here hx rfl (hb hby d1_30) rfl ?_
    refine XS.iconst X8.here hx rfl (hb hby d1_31) ?_
    refine XS.isub X8.here hx rfl (hb hby d1_32) rfl ?_
    exact k
  refine Outs.of (ldJ X8 hx hZ e8 V8 (j := (1 : Int32)) (k := 1) rfl (by decide) (f := (mkF m 33 #[.val (.ref o0), .val (.int (2 : Int32)), .val (.ref b3), .val (.int (2 : Int32))] [(.int (1 : Int32)), (.ref b3)])) rfl rfl (hb hby d1_33)) ?_
  refine Outs.of (U' := T8.setTop (mkF m 20 #[.val (.ref o0), .val (.int (2 : Int32)), .val (.ref b3), .val (.int (2 : Int32))] [(.int (2 : Int32)), (.int (2 : Int32)), (.int (2 : Int32)), (.ref b3)])) (fun t k => ?_) ?_
  · refine X8.ldc2Long hx hown (mvT hZ (hw _ (List.mem_of_getElem? (i := 16) rfl))) (g := (mkF m 34 #[.val (.ref o0), .val (.int (2 : Int32)), .val (.ref b3), .val (.int (2 : Int32))] [(.long (ct2_g25a 1))])) rfl (hb hby d1_34) _ ?_
    refine XS.lcmp X8.here hx rfl (hb hby d1_37) rfl ?_
    refine XS.ifYes X8.here hx rfl (pc0 := 38) (pc' := 16) rfl (hb hby d1_38) rfl ((if0 _ _).trans (flt (fun q_ => (show ¬ ((2147483647 : Int64) < (ct2_g25a 1)) from (by decide +kernel)) ((lw_gt _ _).mp q_))).2.2.2) (by decide) (by decide) ?_
    refine XS.aloadN X8.here hx rfl (hb hby d1_16) rfl rfl ?_
    refine XS.iloadN X8.here hx rfl (hb hby d1_17) rfl ?_
    refine XS.iloadN X8.here hx rfl (hb hby d1_18) rfl ?_
    refine XS.iloadN X8.here hx rfl (hb hby d1_19) rfl ?_
    exact k
  obtain ⟨_, _, ⟨T9, L9, k9, n9⟩, -, X9, ⟨Lc9, hQ9, l9, y9, z9⟩, st9⟩ := Jvm.LawKit.callS X8 hx (y := (⟨"com/example/bitmend/bitmend/CodeParameters", "columns", "(II)J"⟩ : MethodName)) hown (mvT hZ (hw _ (List.mem_of_getElem? (i := 12) rfl))) (mvT hZ (hw _ (List.mem_of_getElem? (i := 13) rfl))) (mvT hZ (hw _ (List.mem_of_getElem? (i := 14) rfl))) (mvT hZ (hw _ (List.mem_of_getElem? (i := 15) rfl))) (by decide) (backOf (W := 2) (rm3 l Z a0 hw [] (2 : Int32) (2 : Int32) h8 n0 (by decide)) hZ (hw _ (List.mem_of_getElem? (i := 15) rfl)) (hw _ (List.mem_of_getElem? (i := 14) rfl)) (by decide) (by decide)) (g := (mkF m 20 #[.val (.ref o0), .val (.int (2 : Int32)), .val (.ref b3), .val (.int (2 : Int32))] [(.int (2 : Int32)), (.int (2 : Int32)), (.int (2 : Int32)), (.ref b3)])) rfl (by rw [hml]; rfl) (argsL := [(.int (2 : Int32)), (.int (2 : Int32))]) (rest := [(.int (2 : Int32)), (.ref b3)]) (lenOf pd_2 rfl) rfl (by show 2 * 0 + _ ≤ _; exact Nat.le_of_eq rfl) (hb hby d1_20) (fun _ _ => ⟨rfl, e8, (by decide : 1 + 0 ≤ _), (by decide : 33 + 0 ≤ _)⟩)
  dsimp only [Pt.U, Pt.locs, Pt.cells, Pt.slots] at X9 l9 y9 z9 st9 hQ9
  subst l9 y9 z9
  obtain ⟨rfl, N9q, e9⟩ := hQ9
  have N9 := Fr.app N8 N9q
  obtain ⟨Lh9, X9, N9⟩ := hide X9 N9 (C := 1) (S := 33) (by decide) (by decide)
  refine Outs.of st9 ?_
  refine Outs.of (U' := T9.setTop (mkF m 25 #[.val (.ref o0), .val (.int (2 : Int32)), .val (.ref b3), .val (.int (2 : Int32))] [(.long ((F_f3 (2 : Int32) (2 : Int32)) + (1 : Int64))), (.int (2 : Int32)), (.ref b3)])) (fun t k => ?_) ?_
  · refine XS.lconst X9.here hx rfl (hb hby d1_23) ?_
    refine XS.ladd X9.here hx rfl (hb hby d1_24) rfl ?_
    exact k
  obtain ⟨T10, h10, X10, e10, W10, V10, st10⟩ := puJ X9 hx hZ e9 V8 (j := (2 : Int32)) (x := ((F_f3 (2 : Int32) (2 : Int32)) + (1 : Int64))) (k := 2) rfl (by decide) (f := (mkF m 25 #[.val (.ref o0), .val (.int (2 : Int32)), .val (.ref b3), .val (.int (2 : Int32))] [(.long ((F_f3 (2 : Int32) (2 : Int32)) + (1 : Int64))), (.int (2 : Int32)), (.ref b3)])) rfl rfl (hb hby d1_25)
  replace V10 : AJ Z h10 b3 .long 33 ct2_g25b := V10
  have N10 := Fr.snoc X10 N9 g_b3
  obtain ⟨Lh10, X10, N10⟩ := hide X10 N10 (C := 1) (S := 33) (by decide) (by decide)
  refine Outs.of st10 ?_
  refine Outs.of (U' := T10.setTop (mkF m 33 #[.val (.ref o0), .val (.int (2 : Int32)), .val (.ref b3), .val (.int (3 : Int32))] [(.int (2 : Int32)), (.ref b3)])) (fun t k => ?_) ?_
  · refine XS.iinc X10.here hx rfl (hb hby d1_26) rfl (l' := #[.val (.ref o0), .val (.int (2 : Int32)), .val (.ref b3), .val (.int (3 : Int32))]) rfl ?_
    refine XS.aloadN X10.here hx rfl (hb hby d1_29) rfl rfl ?_
    refine XS.iloadN X10.here hx rfl (hb hby d1_30) rfl ?_
    refine XS.iconst X10.here hx rfl (hb hby d1_31) ?_
    refine XS.isub X10.here hx rfl (hb hby d1_32) rfl ?_
    exact k
  refine Outs.of (ldJ X10 hx hZ e10 V10 (j := (2 : Int32)) (k := 2) rfl (by decide) (f := (mkF m 33 #[.val (.ref o0), .val (.int (2 : Int32)), .val (.ref b3), .val (.int (3 : Int32))] [(.int (2 : Int32)), (.ref b3)])) rfl rfl (hb hby d1_33)) ?_
  refine Outs.of (U' := T10.setTop (mkF m 20 #[.val (.ref o0), .val (.int (2 : Int32)), .val (.ref b3), .val (.int (3 : Int32))] [(.int (3 : Int32)), (.int (2 : Int32)), (.int (3 : Int32)), (.ref b3)])) (fun t k => ?_) ?_
  · refine X10.ldc2Long hx hown (mvT hZ (hw _ (List.mem_of_getElem? (i := 16) rfl))) (g := (mkF m 34 #[.val (.ref o0), .val (.int (2 : Int32)), .val (.ref b3), .val (.int (3 : Int32))] [(.long (ct2_g25b 2))])) rfl (hb hby d1_34) _ ?_
    refine XS.lcmp X10.here hx rfl (hb hby d1_37) rfl ?_
    refine XS.ifYes X10.here hx rfl (pc0 := 38) (pc' := 16) rfl (hb hby d1_38) rfl ((if0 _ _).trans (flt (fun q_ => (show ¬ ((2147483647 : Int64) < (ct2_g25b 2)) from (by decide +kernel)) ((lw_gt _ _).mp q_))).2.2.2) (by decide) (by decide) ?_
    refine XS.aloadN X10.here hx rfl (hb hby d1_16) rfl rfl ?_
    refine XS.iloadN X10.here hx rfl (hb hby d1_17) rfl ?_
    refine XS.iloadN X10.here hx rfl (hb hby d1_18) rfl ?_
    refine XS.iloadN X10.here hx rfl (hb hby d1_19) rfl ?_
    exact k
  obtain ⟨_, _, ⟨T11, L11, k11, n11⟩, -, X11, ⟨Lc11, hQ11, l11, y11, z11⟩, st11⟩ := Jvm.LawKit.callS X10 hx (y := (⟨"com/example/bitmend/bitmend/CodeParameters", "columns", "(II)J"⟩ : MethodName)) hown (mvT hZ (hw _ (List.mem_of_getElem? (i := 12) rfl))) (mvT hZ (hw _ (List.mem_of_getElem? (i := 13) rfl))) (mvT hZ (hw _ (List.mem_of_getElem? (i := 14) rfl))) (mvT hZ (hw _ (List.mem_of_getElem? (i := 15) rfl))) (by decide) (backOf (W := 2) (rm3 l Z a0 hw [] (2 : Int32) (3 : Int32) h10 n0 (by decide)) hZ (hw _ (List.mem_of_getElem? (i := 15) rfl)) (hw _ (List.mem_of_getElem? (i := 14) rfl)) (by decide) (by decide)) (g := (mkF m 20 #[.val (.ref o0), .val (.int (2 : Int32)), .val (.ref b3), .val (.int (3 : Int32))] [(.int (3 : Int32)), (.int (2 : Int32)), (.int (3 : Int32)), (.ref b3)])) rfl (by rw [hml]; rfl) (argsL := [(.int (2 : Int32)), (.int (3 : Int32))]) (rest := [(.int (3 : Int32)), (.ref b3)]) (lenOf pd_2 rfl) rfl (by show 2 * 0 + _ ≤ _; exact Nat.le_of_eq rfl) (hb hby d1_20) (fun _ _ => ⟨rfl, e10, (by decide : 1 + 0 ≤ _), (by decide : 33 + 0 ≤ _)⟩)
  dsimp only [Pt.U, Pt.locs, Pt.cells, Pt.slots] at X11 l11 y11 z11 st11 hQ11
  subst l11 y11 z11
  obtain ⟨rfl, N11q, e11⟩ := hQ11
  have N11 := Fr.app N10 N11q
  obtain ⟨Lh11, X11, N11⟩ := hide X11 N11 (C := 1) (S := 33) (by decide) (by decide)
  refine Outs.of st11 ?_
  refine Outs.of (U' := T11.setTop (mkF m 25 #[.val (.ref o0), .val (.int (2 : Int32)), .val (.ref b3), .val (.int (3 : Int32))] [(.long ((F_f3 (2 : Int32) (3 : Int32)) + (1 : Int64))), (.int (3 : Int32)), (.ref b3)])) (fun t k => ?_) ?_
  · refine XS.lconst X11.here hx rfl (hb hby d1_23) ?_
    refine XS.ladd X11.here hx rfl (hb hby d1_24) rfl ?_
    exact k
  obtain ⟨T12, h12, X12, e12, W12, V12, st12⟩ := puJ X11 hx hZ e11 V10 (j := (3 : Int32)) (x := ((F_f3 (2 : Int32) (3 : Int32)) + (1 : Int64))) (k := 3) rfl (by decide) (f := (mkF m 25 #[.val (.ref o0), .val (.int (2 : Int32)), .val (.ref b3), .val (.int (3 : Int32))] [(.long ((F_f3 (2 : Int32) (3 : Int32)) + (1 : Int64))), (.int (3 : Int32)), (.ref b3)])) rfl rfl (hb hby d1_25)
  replace V12 : AJ Z h12 b3 .long 33 ct2_g25c := V12
  have N12 := Fr.snoc X12 N11 g_b3
  obtain ⟨Lh12, X12, N12⟩ := hide X12 N12 (C := 1) (S := 33) (by decide) (by decide)
  refine Outs.of st12 ?_
  refine Outs.of (U' := T12.setTop (mkF m 33 #[.val (.ref o0), .val (.int (2 : Int32)), .val (.ref b3), .val (.int (4 : Int32))] [(.int (3 : Int32)), (.ref b3)])) (fun t k => ?_) ?_
  · refine XS.iinc X12.here hx rfl (hb hby d1_26) rfl (l' := #[.val (.ref o0), .val (.int (2 : Int32)), .val (.ref b3), .val (.int (4 : Int32))]) rfl ?_
    refine XS.aloadN X12.here hx rfl (hb hby d1_29) rfl rfl ?_
    refine XS.iloadN X12.here hx rfl (hb hby d1_30) rfl ?_
    refine XS.iconst X12.here hx rfl (hb hby d1_31) ?_
    refine XS.isub X12.here hx rfl (hb hby d1_32) rfl ?_
    exact k
  refine Outs.of (ldJ X12 hx hZ e12 V12 (j := (3 : Int32)) (k := 3) rfl (by decide) (f := (mkF m 33 #[.val (.ref o0), .val (.int (2 : Int32)), .val (.ref b3), .val (.int (4 : Int32))] [(.int (3 : Int32)), (.ref b3)])) rfl rfl (hb hby d1_33)) ?_
  refine Outs.of (U' := T12.setTop (mkF m 20 #[.val (.ref o0), .val (.int (2 : Int32)), .val (.ref b3), .val (.int (4 : Int32))] [(.int (4 : Int32)), (.int (2 : Int32)), (.int (4 : Int32)), (.ref b3)])) (fun t k => ?_) ?_
  · refine X12.ldc2Long hx hown (mvT hZ (hw _ (List.mem_of_getElem? (i := 16) rfl))) (g := (mkF m 34 #[.val (.ref o0), .val (.int (2 : Int32)), .val (.ref b3), .val (.int (4 : Int32))] [(.long (ct2_g25c 3))])) rfl (hb hby d1_34) _ ?_
    refine XS.lcmp X12.here hx rfl (hb hby d1_37) rfl ?_
    refine XS.ifYes X12.here hx rfl (pc0 := 38) (pc' := 16) rfl (hb hby d1_38) rfl ((if0 _ _).trans (flt (fun q_ => (show ¬ ((2147483647 : Int64) < (ct2_g25c 3)) from (by decide +kernel)) ((lw_gt _ _).mp q_))).2.2.2) (by decide) (by decide) ?_
    refine XS.aloadN X12.here hx rfl (hb hby d1_16) rfl rfl ?_
    refine XS.iloadN X12.here hx rfl (hb hby d1_17) rfl ?_
    refine XS.iloadN X12.here hx rfl (hb hby d1_18) rfl ?_
    refine XS.iloadN X12.here hx rfl (hb hby d1_19) rfl ?_
    exact k
  obtain ⟨_, _, ⟨T13, L13, k13, n13⟩, -, X13, ⟨Lc13, hQ13, l13, y13, z13⟩, st13⟩ := Jvm.LawKit.callS X12 hx (y := (⟨"com/example/bitmend/bitmend/CodeParameters", "columns", "(II)J"⟩ : MethodName)) hown (mvT hZ (hw _ (List.mem_of_getElem? (i := 12) rfl))) (mvT hZ (hw _ (List.mem_of_getElem? (i := 13) rfl))) (mvT hZ (hw _ (List.mem_of_getElem? (i := 14) rfl))) (mvT hZ (hw _ (List.mem_of_getElem? (i := 15) rfl))) (by decide) (backOf (W := 2) (rm3 l Z a0 hw [] (2 : Int32) (4 : Int32) h12 n0 (by decide)) hZ (hw _ (List.mem_of_getElem? (i := 15) rfl)) (hw _ (List.mem_of_getElem? (i := 14) rfl)) (by decide) (by decide)) (g := (mkF m 20 #[.val (.ref o0), .val (.int (2 : Int32)), .val (.ref b3), .val (.int (4 : Int32))] [(.int (4 : Int32)), (.int (2 : Int32)), (.int (4 : Int32)), (.ref b3)])) rfl (by rw [hml]; rfl) (argsL := [(.int (2 : Int32)), (.int (4 : Int32))]) (rest := [(.int (4 : Int32)), (.ref b3)]) (lenOf pd_2 rfl) rfl (by show 2 * 0 + _ ≤ _; exact Nat.le_of_eq rfl) (hb hby d1_20) (fun _ _ => ⟨rfl, e12, (by decide : 1 + 0 ≤ _), (by decide : 33 + 0 ≤ _)⟩)
  dsimp only [Pt.U, Pt.locs, Pt.cells, Pt.slots] at X13 l13 y13 z13 st13 hQ13
  subst l13 y13 z13
  obtain ⟨rfl, N13q, e13⟩ := hQ13
  have N13 := Fr.app N12 N13q
  obtain ⟨Lh13, X13, N13⟩ := hide X13 N13 (C := 1) (S := 33) (by decide) (by decide)
  refine Outs.of st13 ?_
  refine Outs.of (U' := T13.setTop (mkF m 25 #[.val (.ref o0), .val (.int (2 : Int32)), .val (.ref b3), .val (.int (4 : Int32))] [(.long ((F_f3 (2 : Int32) (4 : Int32)) + (1 : Int64))), (.int (4 : Int32)), (.ref b3)])) (fun t k => ?_) ?_
  · refine XS.lconst X13.here hx rfl (hb hby d1_23) ?_
    refine XS.ladd X13.here hx rfl (hb hby d1_24) rfl ?_
    exact k
  obtain ⟨T14, h14, X14, e14, W14, V14, st14⟩ := puJ X13 hx hZ e13 V12 (j := (4 : Int32)) (x := ((F_f3 (2 : Int32) (4 : Int32)) + (1 : Int64))) (k := 4) rfl (by decide) (f := (mkF m 25 #[.val (.ref o0), .val (.int (2 : Int32)), .val (.ref b3), .val (.int (4 : Int32))] [(.long ((F_f3 (2 : Int32) (4 : Int32)) + (1 : Int64))), (.int (4 : Int32)), (.ref b3)])) rfl rfl (hb hby d1_25)
  replace V14 : AJ Z h14 b3 .long 33 ct2_g25d := V14
  have N14 := Fr.snoc X14 N13 g_b3
  obtain ⟨Lh14, X14, N14⟩ := hide X14 N14 (C := 1) (S := 33) (by decide) (by decide)
  refine Outs.of st14 ?_
  refine Outs.of (U' := T14.setTop (mkF m 33 #[.val (.ref o0), .val (.int (2 : Int32)), .val (.ref b3), .val (.int (5 : Int32))] [(.int (4 : Int32)), (.ref b3)])) (fun t k => ?_) ?_
  · refine XS.iinc X14.here hx rfl (hb hby d1_26) rfl (l' := #[.val (.ref o0), .val (.int (2 : Int32)), .val (.ref b3), .val (.int (5 : Int32))]) rfl ?_
    refine XS.aloadN X14.here hx rfl (hb hby d1_29) rfl rfl ?_
    refine XS.iloadN X14.here hx rfl (hb hby d1_30) rfl ?_
    refine XS.iconst X14.here hx rfl (hb hby d1_31) ?_
    refine XS.isub X14.here hx rfl (hb hby d1_32) rfl ?_
    exact k
  refine Outs.of (ldJ X14 hx hZ e14 V14 (j := (4 : Int32)) (k := 4) rfl (by decide) (f := (mkF m 33 #[.val (.ref o0), .val (.int (2 : Int32)), .val (.ref b3), .val (.int (5 : Int32))] [(.int (4 : Int32)), (.ref b3)])) rfl rfl (hb hby d1_33)) ?_
  refine Outs.of (U' := T14.setTop (mkF m 20 #[.val (.ref o0), .val (.int (2 : Int32)), .val (.ref b3), .val (.int (5 : Int32))] [(.int (5 : Int32)), (.int (2 : Int32)), (.int (5 : Int32)), (.ref b3)])) (fun t k => ?_) ?_
  · refine X14.ldc2Long hx hown (mvT hZ (hw _ (List.mem_of_getElem? (i := 16) rfl))) (g := (mkF m 34 #[.val (.ref o0), .val (.int (2 : Int32)), .val (.ref b3), .val (.int (5 : Int32))] [(.long (ct2_g25d 4))])) rfl (hb hby d1_34) _ ?_
    refine XS.lcmp X14.here hx rfl (hb hby d1_37) rfl ?_
    refine XS.ifYes X14.here hx rfl (pc0 := 38) (pc' := 16) rfl (hb hby d1_38) rfl ((if0 _ _).trans (flt (fun q_ => (show ¬ ((2147483647 : Int64) < (ct2_g25d 4)) from (by decide +kernel)) ((lw_gt _ _).mp q_))).2.2.2) (by decide) (by decide) ?_
    refine XS.aloadN X14.here hx rfl (hb hby d1_16) rfl rfl ?_
    refine XS.iloadN X14.here hx rfl (hb hby d1_17) rfl ?_
    refine XS.iloadN X14.here hx rfl (hb hby d1_18) rfl ?_
    refine XS.iloadN X14.here hx rfl (hb hby d1_19) rfl ?_
    exact k
  obtain ⟨_, _, ⟨T15, L15, k15, n15⟩, -, X15, ⟨Lc15, hQ15, l15, y15, z15⟩, st15⟩ := Jvm.LawKit.callS X14 hx (y := (⟨"com/example/bitmend/bitmend/CodeParameters", "columns", "(II)J"⟩ : MethodName)) hown (mvT hZ (hw _ (List.mem_of_getElem? (i := 12) rfl))) (mvT hZ (hw _ (List.mem_of_getElem? (i := 13) rfl))) (mvT hZ (hw _ (List.mem_of_getElem? (i := 14) rfl))) (mvT hZ (hw _ (List.mem_of_getElem? (i := 15) rfl))) (by decide) (backOf (W := 2) (rm3 l Z a0 hw [] (2 : Int32) (5 : Int32) h14 n0 (by decide)) hZ (hw _ (List.mem_of_getElem? (i := 15) rfl)) (hw _ (List.mem_of_getElem? (i := 14) rfl)) (by decide) (by decide)) (g := (mkF m 20 #[.val (.ref o0), .val (.int (2 : Int32)), .val (.ref b3), .val (.int (5 : Int32))] [(.int (5 : Int32)), (.int (2 : Int32)), (.int (5 : Int32)), (.ref b3)])) rfl (by rw [hml]; rfl) (argsL := [(.int (2 : Int32)), (.int (5 : Int32))]) (rest := [(.int (5 : Int32)), (.ref b3)]) (lenOf pd_2 rfl) rfl (by show 2 * 0 + _ ≤ _; exact Nat.le_of_eq rfl) (hb hby d1_20) (fun _ _ => ⟨rfl, e14, (by decide : 1 + 0 ≤ _), (by decide : 33 + 0 ≤ _)⟩)
  dsimp only [Pt.U, Pt.locs, Pt.cells, Pt.slots] at X15 l15 y15 z15 st15 hQ15
  subst l15 y15 z15
  obtain ⟨rfl, N15q, e15⟩ := hQ15
  have N15 := Fr.app N14 N15q
  obtain ⟨Lh15, X15, N15⟩ := hide X15 N15 (C := 1) (S := 33) (by decide) (by decide)
  refine Outs.of st15 ?_
  refine Outs.of (U' := T15.setTop (mkF m 25 #[.val (.ref o0), .val (.int (2 : Int32)), .val (.ref b3), .val (.int (5 : Int32))] [(.long ((F_f3 (2 : Int32) (5 : Int32)) + (1 : Int64))), (.int (5 : Int32)), (.ref b3)])) (fun t k => ?_) ?_
  · refine XS.lconst X15.here hx rfl (hb hby d1_23) ?_
    refine XS.ladd X15.here hx rfl (hb hby d1_24) rfl ?_
    exact k
  obtain ⟨T16, h16, X16, e16, W16, V16, st16⟩ := puJ X15 hx hZ e15 V14 (j := (5 : Int32)) (x := ((F_f3 (2 : Int32) (5 : Int32)) + (1 : Int64))) (k := 5) rfl (by decide) (f := (mkF m 25 #[.val (.ref o0), .val (.int (2 : Int32)), .val (.ref b3), .val (.int (5 : Int32))] [(.long ((F_f3 (2 : Int32) (5 : Int32)) + (1 : Int64))), (.int (5 : Int32)), (.ref b3)])) rfl rfl (hb hby d1_25)
  replace V16 : AJ Z h16 b3 .long 33 ct2_g25e := V16
  have N16 := Fr.snoc X16 N15 g_b3
  obtain ⟨Lh16, X16, N16⟩ := hide X16 N16 (C := 1) (S := 33) (by decide) (by decide)
  refine Outs.of st16 ?_
  refine Outs.of (U' := T16.setTop (mkF m 33 #[.val (.ref o0), .val (.int (2 : Int32)), .val (.ref b3), .val (.int (6 : Int32))] [(.int (5 : Int32)), (.ref b3)])) (fun t k => ?_) ?_
  · refine XS.iinc X16.here hx rfl (hb hby d1_26) rfl (l' := #[.val (.ref o0), .val (.int (2 : Int32)), .val (.ref b3), .val (.int (6 : Int32))]) rfl ?_
    refine XS.aloadN X16.here hx rfl (hb hby d1_29) rfl rfl ?_
    refine XS.iloadN X16.here hx rfl (hb hby d1_30) rfl ?_
    refine XS.iconst X16.here hx rfl (hb hby d1_31) ?_
    refine XS.isub X16.here hx rfl (hb hby d1_32) rfl ?_
    exact k
  refine Outs.of (ldJ X16 hx hZ e16 V16 (j := (5 : Int32)) (k := 5) rfl (by decide) (f := (mkF m 33 #[.val (.ref o0), .val (.int (2 : Int32)), .val (.ref b3), .val (.int (6 : Int32))] [(.int (5 : Int32)), (.ref b3)])) rfl rfl (hb hby d1_33)) ?_
  refine Outs.of (U' := T16.setTop (mkF m 20 #[.val (.ref o0), .val (.int (2 : Int32)), .val (.ref b3), .val (.int (6 : Int32))] [(.int (6 : Int32)), (.int (2 : Int32)), (.int (6 : Int32)), (.ref b3)])) (fun t k => ?_) ?_
  · refine X16.ldc2Long hx hown (mvT hZ (hw _ (List.mem_of_getElem? (i := 16) rfl))) (g := (mkF m 34 #[.val (.ref o0), .val (.int (2 : Int32)), .val (.ref b3), .val (.int (6 : Int32))] [(.long (ct2_g25e 5))])) rfl (hb hby d1_34) _ ?_
    refine XS.lcmp X16.here hx rfl (hb hby d1_37) rfl ?_
    refine XS.ifYes X16.here hx rfl (pc0 := 38) (pc' := 16) rfl (hb hby d1_38) rfl ((if0 _ _).trans (flt (fun q_ => (show ¬ ((2147483647 : Int64) < (ct2_g25e 5)) from (by decide +kernel)) ((lw_gt _ _).mp q_))).2.2.2) (by decide) (by decide) ?_
    refine XS.aloadN X16.here hx rfl (hb hby d1_16) rfl rfl ?_
    refine XS.iloadN X16.here hx rfl (hb hby d1_17) rfl ?_
    refine XS.iloadN X16.here hx rfl (hb hby d1_18) rfl ?_
    refine XS.iloadN X16.here hx rfl (hb hby d1_19) rfl ?_
    exact k
  obtain ⟨_, _, ⟨T17, L17, k17, n17⟩, -, X17, ⟨Lc17, hQ17, l17, y17, z17⟩, st17⟩ := Jvm.LawKit.callS X16 hx (y := (⟨"com/example/bitmend/bitmend/CodeParameters", "columns", "(II)J"⟩ : MethodName)) hown (mvT hZ (hw _ (List.mem_of_getElem? (i := 12) rfl))) (mvT hZ (hw _ (List.mem_of_getElem? (i := 13) rfl))) (mvT hZ (hw _ (List.mem_of_getElem? (i := 14) rfl))) (mvT hZ (hw _ (List.mem_of_getElem? (i := 15) rfl))) (by decide) (backOf (W := 2) (rm3 l Z a0 hw [] (2 : Int32) (6 : Int32) h16 n0 (by decide)) hZ (hw _ (List.mem_of_getElem? (i := 15) rfl)) (hw _ (List.mem_of_getElem? (i := 14) rfl)) (by decide) (by decide)) (g := (mkF m 20 #[.val (.ref o0), .val (.int (2 : Int32)), .val (.ref b3), .val (.int (6 : Int32))] [(.int (6 : Int32)), (.int (2 : Int32)), (.int (6 : Int32)), (.ref b3)])) rfl (by rw [hml]; rfl) (argsL := [(.int (2 : Int32)), (.int (6 : Int32))]) (rest := [(.int (6 : Int32)), (.ref b3)]) (lenOf pd_2 rfl) rfl (by show 2 * 0 + _ ≤ _; exact Nat.le_of_eq rfl) (hb hby d1_20) (fun _ _ => ⟨rfl, e16, (by decide : 1 + 0 ≤ _), (by decide : 33 + 0 ≤ _)⟩)
  dsimp only [Pt.U, Pt.locs, Pt.cells, Pt.slots] at X17 l17 y17 z17 st17 hQ17
  subst l17 y17 z17
  obtain ⟨rfl, N17q, e17⟩ := hQ17
  have N17 := Fr.app N16 N17q
  obtain ⟨Lh17, X17, N17⟩ := hide X17 N17 (C := 1) (S := 33) (by decide) (by decide)
  refine Outs.of st17 ?_
  refine Outs.of (U' := T17.setTop (mkF m 25 #[.val (.ref o0), .val (.int (2 : Int32)), .val (.ref b3), .val (.int (6 : Int32))] [(.long ((F_f3 (2 : Int32) (6 : Int32)) + (1 : Int64))), (.int (6 : Int32)), (.ref b3)])) (fun t k => ?_) ?_
  · refine XS.lconst X17.here hx rfl (hb hby d1_23) ?_
    refine XS.ladd X17.here hx rfl (hb hby d1_24) rfl ?_
    exact k
  obtain ⟨T18, h18, X18, e18, W18, V18, st18⟩ := puJ X17 hx hZ e17 V16 (j := (6 : Int32)) (x := ((F_f3 (2 : Int32) (6 : Int32)) + (1 : Int64))) (k := 6) rfl (by decide) (f := (mkF m 25 #[.val (.ref o0), .val (.int (2 : Int32)), .val (.ref b3), .val (.int (6 : Int32))] [(.long ((F_f3 (2 : Int32) (6 : Int32)) + (1 : Int64))), (.int (6 : Int32)), (.ref b3)])) rfl rfl (hb hby d1_25)
  replace V18 : AJ Z h18 b3 .long 33 ct2_g25f := V18
  have N18 := Fr.snoc X18 N17 g_b3
  obtain ⟨Lh18, X18, N18⟩ := hide X18 N18 (C := 1) (S := 33) (by decide) (by decide)
  refine Outs.of st18 ?_
  refine Outs.of (U' := T18.setTop (mkF m 33 #[.val (.ref o0), .val (.int (2 : Int32)), .val (.ref b3), .val (.int (7 : Int32))] [(.int (6 : Int32)), (.ref b3)])) (fun t k => ?_) ?_
  · refine XS.iinc X18.here hx rfl (hb hby d1_26) rfl (l' := #[.val (.ref o0), .val (.int (2 : Int32)), .val (.ref b3), .val (.int (7 : Int32))]) rfl ?_
    refine XS.aloadN X18.here hx rfl (hb hby d1_29) rfl rfl ?_
    refine XS.iloadN X18.here hx rfl (hb hby d1_30) rfl ?_
    refine XS.iconst X18.here hx rfl (hb hby d1_31) ?_
    refine XS.isub X18.here hx rfl (hb hby d1_32) rfl ?_
    exact k
  refine Outs.of (ldJ X18 hx hZ e18 V18 (j := (6 : Int32)) (k := 6) rfl (by decide) (f := (mkF m 33 #[.val (.ref o0), .val (.int (2 : Int32)), .val (.ref b3), .val (.int (7 : Int32))] [(.int (6 : Int32)), (.ref b3)])) rfl rfl (hb hby d1_33)) ?_
  refine Outs.of (U' := T18.setTop (mkF m 20 #[.val (.ref o0), .val (.int (2 : Int32)), .val (.ref b3), .val (.int (7 : Int32))] [(.int (7 : Int32)), (.int (2 : Int32)), (.int (7 : Int32)), (.ref b3)])) (fun t k => ?_) ?_
  · refine X18.ldc2Long hx hown (mvT hZ (hw _ (List.mem_of_getElem? (i := 16) rfl))) (g := (mkF m 34 #[.val (.ref o0), .val (.int (2 : Int32)), .val (.ref b3), .val (.int (7 : Int32))] [(.long (ct2_g25f 6))])) rfl (hb hby d1_34) _ ?_
    refine XS.lcmp X18.here hx rfl (hb hby d1_37) rfl ?_
    refine XS.ifYes X18.here hx rfl (pc0 := 38) (pc' := 16) rfl (hb hby d1_38) rfl ((if0 _ _).trans (flt (fun q_ => (show ¬ ((2147483647 : Int64) < (ct2_g25f 6)) from (by decide +kernel)) ((lw_gt _ _).mp q_))).2.2.2) (by decide) (by decide) ?_
    refine XS.aloadN X18.here hx rfl (hb hby d1_16) rfl rfl ?_
    refine XS.iloadN X18.here hx rfl (hb hby d1_17) rfl ?_
    refine XS.iloadN X18.here hx rfl (hb hby d1_18) rfl ?_
    refine XS.iloadN X18.here hx rfl (hb hby d1_19) rfl ?_
    exact k
  obtain ⟨_, _, ⟨T19, L19, k19, n19⟩, -, X19, ⟨Lc19, hQ19, l19, y19, z19⟩, st19⟩ := Jvm.LawKit.callS X18 hx (y := (⟨"com/example/bitmend/bitmend/CodeParameters", "columns", "(II)J"⟩ : MethodName)) hown (mvT hZ (hw _ (List.mem_of_getElem? (i := 12) rfl))) (mvT hZ (hw _ (List.mem_of_getElem? (i := 13) rfl))) (mvT hZ (hw _ (List.mem_of_getElem? (i := 14) rfl))) (mvT hZ (hw _ (List.mem_of_getElem? (i := 15) rfl))) (by decide) (backOf (W := 2) (rm3 l Z a0 hw [] (2 : Int32) (7 : Int32) h18 n0 (by decide)) hZ (hw _ (List.mem_of_getElem? (i := 15) rfl)) (hw _ (List.mem_of_getElem? (i := 14) rfl)) (by decide) (by decide)) (g := (mkF m 20 #[.val (.ref o0), .val (.int (2 : Int32)), .val (.ref b3), .val (.int (7 : Int32))] [(.int (7 : Int32)), (.int (2 : Int32)), (.int (7 : Int32)), (.ref b3)])) rfl (by rw [hml]; rfl) (argsL := [(.int (2 : Int32)), (.int (7 : Int32))]) (rest := [(.int (7 : Int32)), (.ref b3)]) (lenOf pd_2 rfl) rfl (by show 2 * 0 + _ ≤ _; exact Nat.le_of_eq rfl) (hb hby d1_20) (fun _ _ => ⟨rfl, e18, (by decide : 1 + 0 ≤ _), (by decide : 33 + 0 ≤ _)⟩)
  dsimp only [Pt.U, Pt.locs, Pt.cells, Pt.slots] at X19 l19 y19 z19 st19 hQ19
  subst l19 y19 z19
  obtain ⟨rfl, N19q, e19⟩ := hQ19
  have N19 := Fr.app N18 N19q
  obtain ⟨Lh19, X19, N19⟩ := hide X19 N19 (C := 1) (S := 33) (by decide) (by decide)
  refine Outs.of st19 ?_
  refine Outs.of (U' := T19.setTop (mkF m 25 #[.val (.ref o0), .val (.int (2 : Int32)), .val (.ref b3), .val (.int (7 : Int32))] [(.long ((F_f3 (2 : Int32) (7 : Int32)) + (1 : Int64))), (.int (7 : Int32)), (.ref b3)])) (fun t k => ?_) ?_
  · refine XS.lconst X19.here hx rfl (hb hby d1_23) ?_
    refine XS.ladd X19.here hx rfl (hb hby d1_24) rfl ?_
    exact k
  obtain ⟨T20, h20, X20, e20, W20, V20, st20⟩ := puJ X19 hx hZ e19 V18 (j := (7 : Int32)) (x := ((F_f3 (2 : Int32) (7 : Int32)) + (1 : Int64))) (k := 7) rfl (by decide) (f := (mkF m 25 #[.val (.ref o0), .val (.int (2 : Int32)), .val (.ref b3), .val (.int (7 : Int32))] [(.long ((F_f3 (2 : Int32) (7 : Int32)) + (1 : Int64))), (.int (7 : Int32)), (.ref b3)])) rfl rfl (hb hby d1_25)
  replace V20 : AJ Z h20 b3 .long 33 ct2_g25g := V20
  have N20 := Fr.snoc X20 N19 g_b3
  obtain ⟨Lh20, X20, N20⟩ := hide X20 N20 (C := 1) (S := 33) (by decide) (by decide)
  refine Outs.of st20 ?_
  refine Outs.of (U' := T20.setTop (mkF m 33 #[.val (.ref o0), .val (.int (2 : Int32)), .val (.ref b3), .val (.int (8 : Int32))] [(.int (7 : Int32)), (.ref b3)])) (fun t k => ?_) ?_
  · refine XS.iinc X20.here hx rfl (hb hby d1_26) rfl (l' := #[.val (.ref o0), .val (.int (2 : Int32)), .val (.ref b3), .val (.int (8 : Int32))]) rfl ?_
    refine XS.aloadN X20.here hx rfl (hb hby d1_29) rfl rfl ?_
    refine XS.iloadN X20.here hx rfl (hb hby d1_30) rfl ?_
    refine XS.iconst X20.here hx rfl (hb hby d1_31) ?_
    refine XS.isub X20.here hx rfl (hb hby d1_32) rfl ?_
    exact k
  refine Outs.of (ldJ X20 hx hZ e20 V20 (j := (7 : Int32)) (k := 7) rfl (by decide) (f := (mkF m 33 #[.val (.ref o0), .val (.int (2 : Int32)), .val (.ref b3), .val (.int (8 : Int32))] [(.int (7 : Int32)), (.ref b3)])) rfl rfl (hb hby d1_33)) ?_
  refine Outs.of (U' := T20.setTop (mkF m 20 #[.val (.ref o0), .val (.int (2 : Int32)), .val (.ref b3), .val (.int (8 : Int32))] [(.int (8 : Int32)), (.int (2 : Int32)), (.int (8 : Int32)), (.ref b3)])) (fun t k => ?_) ?_
  · refine X20.ldc2Long hx hown (mvT hZ (hw _ (List.mem_of_getElem? (i := 16) rfl))) (g := (mkF m 34 #[.val (.ref o0), .val (.int (2 : Int32)), .val (.ref b3), .val (.int (8 : Int32))] [(.long (ct2_g25g 7))])) rfl (hb hby d1_34) _ ?_
    refine XS.lcmp X20.here hx rfl (hb hby d1_37) rfl ?_
    refine XS.ifYes X20.here hx rfl (pc0 := 38) (pc' := 16) rfl (hb hby d1_38) rfl ((if0 _ _).trans (flt (fun q_ => (show ¬ ((2147483647 : Int64) < (ct2_g25g 7)) from (by decide +kernel)) ((lw_gt _ _).mp q_))).2.2.2) (by decide) (by decide) ?_
    refine XS.aloadN X20.here hx rfl (hb hby d1_16) rfl rfl ?_
    refine XS.iloadN X20.here hx rfl (hb hby d1_17) rfl ?_
    refine XS.iloadN X20.here hx rfl (hb hby d1_18) rfl ?_
    refine XS.iloadN X20.here hx rfl (hb hby d1_19) rfl ?_
    exact k
  obtain ⟨_, _, ⟨T21, L21, k21, n21⟩, -, X21, ⟨Lc21, hQ21, l21, y21, z21⟩, st21⟩ := Jvm.LawKit.callS X20 hx (y := (⟨"com/example/bitmend/bitmend/CodeParameters", "columns", "(II)J"⟩ : MethodName)) hown (mvT hZ (hw _ (List.mem_of_getElem? (i := 12) rfl))) (mvT hZ (hw _ (List.mem_of_getElem? (i := 13) rfl))) (mvT hZ (hw _ (List.mem_of_getElem? (i := 14) rfl))) (mvT hZ (hw _ (List.mem_of_getElem? (i := 15) rfl))) (by decide) (backOf (W := 2) (rm3 l Z a0 hw [] (2 : Int32) (8 : Int32) h20 n0 (by decide)) hZ (hw _ (List.mem_of_getElem? (i := 15) rfl)) (hw _ (List.mem_of_getElem? (i := 14) rfl)) (by decide) (by decide)) (g := (mkF m 20 #[.val (.ref o0), .val (.int (2 : Int32)), .val (.ref b3), .val (.int (8 : Int32))] [(.int (8 : Int32)), (.int (2 : Int32)), (.int (8 : Int32)), (.ref b3)])) rfl (by rw [hml]; rfl) (argsL := [(.int (2 : Int32)), (.int (8 : Int32))]) (rest := [(.int (8 : Int32)), (.ref b3)]) (lenOf pd_2 rfl) rfl (by show 2 * 0 + _ ≤ _; exact Nat.le_of_eq rfl) (hb hby d1_20) (fun _ _ => ⟨rfl, e20, (by decide : 1 + 0 ≤ _), (by decide : 33 + 0 ≤ _)⟩)
  dsimp only [Pt.U, Pt.locs, Pt.cells, Pt.slots] at X21 l21 y21 z21 st21 hQ21
  subst l21 y21 z21
  obtain ⟨rfl, N21q, e21⟩ := hQ21
  have N21 := Fr.app N20 N21q
  obtain ⟨Lh21, X21, N21⟩ := hide X21 N21 (C := 1) (S := 33) (by decide) (by decide)
  refine Outs.of st21 ?_
  refine Outs.of (U' := T21.setTop (mkF m 25 #[.val (.ref o0), .val (.int (2 : Int32)), .val (.ref b3), .val (.int (8 : Int32))] [(.long ((F_f3 (2 : Int32) (8 : Int32)) + (1 : Int64))), (.int (8 : Int32)), (.ref b3)])) (fun t k => ?_) ?_
  · refine XS.lconst X21.here hx rfl (hb hby d1_23) ?_
    refine XS.ladd X21.here hx rfl (hb hby d1_24) rfl ?_
    exact k
  obtain ⟨T22, h22, X22, e22, W22, V22, st22⟩ := puJ X21 hx hZ e21 V20 (j := (8 : Int32)) (x := ((F_f3 (2 : Int32) (8 : Int32)) + (1 : Int64))) (k := 8) rfl (by decide) (f := (mkF m 25 #[.val (.ref o0), .val (.int (2 : Int32)), .val (.ref b3), .val (.int (8 : Int32))] [(.long ((F_f3 (2 : Int32) (8 : Int32)) + (1 : Int64))), (.int (8 : Int32)), (.ref b3)])) rfl rfl (hb hby d1_25)
  replace V22 : AJ Z h22 b3 .long 33 ct2_g25h := V22
  have N22 := Fr.snoc X22 N21 g_b3
  obtain ⟨Lh22, X22, N22⟩ := hide X22 N22 (C := 1) (S := 33) (by decide) (by decide)
  refine Outs.of st22 ?_
  refine Outs.of (U' := T22.setTop (mkF m 33 #[.val (.ref o0), .val (.int (2 : Int32)), .val (.ref b3), .val (.int (9 : Int32))] [(.int (8 : Int32)), (.ref b3)])) (fun t k => ?_) ?_
  · refine XS.iinc X22.here hx rfl (hb hby d1_26) rfl (l' := #[.val (.ref o0), .val (.int (2 : Int32)), .val (.ref b3), .val (.int (9 : Int32))]) rfl ?_
    refine XS.aloadN X22.here hx rfl (hb hby d1_29) rfl rfl ?_
    refine XS.iloadN X22.here hx rfl (hb hby d1_30) rfl ?_
    refine XS.iconst X22.here hx rfl (hb hby d1_31) ?_
    refine XS.isub X22.here hx rfl (hb hby d1_32) rfl ?_
    exact k
  refine Outs.of (ldJ X22 hx hZ e22 V22 (j := (8 : Int32)) (k := 8) rfl (by decide) (f := (mkF m 33 #[.val (.ref o0), .val (.int (2 : Int32)), .val (.ref b3), .val (.int (9 : Int32))] [(.int (8 : Int32)), (.ref b3)])) rfl rfl (hb hby d1_33)) ?_
  refine Outs.of (U' := T22.setTop (mkF m 20 #[.val (.ref o0), .val (.int (2 : Int32)), .val (.ref b3), .val (.int (9 : Int32))] [(.int (9 : Int32)), (.int (2 : Int32)), (.int (9 : Int32)), (.ref b3)])) (fun t k => ?_) ?_
  · refine X22.ldc2Long hx hown (mvT hZ (hw _ (List.mem_of_getElem? (i := 16) rfl))) (g := (mkF m 34 #[.val (.ref o0), .val (.int (2 : Int32)), .val (.ref b3), .val (.int (9 : Int32))] [(.long (ct2_g25h 8))])) rfl (hb hby d1_34) _ ?_
    refine XS.lcmp X22.here hx rfl (hb hby d1_37) rfl ?_
    refine XS.ifYes X22.here hx rfl (pc0 := 38) (pc' := 16) rfl (hb hby d1_38) rfl ((if0 _ _).trans (flt (fun q_ => (show ¬ ((2147483647 : Int64) < (ct2_g25h 8)) from (by decide +kernel)) ((lw_gt _ _).mp q_))).2.2.2) (by decide) (by decide) ?_
    refine XS.aloadN X22.here hx rfl (hb hby d1_16) rfl rfl ?_
    refine XS.iloadN X22.here hx rfl (hb hby d1_17) rfl ?_
    refine XS.iloadN X22.here hx rfl (hb hby d1_18) rfl ?_
    refine XS.iloadN X22.here hx rfl (hb hby d1_19) rfl ?_
    exact k
  obtain ⟨_, _, ⟨T23, L23, k23, n23⟩, -, X23, ⟨Lc23, hQ23, l23, y23, z23⟩, st23⟩ := Jvm.LawKit.callS X22 hx (y := (⟨"com/example/bitmend/bitmend/CodeParameters", "columns", "(II)J"⟩ : MethodName)) hown (mvT hZ (hw _ (List.mem_of_getElem? (i := 12) rfl))) (mvT hZ (hw _ (List.mem_of_getElem? (i := 13) rfl))) (mvT hZ (hw _ (List.mem_of_getElem? (i := 14) rfl))) (mvT hZ (hw _ (List.mem_of_getElem? (i := 15) rfl))) (by decide) (backOf (W := 2) (rm3 l Z a0 hw [] (2 : Int32) (9 : Int32) h22 n0 (by decide)) hZ (hw _ (List.mem_of_getElem? (i := 15) rfl)) (hw _ (List.mem_of_getElem? (i := 14) rfl)) (by decide) (by decide)) (g := (mkF m 20 #[.val (.ref o0), .val (.int (2 : Int32)), .val (.ref b3), .val (.int (9 : Int32))] [(.int (9 : Int32)), (.int (2 : Int32)), (.int (9 : Int32)), (.ref b3)])) rfl (by rw [hml]; rfl) (argsL := [(.int (2 : Int32)), (.int (9 : Int32))]) (rest := [(.int (9 : Int32)), (.ref b3)]) (lenOf pd_2 rfl) rfl (by show 2 * 0 + _ ≤ _; exact Nat.le_of_eq rfl) (hb hby d1_20) (fun _ _ => ⟨rfl, e22, (by decide : 1 + 0 ≤ _), (by decide : 33 + 0 ≤ _)⟩)
  dsimp only [Pt.U, Pt.locs, Pt.cells, Pt.slots] at X23 l23 y23 z23 st23 hQ23
  subst l23 y23 z23
  obtain ⟨rfl, N23q, e23⟩ := hQ23
  have N23 := Fr.app N22 N23q
  obtain ⟨Lh23, X23, N23⟩ := hide X23 N23 (C := 1) (S := 33) (by decide) (by decide)
  refine Outs.of st23 ?_
  refine Outs.of (U' := T23.setTop (mkF m 25 #[.val (.ref o0), .val (.int (2 : Int32)), .val (.ref b3), .val (.int (9 : Int32))] [(.long ((F_f3 (2 : Int32) (9 : Int32)) + (1 : Int64))), (.int (9 : Int32)), (.ref b3)])) (fun t k => ?_) ?_
  · refine XS.lconst X23.here hx rfl (hb hby d1_23) ?_
    refine XS.ladd X23.here hx rfl (hb hby d1_24) rfl ?_
    exact k
  obtain ⟨T24, h24, X24, e24, W24, V24, st24⟩ := puJ X23 hx hZ e23 V22 (j := (9 : Int32)) (x := ((F_f3 (2 : Int32) (9 : Int32)) + (1 : Int64))) (k := 9) rfl (by decide) (f := (mkF m 25 #[.val (.ref o0), .val (.int (2 : Int32)), .val (.ref b3), .val (.int (9 : Int32))] [(.long ((F_f3 (2 : Int32) (9 : Int32)) + (1 : Int64))), (.int (9 : Int32)), (.ref b3)])) rfl rfl (hb hby d1_25)
  replace V24 : AJ Z h24 b3 .long 33 ct2_g25i := V24
  have N24 := Fr.snoc X24 N23 g_b3
  obtain ⟨Lh24, X24, N24⟩ := hide X24 N24 (C := 1) (S := 33) (by decide) (by decide)
  refine Outs.of st24 ?_
  refine Outs.of (U' := T24.setTop (mkF m 33 #[.val (.ref o0), .val (.int (2 : Int32)), .val (.ref b3), .val (.int (10 : Int32))] [(.int (9 : Int32)), (.ref b3)])) (fun t k => ?_) ?_
  · refine XS.iinc X24.here hx rfl (hb hby d1_26) rfl (l' := #[.val (.ref o0), .val (.int (2 : Int32)), .val (.ref b3), .val (.int (10 : Int32))]) rfl ?_
    refine XS.aloadN X24.here hx rfl (hb hby d1_29) rfl rfl ?_
    refine XS.iloadN X24.here hx rfl (hb hby d1_30) rfl ?_
    refine XS.iconst X24.here hx rfl (hb hby d1_31) ?_
    refine XS.isub X24.here hx rfl (hb hby d1_32) rfl ?_
    exact k
  refine Outs.of (ldJ X24 hx hZ e24 V24 (j := (9 : Int32)) (k := 9) rfl (by decide) (f := (mkF m 33 #[.val (.ref o0), .val (.int (2 : Int32)), .val (.ref b3), .val (.int (10 : Int32))] [(.int (9 : Int32)), (.ref b3)])) rfl rfl (hb hby d1_33)) ?_
  refine Outs.of (U' := T24.setTop (mkF m 20 #[.val (.ref o0), .val (.int (2 : Int32)), .val (.ref b3), .val (.int (10 : Int32))] [(.int (10 : Int32)), (.int (2 : Int32)), (.int (10 : Int32)), (.ref b3)])) (fun t k => ?_) ?_
  · refine X24.ldc2Long hx hown (mvT hZ (hw _ (List.mem_of_getElem? (i := 16) rfl))) (g := (mkF m 34 #[.val (.ref o0), .val (.int (2 : Int32)), .val (.ref b3), .val (.int (10 : Int32))] [(.long (ct2_g25i 9))])) rfl (hb hby d1_34) _ ?_
    refine XS.lcmp X24.here hx rfl (hb hby d1_37) rfl ?_
    refine XS.ifYes X24.here hx rfl (pc0 := 38) (pc' := 16) rfl (hb hby d1_38) rfl ((if0 _ _).trans (flt (fun q_ => (show ¬ ((2147483647 : Int64) < (ct2_g25i 9)) from (by decide +kernel)) ((lw_gt _ _).mp q_))).2.2.2) (by decide) (by decide) ?_
    refine XS.aloadN X24.here hx rfl (hb hby d1_16) rfl rfl ?_
    refine XS.iloadN X24.here hx rfl (hb hby d1_17) rfl ?_
    refine XS.iloadN X24.here hx rfl (hb hby d1_18) rfl ?_
    refine XS.iloadN X24.here hx rfl (hb hby d1_19) rfl ?_
    exact k
  obtain ⟨_, _, ⟨T25, L25, k25, n25⟩, -, X25, ⟨Lc25, hQ25, l25, y25, z25⟩, st25⟩ := Jvm.LawKit.callS X24 hx (y := (⟨"com/example/bitmend/bitmend/CodeParameters", "columns", "(II)J"⟩ : MethodName)) hown (mvT hZ (hw _ (List.mem_of_getElem? (i := 12) rfl))) (mvT hZ (hw _ (List.mem_of_getElem? (i := 13) rfl))) (mvT hZ (hw _ (List.mem_of_getElem? (i := 14) rfl))) (mvT hZ (hw _ (List.mem_of_getElem? (i := 15) rfl))) (by decide) (backOf (W := 2) (rm3 l Z a0 hw [] (2 : Int32) (10 : Int32) h24 n0 (by decide)) hZ (hw _ (List.mem_of_getElem? (i := 15) rfl)) (hw _ (List.mem_of_getElem? (i := 14) rfl)) (by decide) (by decide)) (g := (mkF m 20 #[.val (.ref o0), .val (.int (2 : Int32)), .val (.ref b3), .val (.int (10 : Int32))] [(.int (10 : Int32)), (.int (2 : Int32)), (.int (10 : Int32)), (.ref b3)])) rfl (by rw [hml]; rfl) (argsL := [(.int (2 : Int32)), (.int (10 : Int32))]) (rest := [(.int (10 : Int32)), (.ref b3)]) (lenOf pd_2 rfl) rfl (by show 2 * 0 + _ ≤ _; exact Nat.le_of_eq rfl) (hb hby d1_20) (fun _ _ => ⟨rfl, e24, (by decide : 1 + 0 ≤ _), (by decide : 33 + 0 ≤ _)⟩)
  dsimp only [Pt.U, Pt.locs, Pt.cells, Pt.slots] at X25 l25 y25 z25 st25 hQ25
  subst l25 y25 z25
  obtain ⟨rfl, N25q, e25⟩ := hQ25
  have N25 := Fr.app N24 N25q
  obtain ⟨Lh25, X25, N25⟩ := hide X25 N25 (C := 1) (S := 33) (by decide) (by decide)
  refine Outs.of st25 ?_
  refine Outs.of (U' := T25.setTop (mkF m 25 #[.val (.ref o0), .val (.int (2 : Int32)), .val (.ref b3), .val (.int (10 : Int32))] [(.long ((F_f3 (2 : Int32) (10 : Int32)) + (1 : Int64))), (.int (10 : Int32)), (.ref b3)])) (fun t k => ?_) ?_
  · refine XS.lconst X25.here hx rfl (hb hby d1_23) ?_
    refine XS.ladd X25.here hx rfl (hb hby d1_24) rfl ?_
    exact k
  obtain ⟨T26, h26, X26, e26, W26, V26, st26⟩ := puJ X25 hx hZ e25 V24 (j := (10 : Int32)) (x := ((F_f3 (2 : Int32) (10 : Int32)) + (1 : Int64))) (k := 10) rfl (by decide) (f := (mkF m 25 #[.val (.ref o0), .val (.int (2 : Int32)), .val (.ref b3), .val (.int (10 : Int32))] [(.long ((F_f3 (2 : Int32) (10 : Int32)) + (1 : Int64))), (.int (10 : Int32)), (.ref b3)])) rfl rfl (hb hby d1_25)
  replace V26 : AJ Z h26 b3 .long 33 ct2_g25j := V26
  have N26 := Fr.snoc X26 N25 g_b3
  obtain ⟨Lh26, X26, N26⟩ := hide X26 N26 (C := 1) (S := 33) (by decide) (by decide)
  refine Outs.of st26 ?_
  refine Outs.of (U' := T26.setTop (mkF m 33 #[.val (.ref o0), .val (.int (2 : Int32)), .val (.ref b3), .val (.int (11 : Int32))] [(.int (10 : Int32)), (.ref b3)])) (fun t k => ?_) ?_
  · refine XS.iinc X26.here hx rfl (hb hby d1_26) rfl (l' := #[.val (.ref o0), .val (.int (2 : Int32)), .val (.ref b3), .val (.int (11 : Int32))]) rfl ?_
    refine XS.aloadN X26.here hx rfl (hb hby d1_29) rfl rfl ?_
    refine XS.iloadN X26.here hx rfl (hb hby d1_30) rfl ?_
    refine XS.iconst X26.here hx rfl (hb hby d1_31) ?_
    refine XS.isub X26.here hx rfl (hb hby d1_32) rfl ?_
    exact k
  refine Outs.of (ldJ X26 hx hZ e26 V26 (j := (10 : Int32)) (k := 10) rfl (by decide) (f := (mkF m 33 #[.val (.ref o0), .val (.int (2 : Int32)), .val (.ref b3), .val (.int (11 : Int32))] [(.int (10 : Int32)), (.ref b3)])) rfl rfl (hb hby d1_33)) ?_
  refine Outs.of (U' := T26.setTop (mkF m 20 #[.val (.ref o0), .val (.int (2 : Int32)), .val (.ref b3), .val (.int (11 : Int32))] [(.int (11 : Int32)), (.int (2 : Int32)), (.int (11 : Int32)), (.ref b3)])) (fun t k => ?_) ?_
  · refine X26.ldc2Long hx hown (mvT hZ (hw _ (List.mem_of_getElem? (i := 16) rfl))) (g := (mkF m 34 #[.val (.ref o0), .val (.int (2 : Int32)), .val (.ref b3), .val (.int (11 : Int32))] [(.long (ct2_g25j 10))])) rfl (hb hby d1_34) _ ?_
    refine XS.lcmp X26.here hx rfl (hb hby d1_37) rfl ?_
    refine XS.ifYes X26.here hx rfl (pc0 := 38) (pc' := 16) rfl (hb hby d1_38) rfl ((if0 _ _).trans (flt (fun q_ => (show ¬ ((2147483647 : Int64) < (ct2_g25j 10)) from (by decide +kernel)) ((lw_gt _ _).mp q_))).2.2.2) (by decide) (by decide) ?_
    refine XS.aloadN X26.here hx rfl (hb hby d1_16) rfl rfl ?_
    refine XS.iloadN X26.here hx rfl (hb hby d1_17) rfl ?_
    refine XS.iloadN X26.here hx rfl (hb hby d1_18) rfl ?_
    refine XS.iloadN X26.here hx rfl (hb hby d1_19) rfl ?_
    exact k
  obtain ⟨_, _, ⟨T27, L27, k27, n27⟩, -, X27, ⟨Lc27, hQ27, l27, y27, z27⟩, st27⟩ := Jvm.LawKit.callS X26 hx (y := (⟨"com/example/bitmend/bitmend/CodeParameters", "columns", "(II)J"⟩ : MethodName)) hown (mvT hZ (hw _ (List.mem_of_getElem? (i := 12) rfl))) (mvT hZ (hw _ (List.mem_of_getElem? (i := 13) rfl))) (mvT hZ (hw _ (List.mem_of_getElem? (i := 14) rfl))) (mvT hZ (hw _ (List.mem_of_getElem? (i := 15) rfl))) (by decide) (backOf (W := 2) (rm3 l Z a0 hw [] (2 : Int32) (11 : Int32) h26 n0 (by decide)) hZ (hw _ (List.mem_of_getElem? (i := 15) rfl)) (hw _ (List.mem_of_getElem? (i := 14) rfl)) (by decide) (by decide)) (g := (mkF m 20 #[.val (.ref o0), .val (.int (2 : Int32)), .val (.ref b3), .val (.int (11 : Int32))] [(.int (11 : Int32)), (.int (2 : Int32)), (.int (11 : Int32)), (.ref b3)])) rfl (by rw [hml]; rfl) (argsL := [(.int (2 : Int32)), (.int (11 : Int32))]) (rest := [(.int (11 : Int32)), (.ref b3)]) (lenOf pd_2 rfl) rfl (by show 2 * 0 + _ ≤ _; exact Nat.le_of_eq rfl) (hb hby d1_20) (fun _ _ => ⟨rfl, e26, (by decide : 1 + 0 ≤ _), (by decide : 33 + 0 ≤ _)⟩)
  dsimp only [Pt.U, Pt.locs, Pt.cells, Pt.slots] at X27 l27 y27 z27 st27 hQ27
  subst l27 y27 z27
  obtain ⟨rfl, N27q, e27⟩ := hQ27
  have N27 := Fr.app N26 N27q
  obtain ⟨Lh27, X27, N27⟩ := hide X27 N27 (C := 1) (S := 33) (by decide) (by decide)
  refine Outs.of st27 ?_
  refine Outs.of (U' := T27.setTop (mkF m 25 #[.val (.ref o0), .val (.int (2 : Int32)), .val (.ref b3), .val (.int (11 : Int32))] [(.long ((F_f3 (2 : Int32) (11 : Int32)) + (1 : Int64))), (.int (11 : Int32)), (.ref b3)])) (fun t k => ?_) ?_
  · refine XS.lconst X27.here hx rfl (hb hby d1_23) ?_
    refine XS.ladd X27.here hx rfl (hb hby d1_24) rfl ?_
    exact k
  obtain ⟨T28, h28, X28, e28, W28, V28, st28⟩ := puJ X27 hx hZ e27 V26 (j := (11 : Int32)) (x := ((F_f3 (2 : Int32) (11 : Int32)) + (1 : Int64))) (k := 11) rfl (by decide) (f := (mkF m 25 #[.val (.ref o0), .val (.int (2 : Int32)), .val (.ref b3), .val (.int (11 : Int32))] [(.long ((F_f3 (2 : Int32) (11 : Int32)) + (1 : Int64))), (.int (11 : Int32)), (.ref b3)])) rfl rfl (hb hby d1_25)
  replace V28 : AJ Z h28 b3 .long 33 ct2_g25k := V28
  have N28 := Fr.snoc X28 N27 g_b3
  obtain ⟨Lh28, X28, N28⟩ := hide X28 N28 (C := 1) (S := 33) (by decide) (by decide)
  refine Outs.of st28 ?_
  refine Outs.of (U' := T28.setTop (mkF m 33 #[.val (.ref o0), .val (.int (2 : Int32)), .val (.ref b3), .val (.int (12 : Int32))] [(.int (11 : Int32)), (.ref b3)])) (fun t k => ?_) ?_
  · refine XS.iinc X28.here hx rfl (hb hby d1_26) rfl (l' := #[.val (.ref o0), .val (.int (2 : Int32)), .val (.ref b3), .val (.int (12 : Int32))]) rfl ?_
    refine XS.aloadN X28.here hx rfl (hb hby d1_29) rfl rfl ?_
    refine XS.iloadN X28.here hx rfl (hb hby d1_30) rfl ?_
    refine XS.iconst X28.here hx rfl (hb hby d1_31) ?_
    refine XS.isub X28.here hx rfl (hb hby d1_32) rfl ?_
    exact k
  refine Outs.of (ldJ X28 hx hZ e28 V28 (j := (11 : Int32)) (k := 11) rfl (by decide) (f := (mkF m 33 #[.val (.ref o0), .val (.int (2 : Int32)), .val (.ref b3), .val (.int (12 : Int32))] [(.int (11 : Int32)), (.ref b3)])) rfl rfl (hb hby d1_33)) ?_
  refine Outs.of (U' := T28.setTop (mkF m 20 #[.val (.ref o0), .val (.int (2 : Int32)), .val (.ref b3), .val (.int (12 : Int32))] [(.int (12 : Int32)), (.int (2 : Int32)), (.int (12 : Int32)), (.ref b3)])) (fun t k => ?_) ?_
  · refine X28.ldc2Long hx hown (mvT hZ (hw _ (List.mem_of_getElem? (i := 16) rfl))) (g := (mkF m 34 #[.val (.ref o0), .val (.int (2 : Int32)), .val (.ref b3), .val (.int (12 : Int32))] [(.long (ct2_g25k 11))])) rfl (hb hby d1_34) _ ?_
    refine XS.lcmp X28.here hx rfl (hb hby d1_37) rfl ?_
    refine XS.ifYes X28.here hx rfl (pc0 := 38) (pc' := 16) rfl (hb hby d1_38) rfl ((if0 _ _).trans (flt (fun q_ => (show ¬ ((2147483647 : Int64) < (ct2_g25k 11)) from (by decide +kernel)) ((lw_gt _ _).mp q_))).2.2.2) (by decide) (by decide) ?_
    refine XS.aloadN X28.here hx rfl (hb hby d1_16) rfl rfl ?_
    refine XS.iloadN X28.here hx rfl (hb hby d1_17) rfl ?_
    refine XS.iloadN X28.here hx rfl (hb hby d1_18) rfl ?_
    refine XS.iloadN X28.here hx rfl (hb hby d1_19) rfl ?_
    exact k
  obtain ⟨_, _, ⟨T29, L29, k29, n29⟩, -, X29, ⟨Lc29, hQ29, l29, y29, z29⟩, st29⟩ := Jvm.LawKit.callS X28 hx (y := (⟨"com/example/bitmend/bitmend/CodeParameters", "columns", "(II)J"⟩ : MethodName)) hown (mvT hZ (hw _ (List.mem_of_getElem? (i := 12) rfl))) (mvT hZ (hw _ (List.mem_of_getElem? (i := 13) rfl))) (mvT hZ (hw _ (List.mem_of_getElem? (i := 14) rfl))) (mvT hZ (hw _ (List.mem_of_getElem? (i := 15) rfl))) (by decide) (backOf (W := 2) (rm3 l Z a0 hw [] (2 : Int32) (12 : Int32) h28 n0 (by decide)) hZ (hw _ (List.mem_of_getElem? (i := 15) rfl)) (hw _ (List.mem_of_getElem? (i := 14) rfl)) (by decide) (by decide)) (g := (mkF m 20 #[.val (.ref o0), .val (.int (2 : Int32)), .val (.ref b3), .val (.int (12 : Int32))] [(.int (12 : Int32)), (.int (2 : Int32)), (.int (12 : Int32)), (.ref b3)])) rfl (by rw [hml]; rfl) (argsL := [(.int (2 : Int32)), (.int (12 : Int32))]) (rest := [(.int (12 : Int32)), (.ref b3)]) (lenOf pd_2 rfl) rfl (by show 2 * 0 + _ ≤ _; exact Nat.le_of_eq rfl) (hb hby d1_20) (fun _ _ => ⟨rfl, e28, (by decide : 1 + 0 ≤ _), (by decide : 33 + 0 ≤ _)⟩)
  dsimp only [Pt.U, Pt.locs, Pt.cells, Pt.slots] at X29 l29 y29 z29 st29 hQ29
  subst l29 y29 z29
  obtain ⟨rfl, N29q, e29⟩ := hQ29
  have N29 := Fr.app N28 N29q
  obtain ⟨Lh29, X29, N29⟩ := hide X29 N29 (C := 1) (S := 33) (by decide) (by decide)
  refine Outs.of st29 ?_
  refine Outs.of (U' := T29.setTop (mkF m 25 #[.val (.ref o0), .val (.int (2 : Int32)), .val (.ref b3), .val (.int (12 : Int32))] [(.long ((F_f3 (2 : Int32) (12 : Int32)) + (1 : Int64))), (.int (12 : Int32)), (.ref b3)])) (fun t k => ?_) ?_
  · refine XS.lconst X29.here hx rfl (hb hby d1_23) ?_
    refine XS.ladd X29.here hx rfl (hb hby d1_24) rfl ?_
    exact k
  obtain ⟨T30, h30, X30, e30, W30, V30, st30⟩ := puJ X29 hx hZ e29 V28 (j := (12 : Int32)) (x := ((F_f3 (2 : Int32) (12 : Int32)) + (1 : Int64))) (k := 12) rfl (by decide) (f := (mkF m 25 #[.val (.ref o0), .val (.int (2 : Int32)), .val (.ref b3), .val (.int (12 : Int32))] [(.long ((F_f3 (2 : Int32) (12 : Int32)) + (1 : Int64))), (.int (12 : Int32)), (.ref b3)])) rfl rfl (hb hby d1_25)
  replace V30 : AJ Z h30 b3 .long 33 ct2_g25l := V30
  have N30 := Fr.snoc X30 N29 g_b3
  obtain ⟨Lh30, X30, N30⟩ := hide X30 N30 (C := 1) (S := 33) (by decide) (by decide)
  refine Outs.of st30 ?_
  refine Outs.of (U' := T30.setTop (mkF m 33 #[.val (.ref o0), .val (.int (2 : Int32)), .val (.ref b3), .val (.int (13 : Int32))] [(.int (12 : Int32)), (.ref b3)])) (fun t k => ?_) ?_
  · refine XS.iinc X30.here hx rfl (hb hby d1_26) rfl (l' := #[.val (.ref o0), .val (.int (2 : Int32)), .val (.ref b3), .val (.int (13 : Int32))]) rfl ?_
    refine XS.aloadN X30.here hx rfl (hb hby d1_29) rfl rfl ?_
    refine XS.iloadN X30.here hx rfl (hb hby d1_30) rfl ?_
    refine XS.iconst X30.here hx rfl (hb hby d1_31) ?_
    refine XS.isub X30.here hx rfl (hb hby d1_32) rfl ?_
    exact k
  refine Outs.of (ldJ X30 hx hZ e30 V30 (j := (12 : Int32)) (k := 12) rfl (by decide) (f := (mkF m 33 #[.val (.ref o0), .val (.int (2 : Int32)), .val (.ref b3), .val (.int (13 : Int32))] [(.int (12 : Int32)), (.ref b3)])) rfl rfl (hb hby d1_33)) ?_
  refine Outs.of (U' := T30.setTop (mkF m 20 #[.val (.ref o0), .val (.int (2 : Int32)), .val (.ref b3), .val (.int (13 : Int32))] [(.int (13 : Int32)), (.int (2 : Int32)), (.int (13 : Int32)), (.ref b3)])) (fun t k => ?_) ?_
  · refine X30.ldc2Long hx hown (mvT hZ (hw _ (List.mem_of_getElem? (i := 16) rfl))) (g := (mkF m 34 #[.val (.ref o0), .val (.int (2 : Int32)), .val (.ref b3), .val (.int (13 : Int32))] [(.long (ct2_g25l 12))])) rfl (hb hby d1_34) _ ?_
    refine XS.lcmp X30.here hx rfl (hb hby d1_37) rfl ?_
    refine XS.ifYes X30.here hx rfl (pc0 := 38) (pc' := 16) rfl (hb hby d1_38) rfl ((if0 _ _).trans (flt (fun q_ => (show ¬ ((2147483647 : Int64) < (ct2_g25l 12)) from (by decide +kernel)) ((lw_gt _ _).mp q_))).2.2.2) (by decide) (by decide) ?_
    refine XS.aloadN X30.here hx rfl (hb hby d1_16) rfl rfl ?_
    refine XS.iloadN X30.here hx rfl (hb hby d1_17) rfl ?_
    refine XS.iloadN X30.here hx rfl (hb hby d1_18) rfl ?_
    refine XS.iloadN X30.here hx rfl (hb hby d1_19) rfl ?_
    exact k
  obtain ⟨_, _, ⟨T31, L31, k31, n31⟩, -, X31, ⟨Lc31, hQ31, l31, y31, z31⟩, st31⟩ := Jvm.LawKit.callS X30 hx (y := (⟨"com/example/bitmend/bitmend/CodeParameters", "columns", "(II)J"⟩ : MethodName)) hown (mvT hZ (hw _ (List.mem_of_getElem? (i := 12) rfl))) (mvT hZ (hw _ (List.mem_of_getElem? (i := 13) rfl))) (mvT hZ (hw _ (List.mem_of_getElem? (i := 14) rfl))) (mvT hZ (hw _ (List.mem_of_getElem? (i := 15) rfl))) (by decide) (backOf (W := 2) (rm3 l Z a0 hw [] (2 : Int32) (13 : Int32) h30 n0 (by decide)) hZ (hw _ (List.mem_of_getElem? (i := 15) rfl)) (hw _ (List.mem_of_getElem? (i := 14) rfl)) (by decide) (by decide)) (g := (mkF m 20 #[.val (.ref o0), .val (.int (2 : Int32)), .val (.ref b3), .val (.int (13 : Int32))] [(.int (13 : Int32)), (.int (2 : Int32)), (.int (13 : Int32)), (.ref b3)])) rfl (by rw [hml]; rfl) (argsL := [(.int (2 : Int32)), (.int (13 : Int32))]) (rest := [(.int (13 : Int32)), (.ref b3)]) (lenOf pd_2 rfl) rfl (by show 2 * 0 + _ ≤ _; exact Nat.le_of_eq rfl) (hb hby d1_20) (fun _ _ => ⟨rfl, e30, (by decide : 1 + 0 ≤ _), (by decide : 33 + 0 ≤ _)⟩)
  dsimp only [Pt.U, Pt.locs, Pt.cells, Pt.slots] at X31 l31 y31 z31 st31 hQ31
  subst l31 y31 z31
  obtain ⟨rfl, N31q, e31⟩ := hQ31
  have N31 := Fr.app N30 N31q
  obtain ⟨Lh31, X31, N31⟩ := hide X31 N31 (C := 1) (S := 33) (by decide) (by decide)
  refine Outs.of st31 ?_
  refine Outs.of (U' := T31.setTop (mkF m 25 #[.val (.ref o0), .val (.int (2 : Int32)), .val (.ref b3), .val (.int (13 : Int32))] [(.long ((F_f3 (2 : Int32) (13 : Int32)) + (1 : Int64))), (.int (13 : Int32)), (.ref b3)])) (fun t k => ?_) ?_
  · refine XS.lconst X31.here hx rfl (hb hby d1_23) ?_
    refine XS.ladd X31.here hx rfl (hb hby d1_24) rfl ?_
    exact k
  obtain ⟨T32, h32, X32, e32, W32, V32, st32⟩ := puJ X31 hx hZ e31 V30 (j := (13 : Int32)) (x := ((F_f3 (2 : Int32) (13 : Int32)) + (1 : Int64))) (k := 13) rfl (by decide) (f := (mkF m 25 #[.val (.ref o0), .val (.int (2 : Int32)), .val (.ref b3), .val (.int (13 : Int32))] [(.long ((F_f3 (2 : Int32) (13 : Int32)) + (1 : Int64))), (.int (13 : Int32)), (.ref b3)])) rfl rfl (hb hby d1_25)
  replace V32 : AJ Z h32 b3 .long 33 ct2_g25m := V32
  have N32 := Fr.snoc X32 N31 g_b3
  obtain ⟨Lh32, X32, N32⟩ := hide X32 N32 (C := 1) (S := 33) (by decide) (by decide)
  refine Outs.of st32 ?_
  refine Outs.of (U' := T32.setTop (mkF m 33 #[.val (.ref o0), .val (.int (2 : Int32)), .val (.ref b3), .val (.int (14 : Int32))] [(.int (13 : Int32)), (.ref b3)])) (fun t k => ?_) ?_
  · refine XS.iinc X32.here hx rfl (hb hby d1_26) rfl (l' := #[.val (.ref o0), .val (.int (2 : Int32)), .val (.ref b3), .val (.int (14 : Int32))]) rfl ?_
    refine XS.aloadN X32.here hx rfl (hb hby d1_29) rfl rfl ?_
    refine XS.iloadN X32.here hx rfl (hb hby d1_30) rfl ?_
    refine XS.iconst X32.here hx rfl (hb hby d1_31) ?_
    refine XS.isub X32.here hx rfl (hb hby d1_32) rfl ?_
    exact k
  refine Outs.of (ldJ X32 hx hZ e32 V32 (j := (13 : Int32)) (k := 13) rfl (by decide) (f := (mkF m 33 #[.val (.ref o0), .val (.int (2 : Int32)), .val (.ref b3), .val (.int (14 : Int32))] [(.int (13 : Int32)), (.ref b3)])) rfl rfl (hb hby d1_33)) ?_
  refine Outs.of (U' := T32.setTop (mkF m 20 #[.val (.ref o0), .val (.int (2 : Int32)), .val (.ref b3), .val (.int (14 : Int32))] [(.int (14 : Int32)), (.int (2 : Int32)), (.int (14 : Int32)), (.ref b3)])) (fun t k => ?_) ?_
  · refine X32.ldc2Long hx hown (mvT hZ (hw _ (List.mem_of_getElem? (i := 16) rfl))) (g := (mkF m 34 #[.val (.ref o0), .val (.int (2 : Int32)), .val (.ref b3), .val (.int (14 : Int32))] [(.long (ct2_g25m 13))])) rfl (hb hby d1_34) _ ?_
    refine XS.lcmp X32.here hx rfl (hb hby d1_37) rfl ?_
    refine XS.ifYes X32.here hx rfl (pc0 := 38) (pc' := 16) rfl (hb hby d1_38) rfl ((if0 _ _).trans (flt (fun q_ => (show ¬ ((2147483647 : Int64) < (ct2_g25m 13)) from (by decide +kernel)) ((lw_gt _ _).mp q_))).2.2.2) (by decide) (by decide) ?_
    refine XS.aloadN X32.here hx rfl (hb hby d1_16) rfl rfl ?_
    refine XS.iloadN X32.here hx rfl (hb hby d1_17) rfl ?_
    refine XS.iloadN X32.here hx rfl (hb hby d1_18) rfl ?_
    refine XS.iloadN X32.here hx rfl (hb hby d1_19) rfl ?_
    exact k
  obtain ⟨_, _, ⟨T33, L33, k33, n33⟩, -, X33, ⟨Lc33, hQ33, l33, y33, z33⟩, st33⟩ := Jvm.LawKit.callS X32 hx (y := (⟨"com/example/bitmend/bitmend/CodeParameters", "columns", "(II)J"⟩ : MethodName)) hown (mvT hZ (hw _ (List.mem_of_getElem? (i := 12) rfl))) (mvT hZ (hw _ (List.mem_of_getElem? (i := 13) rfl))) (mvT hZ (hw _ (List.mem_of_getElem? (i := 14) rfl))) (mvT hZ (hw _ (List.mem_of_getElem? (i := 15) rfl))) (by decide) (backOf (W := 2) (rm3 l Z a0 hw [] (2 : Int32) (14 : Int32) h32 n0 (by decide)) hZ (hw _ (List.mem_of_getElem? (i := 15) rfl)) (hw _ (List.mem_of_getElem? (i := 14) rfl)) (by decide) (by decide)) (g := (mkF m 20 #[.val (.ref o0), .val (.int (2 : Int32)), .val (.ref b3), .val (.int (14 : Int32))] [(.int (14 : Int32)), (.int (2 : Int32)), (.int (14 : Int32)), (.ref b3)])) rfl (by rw [hml]; rfl) (argsL := [(.int (2 : Int32)), (.int (14 : Int32))]) (rest := [(.int (14 : Int32)), (.ref b3)]) (lenOf pd_2 rfl) rfl (by show 2 * 0 + _ ≤ _; exact Nat.le_of_eq rfl) (hb hby d1_20) (fun _ _ => ⟨rfl, e32, (by decide : 1 + 0 ≤ _), (by decide : 33 + 0 ≤ _)⟩)
  dsimp only [Pt.U, Pt.locs, Pt.cells, Pt.slots] at X33 l33 y33 z33 st33 hQ33
  subst l33 y33 z33
  obtain ⟨rfl, N33q, e33⟩ := hQ33
  have N33 := Fr.app N32 N33q
  obtain ⟨Lh33, X33, N33⟩ := hide X33 N33 (C := 1) (S := 33) (by decide) (by decide)
  refine Outs.of st33 ?_
  refine Outs.of (U' := T33.setTop (mkF m 25 #[.val (.ref o0), .val (.int (2 : Int32)), .val (.ref b3), .val (.int (14 : Int32))] [(.long ((F_f3 (2 : Int32) (14 : Int32)) + (1 : Int64))), (.int (14 : Int32)), (.ref b3)])) (fun t k => ?_) ?_
  · refine XS.lconst X33.here hx rfl (hb hby d1_23) ?_
    refine XS.ladd X33.here hx rfl (hb hby d1_24) rfl ?_
    exact k
  obtain ⟨T34, h34, X34, e34, W34, V34, st34⟩ := puJ X33 hx hZ e33 V32 (j := (14 : Int32)) (x := ((F_f3 (2 : Int32) (14 : Int32)) + (1 : Int64))) (k := 14) rfl (by decide) (f := (mkF m 25 #[.val (.ref o0), .val (.int (2 : Int32)), .val (.ref b3), .val (.int (14 : Int32))] [(.long ((F_f3 (2 : Int32) (14 : Int32)) + (1 : Int64))), (.int (14 : Int32)), (.ref b3)])) rfl rfl (hb hby d1_25)
  replace V34 : AJ Z h34 b3 .long 33 ct2_g25n := V34
  have N34 := Fr.snoc X34 N33 g_b3
  obtain ⟨Lh34, X34, N34⟩ := hide X34 N34 (C := 1) (S := 33) (by decide) (by decide)
  refine Outs.of st34 ?_
  refine Outs.of (U' := T34.setTop (mkF m 33 #[.val (.ref o0), .val (.int (2 : Int32)), .val (.ref b3), .val (.int (15 : Int32))] [(.int (14 : Int32)), (.ref b3)])) (fun t k => ?_) ?_
  · refine XS.iinc X34.here hx rfl (hb hby d1_26) rfl (l' := #[.val (.ref o0), .val (.int (2 : Int32)), .val (.ref b3), .val (.int (15 : Int32))]) rfl ?_
    refine XS.aloadN X34.here hx rfl (hb hby d1_29) rfl rfl ?_
    refine XS.iloadN X34.here hx rfl (hb hby d1_30) rfl ?_
    refine XS.iconst X34.here hx rfl (hb hby d1_31) ?_
    refine XS.isub X34.here hx rfl (hb hby d1_32) rfl ?_
    exact k
  refine Outs.of (ldJ X34 hx hZ e34 V34 (j := (14 : Int32)) (k := 14) rfl (by decide) (f := (mkF m 33 #[.val (.ref o0), .val (.int (2 : Int32)), .val (.ref b3), .val (.int (15 : Int32))] [(.int (14 : Int32)), (.ref b3)])) rfl rfl (hb hby d1_33)) ?_
  refine Outs.of (U' := T34.setTop (mkF m 20 #[.val (.ref o0), .val (.int (2 : Int32)), .val (.ref b3), .val (.int (15 : Int32))] [(.int (15 : Int32)), (.int (2 : Int32)), (.int (15 : Int32)), (.ref b3)])) (fun t k => ?_) ?_
  · refine X34.ldc2Long hx hown (mvT hZ (hw _ (List.mem_of_getElem? (i := 16) rfl))) (g := (mkF m 34 #[.val (.ref o0), .val (.int (2 : Int32)), .val (.ref b3), .val (.int (15 : Int32))] [(.long (ct2_g25n 14))])) rfl (hb hby d1_34) _ ?_
    refine XS.lcmp X34.here hx rfl (hb hby d1_37) rfl ?_
    refine XS.ifYes X34.here hx rfl (pc0 := 38) (pc' := 16) rfl (hb hby d1_38) rfl ((if0 _ _).trans (flt (fun q_ => (show ¬ ((2147483647 : Int64) < (ct2_g25n 14)) from (by decide +kernel)) ((lw_gt _ _).mp q_))).2.2.2) (by decide) (by decide) ?_
    refine XS.aloadN X34.here hx rfl (hb hby d1_16) rfl rfl ?_
    refine XS.iloadN X34.here hx rfl (hb hby d1_17) rfl ?_
    refine XS.iloadN X34.here hx rfl (hb hby d1_18) rfl ?_
    refine XS.iloadN X34.here hx rfl (hb hby d1_19) rfl ?_
    exact k
  obtain ⟨_, _, ⟨T35, L35, k35, n35⟩, -, X35, ⟨Lc35, hQ35, l35, y35, z35⟩, st35⟩ := Jvm.LawKit.callS X34 hx (y := (⟨"com/example/bitmend/bitmend/CodeParameters", "columns", "(II)J"⟩ : MethodName)) hown (mvT hZ (hw _ (List.mem_of_getElem? (i := 12) rfl))) (mvT hZ (hw _ (List.mem_of_getElem? (i := 13) rfl))) (mvT hZ (hw _ (List.mem_of_getElem? (i := 14) rfl))) (mvT hZ (hw _ (List.mem_of_getElem? (i := 15) rfl))) (by decide) (backOf (W := 2) (rm3 l Z a0 hw [] (2 : Int32) (15 : Int32) h34 n0 (by decide)) hZ (hw _ (List.mem_of_getElem? (i := 15) rfl)) (hw _ (List.mem_of_getElem? (i := 14) rfl)) (by decide) (by decide)) (g := (mkF m 20 #[.val (.ref o0), .val (.int (2 : Int32)), .val (.ref b3), .val (.int (15 : Int32))] [(.int (15 : Int32)), (.int (2 : Int32)), (.int (15 : Int32)), (.ref b3)])) rfl (by rw [hml]; rfl) (argsL := [(.int (2 : Int32)), (.int (15 : Int32))]) (rest := [(.int (15 : Int32)), (.ref b3)]) (lenOf pd_2 rfl) rfl (by show 2 * 0 + _ ≤ _; exact Nat.le_of_eq rfl) (hb hby d1_20) (fun _ _ => ⟨rfl, e34, (by decide : 1 + 0 ≤ _), (by decide : 33 + 0 ≤ _)⟩)
  dsimp only [Pt.U, Pt.locs, Pt.cells, Pt.slots] at X35 l35 y35 z35 st35 hQ35
  subst l35 y35 z35
  obtain ⟨rfl, N35q, e35⟩ := hQ35
  have N35 := Fr.app N34 N35q
  obtain ⟨Lh35, X35, N35⟩ := hide X35 N35 (C := 1) (S := 33) (by decide) (by decide)
  refine Outs.of st35 ?_
  refine Outs.of (U' := T35.setTop (mkF m 25 #[.val (.ref o0), .val (.int (2 : Int32)), .val (.ref b3), .val (.int (15 : Int32))] [(.long ((F_f3 (2 : Int32) (15 : Int32)) + (1 : Int64))), (.int (15 : Int32)), (.ref b3)])) (fun t k => ?_) ?_
  · refine XS.lconst X35.here hx rfl (hb hby d1_23) ?_
    refine XS.ladd X35.here hx rfl (hb hby d1_24) rfl ?_
    exact k
  obtain ⟨T36, h36, X36, e36, W36, V36, st36⟩ := puJ X35 hx hZ e35 V34 (j := (15 : Int32)) (x := ((F_f3 (2 : Int32) (15 : Int32)) + (1 : Int64))) (k := 15) rfl (by decide) (f := (mkF m 25 #[.val (.ref o0), .val (.int (2 : Int32)), .val (.ref b3), .val (.int (15 : Int32))] [(.long ((F_f3 (2 : Int32) (15 : Int32)) + (1 : Int64))), (.int (15 : Int32)), (.ref b3)])) rfl rfl (hb hby d1_25)
  replace V36 : AJ Z h36 b3 .long 33 ct2_g25o := V36
  have N36 := Fr.snoc X36 N35 g_b3
  obtain ⟨Lh36, X36, N36⟩ := hide X36 N36 (C := 1) (S := 33) (by decide) (by decide)
  refine Outs.of st36 ?_
  refine Outs.of (U' := T36.setTop (mkF m 33 #[.val (.ref o0), .val (.int (2 : Int32)), .val (.ref b3), .val (.int (16 : Int32))] [(.int (15 : Int32)), (.ref b3)])) (fun t k => ?_) ?_
  · refine XS.iinc X36.here hx rfl (hb hby d1_26) rfl (l' := #[.val (.ref o0), .val (.int (2 : Int32)), .val (.ref b3), .val (.int (16 : Int32))]) rfl ?_
    refine XS.aloadN X36.here hx rfl (hb hby d1_29) rfl rfl ?_
    refine XS.iloadN X36.here hx rfl (hb hby d1_30) rfl ?_
    refine XS.iconst X36.here hx rfl (hb hby d1_31) ?_
    refine XS.isub X36.here hx rfl (hb hby d1_32) rfl ?_
    exact k
  refine Outs.of (ldJ X36 hx hZ e36 V36 (j := (15 : Int32)) (k := 15) rfl (by decide) (f := (mkF m 33 #[.val (.ref o0), .val (.int (2 : Int32)), .val (.ref b3), .val (.int (16 : Int32))] [(.int (15 : Int32)), (.ref b3)])) rfl rfl (hb hby d1_33)) ?_
  refine Outs.of (U' := T36.setTop (mkF m 20 #[.val (.ref o0), .val (.int (2 : Int32)), .val (.ref b3), .val (.int (16 : Int32))] [(.int (16 : Int32)), (.int (2 : Int32)), (.int (16 : Int32)), (.ref b3)])) (fun t k => ?_) ?_
  · refine X36.ldc2Long hx hown (mvT hZ (hw _ (List.mem_of_getElem? (i := 16) rfl))) (g := (mkF m 34 #[.val (.ref o0), .val (.int (2 : Int32)), .val (.ref b3), .val (.int (16 : Int32))] [(.long (ct2_g25o 15))])) rfl (hb hby d1_34) _ ?_
    refine XS.lcmp X36.here hx rfl (hb hby d1_37) rfl ?_
    refine XS.ifYes X36.here hx rfl (pc0 := 38) (pc' := 16) rfl (hb hby d1_38) rfl ((if0 _ _).trans (flt (fun q_ => (show ¬ ((2147483647 : Int64) < (ct2_g25o 15)) from (by decide +kernel)) ((lw_gt _ _).mp q_))).2.2.2) (by decide) (by decide) ?_
    refine XS.aloadN X36.here hx rfl (hb hby d1_16) rfl rfl ?_
    refine XS.iloadN X36.here hx rfl (hb hby d1_17) rfl ?_
    refine XS.iloadN X36.here hx rfl (hb hby d1_18) rfl ?_
    refine XS.iloadN X36.here hx rfl (hb hby d1_19) rfl ?_
    exact k
  obtain ⟨_, _, ⟨T37, L37, k37, n37⟩, -, X37, ⟨Lc37, hQ37, l37, y37, z37⟩, st37⟩ := Jvm.LawKit.callS X36 hx (y := (⟨"com/example/bitmend/bitmend/CodeParameters", "columns", "(II)J"⟩ : MethodName)) hown (mvT hZ (hw _ (List.mem_of_getElem? (i := 12) rfl))) (mvT hZ (hw _ (List.mem_of_getElem? (i := 13) rfl))) (mvT hZ (hw _ (List.mem_of_getElem? (i := 14) rfl))) (mvT hZ (hw _ (List.mem_of_getElem? (i := 15) rfl))) (by decide) (backOf (W := 2) (rm3 l Z a0 hw [] (2 : Int32) (16 : Int32) h36 n0 (by decide)) hZ (hw _ (List.mem_of_getElem? (i := 15) rfl)) (hw _ (List.mem_of_getElem? (i := 14) rfl)) (by decide) (by decide)) (g := (mkF m 20 #[.val (.ref o0), .val (.int (2 : Int32)), .val (.ref b3), .val (.int (16 : Int32))] [(.int (16 : Int32)), (.int (2 : Int32)), (.int (16 : Int32)), (.ref b3)])) rfl (by rw [hml]; rfl) (argsL := [(.int (2 : Int32)), (.int (16 : Int32))]) (rest := [(.int (16 : Int32)), (.ref b3)]) (lenOf pd_2 rfl) rfl (by show 2 * 0 + _ ≤ _; exact Nat.le_of_eq rfl) (hb hby d1_20) (fun _ _ => ⟨rfl, e36, (by decide : 1 + 0 ≤ _), (by decide : 33 + 0 ≤ _)⟩)
  dsimp only [Pt.U, Pt.locs, Pt.cells, Pt.slots] at X37 l37 y37 z37 st37 hQ37
  subst l37 y37 z37
  obtain ⟨rfl, N37q, e37⟩ := hQ37
  have N37 := Fr.app N36 N37q
  obtain ⟨Lh37, X37, N37⟩ := hide X37 N37 (C := 1) (S := 33) (by decide) (by decide)
  refine Outs.of st37 ?_
  refine Outs.of (U' := T37.setTop (mkF m 25 #[.val (.ref o0), .val (.int (2 : Int32)), .val (.ref b3), .val (.int (16 : Int32))] [(.long ((F_f3 (2 : Int32) (16 : Int32)) + (1 : Int64))), (.int (16 : Int32)), (.ref b3)])) (fun t k => ?_) ?_
  · refine XS.lconst X37.here hx rfl (hb hby d1_23) ?_
    refine XS.ladd X37.here hx rfl (hb hby d1_24) rfl ?_
    exact k
  obtain ⟨T38, h38, X38, e38, W38, V38, st38⟩ := puJ X37 hx hZ e37 V36 (j := (16 : Int32)) (x := ((F_f3 (2 : Int32) (16 : Int32)) + (1 : Int64))) (k := 16) rfl (by decide) (f := (mkF m 25 #[.val (.ref o0), .val (.int (2 : Int32)), .val (.ref b3), .val (.int (16 : Int32))] [(.long ((F_f3 (2 : Int32) (16 : Int32)) + (1 : Int64))), (.int (16 : Int32)), (.ref b3)])) rfl rfl (hb hby d1_25)
  replace V38 : AJ Z h38 b3 .long 33 ct2_g25p := V38
  have N38 := Fr.snoc X38 N37 g_b3
  obtain ⟨Lh38, X38, N38⟩ := hide X38 N38 (C := 1) (S := 33) (by decide) (by decide)
  refine Outs.of st38 ?_
  refine Outs.of (U' := T38.setTop (mkF m 33 #[.val (.ref o0), .val (.int (2 : Int32)), .val (.ref b3), .val (.int (17 : Int32))] [(.int (16 : Int32)), (.ref b3)])) (fun t k => ?_) ?_
  · refine XS.iinc X38.here hx rfl (hb hby d1_26) rfl (l' := #[.val (.ref o0), .val (.int (2 : Int32)), .val (.ref b3), .val (.int (17 : Int32))]) rfl ?_
    refine XS.aloadN X38.here hx rfl (hb hby d1_29) rfl rfl ?_
    refine XS.iloadN X38.here hx rfl (hb hby d1_30) rfl ?_
    refine XS.iconst X38.here hx rfl (hb hby d1_31) ?_
    refine XS.isub X38.here hx rfl (hb hby d1_32) rfl ?_
    exact k
  refine Outs.of (ldJ X38 hx hZ e38 V38 (j := (16 : Int32)) (k := 16) rfl (by decide) (f := (mkF m 33 #[.val (.ref o0), .val (.int (2 : Int32)), .val (.ref b3), .val (.int (17 : Int32))] [(.int (16 : Int32)), (.ref b3)])) rfl rfl (hb hby d1_33)) ?_
  refine Outs.of (U' := T38.setTop (mkF m 20 #[.val (.ref o0), .val (.int (2 : Int32)), .val (.ref b3), .val (.int (17 : Int32))] [(.int (17 : Int32)), (.int (2 : Int32)), (.int (17 : Int32)), (.ref b3)])) (fun t k => ?_) ?_
  · refine X38.ldc2Long hx hown (mvT hZ (hw _ (List.mem_of_getElem? (i := 16) rfl))) (g := (mkF m 34 #[.val (.ref o0), .val (.int (2 : Int32)), .val (.ref b3), .val (.int (17 : Int32))] [(.long (ct2_g25p 16))])) rfl (hb hby d1_34) _ ?_
    refine XS.lcmp X38.here hx rfl (hb hby d1_37) rfl ?_
    refine XS.ifYes X38.here hx rfl (pc0 := 38) (pc' := 16) rfl (hb hby d1_38) rfl ((if0 _ _).trans (flt (fun q_ => (show ¬ ((2147483647 : Int64) < (ct2_g25p 16)) from (by decide +kernel)) ((lw_gt _ _).mp q_))).2.2.2) (by decide) (by decide) ?_
    refine XS.aloadN X38.here hx rfl (hb hby d1_16) rfl rfl ?_
    refine XS.iloadN X38.here hx rfl (hb hby d1_17) rfl ?_
    refine XS.iloadN X38.here hx rfl (hb hby d1_18) rfl ?_
    refine XS.iloadN X38.here hx rfl (hb hby d1_19) rfl ?_
    exact k
  obtain ⟨_, _, ⟨T39, L39, k39, n39⟩, -, X39, ⟨Lc39, hQ39, l39, y39, z39⟩, st39⟩ := Jvm.LawKit.callS X38 hx (y := (⟨"com/example/bitmend/bitmend/CodeParameters", "columns", "(II)J"⟩ : MethodName)) hown (mvT hZ (hw _ (List.mem_of_getElem? (i := 12) rfl))) (mvT hZ (hw _ (List.mem_of_getElem? (i := 13) rfl))) (mvT hZ (hw _ (List.mem_of_getElem? (i := 14) rfl))) (mvT hZ (hw _ (List.mem_of_getElem? (i := 15) rfl))) (by decide) (backOf (W := 2) (rm3 l Z a0 hw [] (2 : Int32) (17 : Int32) h38 n0 (by decide)) hZ (hw _ (List.mem_of_getElem? (i := 15) rfl)) (hw _ (List.mem_of_getElem? (i := 14) rfl)) (by decide) (by decide)) (g := (mkF m 20 #[.val (.ref o0), .val (.int (2 : Int32)), .val (.ref b3), .val (.int (17 : Int32))] [(.int (17 : Int32)), (.int (2 : Int32)), (.int (17 : Int32)), (.ref b3)])) rfl (by rw [hml]; rfl) (argsL := [(.int (2 : Int32)), (.int (17 : Int32))]) (rest := [(.int (17 : Int32)), (.ref b3)]) (lenOf pd_2 rfl) rfl (by show 2 * 0 + _ ≤ _; exact Nat.le_of_eq rfl) (hb hby d1_20) (fun _ _ => ⟨rfl, e38, (by decide : 1 + 0 ≤ _), (by decide : 33 + 0 ≤ _)⟩)
  dsimp only [Pt.U, Pt.locs, Pt.cells, Pt.slots] at X39 l39 y39 z39 st39 hQ39
  subst l39 y39 z39
  obtain ⟨rfl, N39q, e39⟩ := hQ39
  have N39 := Fr.app N38 N39q
  obtain ⟨Lh39, X39, N39⟩ := hide X39 N39 (C := 1) (S := 33) (by decide) (by decide)
  refine Outs.of st39 ?_
  refine Outs.of (U' := T39.setTop (mkF m 25 #[.val (.ref o0), .val (.int (2 : Int32)), .val (.ref b3), .val (.int (17 : Int32))] [(.long ((F_f3 (2 : Int32) (17 : Int32)) + (1 : Int64))), (.int (17 : Int32)), (.ref b3)])) (fun t k => ?_) ?_
  · refine XS.lconst X39.here hx rfl (hb hby d1_23) ?_
    refine XS.ladd X39.here hx rfl (hb hby d1_24) rfl ?_
    exact k
  obtain ⟨T40, h40, X40, e40, W40, V40, st40⟩ := puJ X39 hx hZ e39 V38 (j := (17 : Int32)) (x := ((F_f3 (2 : Int32) (17 : Int32)) + (1 : Int64))) (k := 17) rfl (by decide) (f := (mkF m 25 #[.val (.ref o0), .val (.int (2 : Int32)), .val (.ref b3), .val (.int (17 : Int32))] [(.long ((F_f3 (2 : Int32) (17 : Int32)) + (1 : Int64))), (.int (17 : Int32)), (.ref b3)])) rfl rfl (hb hby d1_25)
  replace V40 : AJ Z h40 b3 .long 33 ct2_g25q := V40
  have N40 := Fr.snoc X40 N39 g_b3
  obtain ⟨Lh40, X40, N40⟩ := hide X40 N40 (C := 1) (S := 33) (by decide) (by decide)
  refine Outs.of st40 ?_
  refine Outs.of (U' := T40.setTop (mkF m 33 #[.val (.ref o0), .val (.int (2 : Int32)), .val (.ref b3), .val (.int (18 : Int32))] [(.int (17 : Int32)), (.ref b3)])) (fun t k => ?_) ?_
  · refine XS.iinc X40.here hx rfl (hb hby d1_26) rfl (l' := #[.val (.ref o0), .val (.int (2 : Int32)), .val (.ref b3), .val (.int (18 : Int32))]) rfl ?_
    refine XS.aloadN X40.here hx rfl (hb hby d1_29) rfl rfl ?_
    refine XS.iloadN X40.here hx rfl (hb hby d1_30) rfl ?_
    refine XS.iconst X40.here hx rfl (hb hby d1_31) ?_
    refine XS.isub X40.here hx rfl (hb hby d1_32) rfl ?_
    exact k
  refine Outs.of (ldJ X40 hx hZ e40 V40 (j := (17 : Int32)) (k := 17) rfl (by decide) (f := (mkF m 33 #[.val (.ref o0), .val (.int (2 : Int32)), .val (.ref b3), .val (.int (18 : Int32))] [(.int (17 : Int32)), (.ref b3)])) rfl rfl (hb hby d1_33)) ?_
  refine Outs.of (U' := T40.setTop (mkF m 20 #[.val (.ref o0), .val (.int (2 : Int32)), .val (.ref b3), .val (.int (18 : Int32))] [(.int (18 : Int32)), (.int (2 : Int32)), (.int (18 : Int32)), (.ref b3)])) (fun t k => ?_) ?_
  · refine X40.ldc2Long hx hown (mvT hZ (hw _ (List.mem_of_getElem? (i := 16) rfl))) (g := (mkF m 34 #[.val (.ref o0), .val (.int (2 : Int32)), .val (.ref b3), .val (.int (18 : Int32))] [(.long (ct2_g25q 17))])) rfl (hb hby d1_34) _ ?_
    refine XS.lcmp X40.here hx rfl (hb hby d1_37) rfl ?_
    refine XS.ifYes X40.here hx rfl (pc0 := 38) (pc' := 16) rfl (hb hby d1_38) rfl ((if0 _ _).trans (flt (fun q_ => (show ¬ ((2147483647 : Int64) < (ct2_g25q 17)) from (by decide +kernel)) ((lw_gt _ _).mp q_))).2.2.2) (by decide) (by decide) ?_
    refine XS.aloadN X40.here hx rfl (hb hby d1_16) rfl rfl ?_
    refine XS.iloadN X40.here hx rfl (hb hby d1_17) rfl ?_
    refine XS.iloadN X40.here hx rfl (hb hby d1_18) rfl ?_
    refine XS.iloadN X40.here hx rfl (hb hby d1_19) rfl ?_
    exact k
  obtain ⟨_, _, ⟨T41, L41, k41, n41⟩, -, X41, ⟨Lc41, hQ41, l41, y41, z41⟩, st41⟩ := Jvm.LawKit.callS X40 hx (y := (⟨"com/example/bitmend/bitmend/CodeParameters", "columns", "(II)J"⟩ : MethodName)) hown (mvT hZ (hw _ (List.mem_of_getElem? (i := 12) rfl))) (mvT hZ (hw _ (List.mem_of_getElem? (i := 13) rfl))) (mvT hZ (hw _ (List.mem_of_getElem? (i := 14) rfl))) (mvT hZ (hw _ (List.mem_of_getElem? (i := 15) rfl))) (by decide) (backOf (W := 2) (rm3 l Z a0 hw [] (2 : Int32) (18 : Int32) h40 n0 (by decide)) hZ (hw _ (List.mem_of_getElem? (i := 15) rfl)) (hw _ (List.mem_of_getElem? (i := 14) rfl)) (by decide) (by decide)) (g := (mkF m 20 #[.val (.ref o0), .val (.int (2 : Int32)), .val (.ref b3), .val (.int (18 : Int32))] [(.int (18 : Int32)), (.int (2 : Int32)), (.int (18 : Int32)), (.ref b3)])) rfl (by rw [hml]; rfl) (argsL := [(.int (2 : Int32)), (.int (18 : Int32))]) (rest := [(.int (18 : Int32)), (.ref b3)]) (lenOf pd_2 rfl) rfl (by show 2 * 0 + _ ≤ _; exact Nat.le_of_eq rfl) (hb hby d1_20) (fun _ _ => ⟨rfl, e40, (by decide : 1 + 0 ≤ _), (by decide : 33 + 0 ≤ _)⟩)
  dsimp only [Pt.U, Pt.locs, Pt.cells, Pt.slots] at X41 l41 y41 z41 st41 hQ41
  subst l41 y41 z41
  obtain ⟨rfl, N41q, e41⟩ := hQ41
  have N41 := Fr.app N40 N41q
  obtain ⟨Lh41, X41, N41⟩ := hide X41 N41 (C := 1) (S := 33) (by decide) (by decide)
  refine Outs.of st41 ?_
  refine Outs.of (U' := T41.setTop (mkF m 25 #[.val (.ref o0), .val (.int (2 : Int32)), .val (.ref b3), .val (.int (18 : Int32))] [(.long ((F_f3 (2 : Int32) (18 : Int32)) + (1 : Int64))), (.int (18 : Int32)), (.ref b3)])) (fun t k => ?_) ?_
  · refine XS.lconst X41.here hx rfl (hb hby d1_23) ?_
    refine XS.ladd X41.here hx rfl (hb hby d1_24) rfl ?_
    exact k
  obtain ⟨T42, h42, X42, e42, W42, V42, st42⟩ := puJ X41 hx hZ e41 V40 (j := (18 : Int32)) (x := ((F_f3 (2 : Int32) (18 : Int32)) + (1 : Int64))) (k := 18) rfl (by decide) (f := (mkF m 25 #[.val (.ref o0), .val (.int (2 : Int32)), .val (.ref b3), .val (.int (18 : Int32))] [(.long ((F_f3 (2 : Int32) (18 : Int32)) + (1 : Int64))), (.int (18 : Int32)), (.ref b3)])) rfl rfl (hb hby d1_25)
  replace V42 : AJ Z h42 b3 .long 33 ct2_g25r := V42
  have N42 := Fr.snoc X42 N41 g_b3
  obtain ⟨Lh42, X42, N42⟩ := hide X42 N42 (C := 1) (S := 33) (by decide) (by decide)
  refine Outs.of st42 ?_
  refine Outs.of (U' := T42.setTop (mkF m 33 #[.val (.ref o0), .val (.int (2 : Int32)), .val (.ref b3), .val (.int (19 : Int32))] [(.int (18 : Int32)), (.ref b3)])) (fun t k => ?_) ?_
  · refine XS.iinc X42.here hx rfl (hb hby d1_26) rfl (l' := #[.val (.ref o0), .val (.int (2 : Int32)), .val (.ref b3), .val (.int (19 : Int32))]) rfl ?_
    refine XS.aloadN X42.here hx rfl (hb hby d1_29) rfl rfl ?_
    refine XS.iloadN X42.here hx rfl (hb hby d1_30) rfl ?_
    refine XS.iconst X42.here hx rfl (hb hby d1_31) ?_
    refine XS.isub X42.here hx rfl (hb hby d1_32) rfl ?_
    exact k
  refine Outs.of (ldJ X42 hx hZ e42 V42 (j := (18 : Int32)) (k := 18) rfl (by decide) (f := (mkF m 33 #[.val (.ref o0), .val (.int (2 : Int32)), .val (.ref b3), .val (.int (19 : Int32))] [(.int (18 : Int32)), (.ref b3)])) rfl rfl (hb hby d1_33)) ?_
  refine Outs.of (U' := T42.setTop (mkF m 20 #[.val (.ref o0), .val (.int (2 : Int32)), .val (.ref b3), .val (.int (19 : Int32))] [(.int (19 : Int32)), (.int (2 : Int32)), (.int (19 : Int32)), (.ref b3)])) (fun t k => ?_) ?_
  · refine X42.ldc2Long hx hown (mvT hZ (hw _ (List.mem_of_getElem? (i := 16) rfl))) (g := (mkF m 34 #[.val (.ref o0), .val (.int (2 : Int32)), .val (.ref b3), .val (.int (19 : Int32))] [(.long (ct2_g25r 18))])) rfl (hb hby d1_34) _ ?_
    refine XS.lcmp X42.here hx rfl (hb hby d1_37) rfl ?_
    refine XS.ifYes X42.here hx rfl (pc0 := 38) (pc' := 16) rfl (hb hby d1_38) rfl ((if0 _ _).trans (flt (fun q_ => (show ¬ ((2147483647 : Int64) < (ct2_g25r 18)) from (by decide +kernel)) ((lw_gt _ _).mp q_))).2.2.2) (by decide) (by decide) ?_
    refine XS.aloadN X42.here hx rfl (hb hby d1_16) rfl rfl ?_
    refine XS.iloadN X42.here hx rfl (hb hby d1_17) rfl ?_
    refine XS.iloadN X42.here hx rfl (hb hby d1_18) rfl ?_
    refine XS.iloadN X42.here hx rfl (hb hby d1_19) rfl ?_
    exact k
  obtain ⟨_, _, ⟨T43, L43, k43, n43⟩, -, X43, ⟨Lc43, hQ43, l43, y43, z43⟩, st43⟩ := Jvm.LawKit.callS X42 hx (y := (⟨"com/example/bitmend/bitmend/CodeParameters", "columns", "(II)J"⟩ : MethodName)) hown (mvT hZ (hw _ (List.mem_of_getElem? (i := 12) rfl))) (mvT hZ (hw _ (List.mem_of_getElem? (i := 13) rfl))) (mvT hZ (hw _ (List.mem_of_getElem? (i := 14) rfl))) (mvT hZ (hw _ (List.mem_of_getElem? (i := 15) rfl))) (by decide) (backOf (W := 2) (rm3 l Z a0 hw [] (2 : Int32) (19 : Int32) h42 n0 (by decide)) hZ (hw _ (List.mem_of_getElem? (i := 15) rfl)) (hw _ (List.mem_of_getElem? (i := 14) rfl)) (by decide) (by decide)) (g := (mkF m 20 #[.val (.ref o0), .val (.int (2 : Int32)), .val (.ref b3), .val (.int (19 : Int32))] [(.int (19 : Int32)), (.int (2 : Int32)), (.int (19 : Int32)), (.ref b3)])) rfl (by rw [hml]; rfl) (argsL := [(.int (2 : Int32)), (.int (19 : Int32))]) (rest := [(.int (19 : Int32)), (.ref b3)]) (lenOf pd_2 rfl) rfl (by show 2 * 0 + _ ≤ _; exact Nat.le_of_eq rfl) (hb hby d1_20) (fun _ _ => ⟨rfl, e42, (by decide : 1 + 0 ≤ _), (by decide : 33 + 0 ≤ _)⟩)
  dsimp only [Pt.U, Pt.locs, Pt.cells, Pt.slots] at X43 l43 y43 z43 st43 hQ43
  subst l43 y43 z43
  obtain ⟨rfl, N43q, e43⟩ := hQ43
  have N43 := Fr.app N42 N43q
  obtain ⟨Lh43, X43, N43⟩ := hide X43 N43 (C := 1) (S := 33) (by decide) (by decide)
  refine Outs.of st43 ?_
  refine Outs.of (U' := T43.setTop (mkF m 25 #[.val (.ref o0), .val (.int (2 : Int32)), .val (.ref b3), .val (.int (19 : Int32))] [(.long ((F_f3 (2 : Int32) (19 : Int32)) + (1 : Int64))), (.int (19 : Int32)), (.ref b3)])) (fun t k => ?_) ?_
  · refine XS.lconst X43.here hx rfl (hb hby d1_23) ?_
    refine XS.ladd X43.here hx rfl (hb hby d1_24) rfl ?_
    exact k
  obtain ⟨T44, h44, X44, e44, W44, V44, st44⟩ := puJ X43 hx hZ e43 V42 (j := (19 : Int32)) (x := ((F_f3 (2 : Int32) (19 : Int32)) + (1 : Int64))) (k := 19) rfl (by decide) (f := (mkF m 25 #[.val (.ref o0), .val (.int (2 : Int32)), .val (.ref b3), .val (.int (19 : Int32))] [(.long ((F_f3 (2 : Int32) (19 : Int32)) + (1 : Int64))), (.int (19 : Int32)), (.ref b3)])) rfl rfl (hb hby d1_25)
  replace V44 : AJ Z h44 b3 .long 33 ct2_g25s := V44
  have N44 := Fr.snoc X44 N43 g_b3
  obtain ⟨Lh44, X44, N44⟩ := hide X44 N44 (C := 1) (S := 33) (by decide) (by decide)
  refine Outs.of st44 ?_
  refine Outs.of (U' := T44.setTop (mkF m 33 #[.val (.ref o0), .val (.int (2 : Int32)), .val (.ref b3), .val (.int (20 : Int32))] [(.int (19 : Int32)), (.ref b3)])) (fun t k => ?_) ?_
  · refine XS.iinc X44.here hx rfl (hb hby d1_26) rfl (l' := #[.val (.ref o0), .val (.int (2 : Int32)), .val (.ref b3), .val (.int (20 : Int32))]) rfl ?_
    refine XS.aloadN X44.here hx rfl (hb hby d1_29) rfl rfl ?_
    refine XS.iloadN X44.here hx rfl (hb hby d1_30) rfl ?_
    refine XS.iconst X44.here hx rfl (hb hby d1_31) ?_
    refine XS.isub X44.here hx rfl (hb hby d1_32) rfl ?_
    exact k
  refine Outs.of (ldJ X44 hx hZ e44 V44 (j := (19 : Int32)) (k := 19) rfl (by decide) (f := (mkF m 33 #[.val (.ref o0), .val (.int (2 : Int32)), .val (.ref b3), .val (.int (20 : Int32))] [(.int (19 : Int32)), (.ref b3)])) rfl rfl (hb hby d1_33)) ?_
  refine Outs.of (U' := T44.setTop (mkF m 20 #[.val (.ref o0), .val (.int (2 : Int32)), .val (.ref b3), .val (.int (20 : Int32))] [(.int (20 : Int32)), (.int (2 : Int32)), (.int (20 : Int32)), (.ref b3)])) (fun t k => ?_) ?_
  · refine X44.ldc2Long hx hown (mvT hZ (hw _ (List.mem_of_getElem? (i := 16) rfl))) (g := (mkF m 34 #[.val (.ref o0), .val (.int (2 : Int32)), .val (.ref b3), .val (.int (20 : Int32))] [(.long (ct2_g25s 19))])) rfl (hb hby d1_34) _ ?_
    refine XS.lcmp X44.here hx rfl (hb hby d1_37) rfl ?_
    refine XS.ifYes X44.here hx rfl (pc0 := 38) (pc' := 16) rfl (hb hby d1_38) rfl ((if0 _ _).trans (flt (fun q_ => (show ¬ ((2147483647 : Int64) < (ct2_g25s 19)) from (by decide +kernel)) ((lw_gt _ _).mp q_))).2.2.2) (by decide) (by decide) ?_
    refine XS.aloadN X44.here hx rfl (hb hby d1_16) rfl rfl ?_
    refine XS.iloadN X44.here hx rfl (hb hby d1_17) rfl ?_
    refine XS.iloadN X44.here hx rfl (hb hby d1_18) rfl ?_
    refine XS.iloadN X44.here hx rfl (hb hby d1_19) rfl ?_
    exact k
  obtain ⟨_, _, ⟨T45, L45, k45, n45⟩, -, X45, ⟨Lc45, hQ45, l45, y45, z45⟩, st45⟩ := Jvm.LawKit.callS X44 hx (y := (⟨"com/example/bitmend/bitmend/CodeParameters", "columns", "(II)J"⟩ : MethodName)) hown (mvT hZ (hw _ (List.mem_of_getElem? (i := 12) rfl))) (mvT hZ (hw _ (List.mem_of_getElem? (i := 13) rfl))) (mvT hZ (hw _ (List.mem_of_getElem? (i := 14) rfl))) (mvT hZ (hw _ (List.mem_of_getElem? (i := 15) rfl))) (by decide) (backOf (W := 2) (rm3 l Z a0 hw [] (2 : Int32) (20 : Int32) h44 n0 (by decide)) hZ (hw _ (List.mem_of_getElem? (i := 15) rfl)) (hw _ (List.mem_of_getElem? (i := 14) rfl)) (by decide) (by decide)) (g := (mkF m 20 #[.val (.ref o0), .val (.int (2 : Int32)), .val (.ref b3), .val (.int (20 : Int32))] [(.int (20 : Int32)), (.int (2 : Int32)), (.int (20 : Int32)), (.ref b3)])) rfl (by rw [hml]; rfl) (argsL := [(.int (2 : Int32)), (.int (20 : Int32))]) (rest := [(.int (20 : Int32)), (.ref b3)]) (lenOf pd_2 rfl) rfl (by show 2 * 0 + _ ≤ _; exact Nat.le_of_eq rfl) (hb hby d1_20) (fun _ _ => ⟨rfl, e44, (by decide : 1 + 0 ≤ _), (by decide : 33 + 0 ≤ _)⟩)
  dsimp only [Pt.U, Pt.locs, Pt.cells, Pt.slots] at X45 l45 y45 z45 st45 hQ45
  subst l45 y45 z45
  obtain ⟨rfl, N45q, e45⟩ := hQ45
  have N45 := Fr.app N44 N45q
  obtain ⟨Lh45, X45, N45⟩ := hide X45 N45 (C := 1) (S := 33) (by decide) (by decide)
  refine Outs.of st45 ?_
  refine Outs.of (U' := T45.setTop (mkF m 25 #[.val (.ref o0), .val (.int (2 : Int32)), .val (.ref b3), .val (.int (20 : Int32))] [(.long ((F_f3 (2 : Int32) (20 : Int32)) + (1 : Int64))), (.int (20 : Int32)), (.ref b3)])) (fun t k => ?_) ?_
  · refine XS.lconst X45.here hx rfl (hb hby d1_23) ?_
    refine XS.ladd X45.here hx rfl (hb hby d1_24) rfl ?_
    exact k
  obtain ⟨T46, h46, X46, e46, W46, V46, st46⟩ := puJ X45 hx hZ e45 V44 (j := (20 : Int32)) (x := ((F_f3 (2 : Int32) (20 : Int32)) + (1 : Int64))) (k := 20) rfl (by decide) (f := (mkF m 25 #[.val (.ref o0), .val (.int (2 : Int32)), .val (.ref b3), .val (.int (20 : Int32))] [(.long ((F_f3 (2 : Int32) (20 : Int32)) + (1 : Int64))), (.int (20 : Int32)), (.ref b3)])) rfl rfl (hb hby d1_25)
  replace V46 : AJ Z h46 b3 .long 33 ct2_g25t := V46
  have N46 := Fr.snoc X46 N45 g_b3
  obtain ⟨Lh46, X46, N46⟩ := hide X46 N46 (C := 1) (S := 33) (by decide) (by decide)
  refine Outs.of st46 ?_
  refine Outs.of (U' := T46.setTop (mkF m 33 #[.val (.ref o0), .val (.int (2 : Int32)), .val (.ref b3), .val (.int (21 : Int32))] [(.int (20 : Int32)), (.ref b3)])) (fun t k => ?_) ?_
  · refine XS.iinc X46.here hx rfl (hb hby d1_26) rfl (l' := #[.val (.ref o0), .val (.int (2 : Int32)), .val (.ref b3), .val (.int (21 : Int32))]) rfl ?_
    refine XS.aloadN X46.here hx rfl (hb hby d1_29) rfl rfl ?_
    refine XS.iloadN X46.here hx rfl (hb hby d1_30) rfl ?_
    refine XS.iconst X46.here hx rfl (hb hby d1_31) ?_
    refine XS.isub X46.here hx rfl (hb hby d1_32) rfl ?_
    exact k
  refine Outs.of (ldJ X46 hx hZ e46 V46 (j := (20 : Int32)) (k := 20) rfl (by decide) (f := (mkF m 33 #[.val (.ref o0), .val (.int (2 : Int32)), .val (.ref b3), .val (.int (21 : Int32))] [(.int (20 : Int32)), (.ref b3)])) rfl rfl (hb hby d1_33)) ?_
  refine Outs.of (U' := T46.setTop (mkF m 20 #[.val (.ref o0), .val (.int (2 : Int32)), .val (.ref b3), .val (.int (21 : Int32))] [(.int (21 : Int32)), (.int (2 : Int32)), (.int (21 : Int32)), (.ref b3)])) (fun t k => ?_) ?_
  · refine X46.ldc2Long hx hown (mvT hZ (hw _ (List.mem_of_getElem? (i := 16) rfl))) (g := (mkF m 34 #[.val (.ref o0), .val (.int (2 : Int32)), .val (.ref b3), .val (.int (21 : Int32))] [(.long (ct2_g25t 20))])) rfl (hb hby d1_34) _ ?_
    refine XS.lcmp X46.here hx rfl (hb hby d1_37) rfl ?_
    refine XS.ifYes X46.here hx rfl (pc0 := 38) (pc' := 16) rfl (hb hby d1_38) rfl ((if0 _ _).trans (flt (fun q_ => (show ¬ ((2147483647 : Int64) < (ct2_g25t 20)) from (by decide +kernel)) ((lw_gt _ _).mp q_))).2.2.2) (by decide) (by decide) ?_
    refine XS.aloadN X46.here hx rfl (hb hby d1_16) rfl rfl ?_
    refine XS.iloadN X46.here hx rfl (hb hby d1_17) rfl ?_
    refine XS.iloadN X46.here hx rfl (hb hby d1_18) rfl ?_
    refine XS.iloadN X46.here hx rfl (hb hby d1_19) rfl ?_
    exact k
  obtain ⟨_, _, ⟨T47, L47, k47, n47⟩, -, X47, ⟨Lc47, hQ47, l47, y47, z47⟩, st47⟩ := Jvm.LawKit.callS X46 hx (y := (⟨"com/example/bitmend/bitmend/CodeParameters", "columns", "(II)J"⟩ : MethodName)) hown (mvT hZ (hw _ (List.mem_of_getElem? (i := 12) rfl))) (mvT hZ (hw _ (List.mem_of_getElem? (i := 13) rfl))) (mvT hZ (hw _ (List.mem_of_getElem? (i := 14) rfl))) (mvT hZ (hw _ (List.mem_of_getElem? (i := 15) rfl))) (by decide) (backOf (W := 2) (rm3 l Z a0 hw [] (2 : Int32) (21 : Int32) h46 n0 (by decide)) hZ (hw _ (List.mem_of_getElem? (i := 15) rfl)) (hw _ (List.mem_of_getElem? (i := 14) rfl)) (by decide) (by decide)) (g := (mkF m 20 #[.val (.ref o0), .val (.int (2 : Int32)), .val (.ref b3), .val (.int (21 : Int32))] [(.int (21 : Int32)), (.int (2 : Int32)), (.int (21 : Int32)), (.ref b3)])) rfl (by rw [hml]; rfl) (argsL := [(.int (2 : Int32)), (.int (21 : Int32))]) (rest := [(.int (21 : Int32)), (.ref b3)]) (lenOf pd_2 rfl) rfl (by show 2 * 0 + _ ≤ _; exact Nat.le_of_eq rfl) (hb hby d1_20) (fun _ _ => ⟨rfl, e46, (by decide : 1 + 0 ≤ _), (by decide : 33 + 0 ≤ _)⟩)
  dsimp only [Pt.U, Pt.locs, Pt.cells, Pt.slots] at X47 l47 y47 z47 st47 hQ47
  subst l47 y47 z47
  obtain ⟨rfl, N47q, e47⟩ := hQ47
  have N47 := Fr.app N46 N47q
  obtain ⟨Lh47, X47, N47⟩ := hide X47 N47 (C := 1) (S := 33) (by decide) (by decide)
  refine Outs.of st47 ?_
  refine Outs.of (U' := T47.setTop (mkF m 25 #[.val (.ref o0), .val (.int (2 : Int32)), .val (.ref b3), .val (.int (21 : Int32))] [(.long ((F_f3 (2 : Int32) (21 : Int32)) + (1 : Int64))), (.int (21 : Int32)), (.ref b3)])) (fun t k => ?_) ?_
  · refine XS.lconst X47.here hx rfl (hb hby d1_23) ?_
    refine XS.ladd X47.here hx rfl (hb hby d1_24) rfl ?_
    exact k
  obtain ⟨T48, h48, X48, e48, W48, V48, st48⟩ := puJ X47 hx hZ e47 V46 (j := (21 : Int32)) (x := ((F_f3 (2 : Int32) (21 : Int32)) + (1 : Int64))) (k := 21) rfl (by decide) (f := (mkF m 25 #[.val (.ref o0), .val (.int (2 : Int32)), .val (.ref b3), .val (.int (21 : Int32))] [(.long ((F_f3 (2 : Int32) (21 : Int32)) + (1 : Int64))), (.int (21 : Int32)), (.ref b3)])) rfl rfl (hb hby d1_25)
  replace V48 : AJ Z h48 b3 .long 33 ct2_g25u := V48
  have N48 := Fr.snoc X48 N47 g_b3
  obtain ⟨Lh48, X48, N48⟩ := hide X48 N48 (C := 1) (S := 33) (by decide) (by decide)
  refine Outs.of st48 ?_
  refine Outs.of (U' := T48.setTop (mkF m 33 #[.val (.ref o0), .val (.int (2 : Int32)), .val (.ref b3), .val (.int (22 : Int32))] [(.int (21 : Int32)), (.ref b3)])) (fun t k => ?_) ?_
  · refine XS.iinc X48.here hx rfl (hb hby d1_26) rfl (l' := #[.val (.ref o0), .val (.int (2 : Int32)), .val (.ref b3), .val (.int (22 : Int32))]) rfl ?_
    refine XS.aloadN X48.here hx rfl (hb hby d1_29) rfl rfl ?_
    refine XS.iloadN X48.here hx rfl (hb hby d1_30) rfl ?_
    refine XS.iconst X48.here hx rfl (hb hby d1_31) ?_
    refine XS.isub X48.here hx rfl (hb hby d1_32) rfl ?_
    exact k
  refine Outs.of (ldJ X48 hx hZ e48 V48 (j := (21 : Int32)) (k := 21) rfl (by decide) (f := (mkF m 33 #[.val (.ref o0), .val (.int (2 : Int32)), .val (.ref b3), .val (.int (22 : Int32))] [(.int (21 : Int32)), (.ref b3)])) rfl rfl (hb hby d1_33)) ?_
  refine Outs.of (U' := T48.setTop (mkF m 20 #[.val (.ref o0), .val (.int (2 : Int32)), .val (.ref b3), .val (.int (22 : Int32))] [(.int (22 : Int32)), (.int (2 : Int32)), (.int (22 : Int32)), (.ref b3)])) (fun t k => ?_) ?_
  · refine X48.ldc2Long hx hown (mvT hZ (hw _ (List.mem_of_getElem? (i := 16) rfl))) (g := (mkF m 34 #[.val (.ref o0), .val (.int (2 : Int32)), .val (.ref b3), .val (.int (22 : Int32))] [(.long (ct2_g25u 21))])) rfl (hb hby d1_34) _ ?_
    refine XS.lcmp X48.here hx rfl (hb hby d1_37) rfl ?_
    refine XS.ifYes X48.here hx rfl (pc0 := 38) (pc' := 16) rfl (hb hby d1_38) rfl ((if0 _ _).trans (flt (fun q_ => (show ¬ ((2147483647 : Int64) < (ct2_g25u 21)) from (by decide +kernel)) ((lw_gt _ _).mp q_))).2.2.2) (by decide) (by decide) ?_
    refine XS.aloadN X48.here hx rfl (hb hby d1_16) rfl rfl ?_
    refine XS.iloadN X48.here hx rfl (hb hby d1_17) rfl ?_
    refine XS.iloadN X48.here hx rfl (hb hby d1_18) rfl ?_
    refine XS.iloadN X48.here hx rfl (hb hby d1_19) rfl ?_
    exact k
  obtain ⟨_, _, ⟨T49, L49, k49, n49⟩, -, X49, ⟨Lc49, hQ49, l49, y49, z49⟩, st49⟩ := Jvm.LawKit.callS X48 hx (y := (⟨"com/example/bitmend/bitmend/CodeParameters", "columns", "(II)J"⟩ : MethodName)) hown (mvT hZ (hw _ (List.mem_of_getElem? (i := 12) rfl))) (mvT hZ (hw _ (List.mem_of_getElem? (i := 13) rfl))) (mvT hZ (hw _ (List.mem_of_getElem? (i := 14) rfl))) (mvT hZ (hw _ (List.mem_of_getElem? (i := 15) rfl))) (by decide) (backOf (W := 2) (rm3 l Z a0 hw [] (2 : Int32) (22 : Int32) h48 n0 (by decide)) hZ (hw _ (List.mem_of_getElem? (i := 15) rfl)) (hw _ (List.mem_of_getElem? (i := 14) rfl)) (by decide) (by decide)) (g := (mkF m 20 #[.val (.ref o0), .val (.int (2 : Int32)), .val (.ref b3), .val (.int (22 : Int32))] [(.int (22 : Int32)), (.int (2 : Int32)), (.int (22 : Int32)), (.ref b3)])) rfl (by rw [hml]; rfl) (argsL := [(.int (2 : Int32)), (.int (22 : Int32))]) (rest := [(.int (22 : Int32)), (.ref b3)]) (lenOf pd_2 rfl) rfl (by show 2 * 0 + _ ≤ _; exact Nat.le_of_eq rfl) (hb hby d1_20) (fun _ _ => ⟨rfl, e48, (by decide : 1 + 0 ≤ _), (by decide : 33 + 0 ≤ _)⟩)
  dsimp only [Pt.U, Pt.locs, Pt.cells, Pt.slots] at X49 l49 y49 z49 st49 hQ49
  subst l49 y49 z49
  obtain ⟨rfl, N49q, e49⟩ := hQ49
  have N49 := Fr.app N48 N49q
  obtain ⟨Lh49, X49, N49⟩ := hide X49 N49 (C := 1) (S := 33) (by decide) (by decide)
  refine Outs.of st49 ?_
  refine Outs.of (U' := T49.setTop (mkF m 25 #[.val (.ref o0), .val (.int (2 : Int32)), .val (.ref b3), .val (.int (22 : Int32))] [(.long ((F_f3 (2 : Int32) (22 : Int32)) + (1 : Int64))), (.int (22 : Int32)), (.ref b3)])) (fun t k => ?_) ?_
  · refine XS.lconst X49.here hx rfl (hb hby d1_23) ?_
    refine XS.ladd X49.here hx rfl (hb hby d1_24) rfl ?_
    exact k
  obtain ⟨T50, h50, X50, e50, W50, V50, st50⟩ := puJ X49 hx hZ e49 V48 (j := (22 : Int32)) (x := ((F_f3 (2 : Int32) (22 : Int32)) + (1 : Int64))) (k := 22) rfl (by decide) (f := (mkF m 25 #[.val (.ref o0), .val (.int (2 : Int32)), .val (.ref b3), .val (.int (22 : Int32))] [(.long ((F_f3 (2 : Int32) (22 : Int32)) + (1 : Int64))), (.int (22 : Int32)), (.ref b3)])) rfl rfl (hb hby d1_25)
  replace V50 : AJ Z h50 b3 .long 33 ct2_g25v := V50
  have N50 := Fr.snoc X50 N49 g_b3
  obtain ⟨Lh50, X50, N50⟩ := hide X50 N50 (C := 1) (S := 33) (by decide) (by decide)
  refine Outs.of st50 ?_
  refine Outs.of (U' := T50.setTop (mkF m 33 #[.val (.ref o0), .val (.int (2 : Int32)), .val (.ref b3), .val (.int (23 : Int32))] [(.int (22 : Int32)), (.ref b3)])) (fun t k => ?_) ?_
  · refine XS.iinc X50.here hx rfl (hb hby d1_26) rfl (l' := #[.val (.ref o0), .val (.int (2 : Int32)), .val (.ref b3), .val (.int (23 : Int32))]) rfl ?_
    refine XS.aloadN X50.here hx rfl (hb hby d1_29) rfl rfl ?_
    refine XS.iloadN X50.here hx rfl (hb hby d1_30) rfl ?_
    refine XS.iconst X50.here hx rfl (hb hby d1_31) ?_
    refine XS.isub X50.here hx rfl (hb hby d1_32) rfl ?_
    exact k
  refine Outs.of (ldJ X50 hx hZ e50 V50 (j := (22 : Int32)) (k := 22) rfl (by decide) (f := (mkF m 33 #[.val (.ref o0), .val (.int (2 : Int32)), .val (.ref b3), .val (.int (23 : Int32))] [(.int (22 : Int32)), (.ref b3)])) rfl rfl (hb hby d1_33)) ?_
  refine Outs.of (U' := T50.setTop (mkF m 20 #[.val (.ref o0), .val (.int (2 : Int32)), .val (.ref b3), .val (.int (23 : Int32))] [(.int (23 : Int32)), (.int (2 : Int32)), (.int (23 : Int32)), (.ref b3)])) (fun t k => ?_) ?_
  · refine X50.ldc2Long hx hown (mvT hZ (hw _ (List.mem_of_getElem? (i := 16) rfl))) (g := (mkF m 34 #[.val (.ref o0), .val (.int (2 : Int32)), .val (.ref b3), .val (.int (23 : Int32))] [(.long (ct2_g25v 22))])) rfl (hb hby d1_34) _ ?_
    refine XS.lcmp X50.here hx rfl (hb hby d1_37) rfl ?_
    refine XS.ifYes X50.here hx rfl (pc0 := 38) (pc' := 16) rfl (hb hby d1_38) rfl ((if0 _ _).trans (flt (fun q_ => (show ¬ ((2147483647 : Int64) < (ct2_g25v 22)) from (by decide +kernel)) ((lw_gt _ _).mp q_))).2.2.2) (by decide) (by decide) ?_
    refine XS.aloadN X50.here hx rfl (hb hby d1_16) rfl rfl ?_
    refine XS.iloadN X50.here hx rfl (hb hby d1_17) rfl ?_
    refine XS.iloadN X50.here hx rfl (hb hby d1_18) rfl ?_
    refine XS.iloadN X50.here hx rfl (hb hby d1_19) rfl ?_
    exact k
  obtain ⟨_, _, ⟨T51, L51, k51, n51⟩, -, X51, ⟨Lc51, hQ51, l51, y51, z51⟩, st51⟩ := Jvm.LawKit.callS X50 hx (y := (⟨"com/example/bitmend/bitmend/CodeParameters", "columns", "(II)J"⟩ : MethodName)) hown (mvT hZ (hw _ (List.mem_of_getElem? (i := 12) rfl))) (mvT hZ (hw _ (List.mem_of_getElem? (i := 13) rfl))) (mvT hZ (hw _ (List.mem_of_getElem? (i := 14) rfl))) (mvT hZ (hw _ (List.mem_of_getElem? (i := 15) rfl))) (by decide) (backOf (W := 2) (rm3 l Z a0 hw [] (2 : Int32) (23 : Int32) h50 n0 (by decide)) hZ (hw _ (List.mem_of_getElem? (i := 15) rfl)) (hw _ (List.mem_of_getElem? (i := 14) rfl)) (by decide) (by decide)) (g := (mkF m 20 #[.val (.ref o0), .val (.int (2 : Int32)), .val (.ref b3), .val (.int (23 : Int32))] [(.int (23 : Int32)), (.int (2 : Int32)), (.int (23 : Int32)), (.ref b3)])) rfl (by rw [hml]; rfl) (argsL := [(.int (2 : Int32)), (.int (23 : Int32))]) (rest := [(.int (23 : Int32)), (.ref b3)]) (lenOf pd_2 rfl) rfl (by show 2 * 0 + _ ≤ _; exact Nat.le_of_eq rfl) (hb hby d1_20) (fun _ _ => ⟨rfl, e50, (by decide : 1 + 0 ≤ _), (by decide : 33 + 0 ≤ _)⟩)
  dsimp only [Pt.U, Pt.locs, Pt.cells, Pt.slots] at X51 l51 y51 z51 st51 hQ51
  subst l51 y51 z51
  obtain ⟨rfl, N51q, e51⟩ := hQ51
  have N51 := Fr.app N50 N51q
  obtain ⟨Lh51, X51, N51⟩ := hide X51 N51 (C := 1) (S := 33) (by decide) (by decide)
  refine Outs.of st51 ?_
  refine Outs.of (U' := T51.setTop (mkF m 25 #[.val (.ref o0), .val (.int (2 : Int32)), .val (.ref b3), .val (.int (23 : Int32))] [(.long ((F_f3 (2 : Int32) (23 : Int32)) + (1 : Int64))), (.int (23 : Int32)), (.ref b3)])) (fun t k => ?_) ?_
  · refine XS.lconst X51.here hx rfl (hb hby d1_23) ?_
    refine XS.ladd X51.here hx rfl (hb hby d1_24) rfl ?_
    exact k
  obtain ⟨T52, h52, X52, e52, W52, V52, st52⟩ := puJ X51 hx hZ e51 V50 (j := (23 : Int32)) (x := ((F_f3 (2 : Int32) (23 : Int32)) + (1 : Int64))) (k := 23) rfl (by decide) (f := (mkF m 25 #[.val (.ref o0), .val (.int (2 : Int32)), .val (.ref b3), .val (.int (23 : Int32))] [(.long ((F_f3 (2 : Int32) (23 : Int32)) + (1 : Int64))), (.int (23 : Int32)), (.ref b3)])) rfl rfl (hb hby d1_25)
  replace V52 : AJ Z h52 b3 .long 33 ct2_g25w := V52
  have N52 := Fr.snoc X52 N51 g_b3
  obtain ⟨Lh52, X52, N52⟩ := hide X52 N52 (C := 1) (S := 33) (by decide) (by decide)
  refine Outs.of st52 ?_
  refine Outs.of (U' := T52.setTop (mkF m 33 #[.val (.ref o0), .val (.int (2 : Int32)), .val (.ref b3), .val (.int (24 : Int32))] [(.int (23 : Int32)), (.ref b3)])) (fun t k => ?_) ?_
  · refine XS.iinc X52.here hx rfl (hb hby d1_26) rfl (l' := #[.val (.ref o0), .val (.int (2 : Int32)), .val (.ref b3), .val (.int (24 : Int32))]) rfl ?_
    refine XS.aloadN X52.here hx rfl (hb hby d1_29) rfl rfl ?_
    refine XS.iloadN X52.here hx rfl (hb hby d1_30) rfl ?_
    refine XS.iconst X52.here hx rfl (hb hby d1_31) ?_
    refine XS.isub X52.here hx rfl (hb hby d1_32) rfl ?_
    exact k
  refine Outs.of (ldJ X52 hx hZ e52 V52 (j := (23 : Int32)) (k := 23) rfl (by decide) (f := (mkF m 33 #[.val (.ref o0), .val (.int (2 : Int32)), .val (.ref b3), .val (.int (24 : Int32))] [(.int (23 : Int32)), (.ref b3)])) rfl rfl (hb hby d1_33)) ?_
  refine Outs.of (U' := T52.setTop (mkF m 20 #[.val (.ref o0), .val (.int (2 : Int32)), .val (.ref b3), .val (.int (24 : Int32))] [(.int (24 : Int32)), (.int (2 : Int32)), (.int (24 : Int32)), (.ref b3)])) (fun t k => ?_) ?_
  · refine X52.ldc2Long hx hown (mvT hZ (hw _ (List.mem_of_getElem? (i := 16) rfl))) (g := (mkF m 34 #[.val (.ref o0), .val (.int (2 : Int32)), .val (.ref b3), .val (.int (24 : Int32))] [(.long (ct2_g25w 23))])) rfl (hb hby d1_34) _ ?_
    refine XS.lcmp X52.here hx rfl (hb hby d1_37) rfl ?_
    refine XS.ifYes X52.here hx rfl (pc0 := 38) (pc' := 16) rfl (hb hby d1_38) rfl ((if0 _ _).trans (flt (fun q_ => (show ¬ ((2147483647 : Int64) < (ct2_g25w 23)) from (by decide +kernel)) ((lw_gt _ _).mp q_))).2.2.2) (by decide) (by decide) ?_
    refine XS.aloadN X52.here hx rfl (hb hby d1_16) rfl rfl ?_
    refine XS.iloadN X52.here hx rfl (hb hby d1_17) rfl ?_
    refine XS.iloadN X52.here hx rfl (hb hby d1_18) rfl ?_
    refine XS.iloadN X52.here hx rfl (hb hby d1_19) rfl ?_
    exact k
  obtain ⟨_, _, ⟨T53, L53, k53, n53⟩, -, X53, ⟨Lc53, hQ53, l53, y53, z53⟩, st53⟩ := Jvm.LawKit.callS X52 hx (y := (⟨"com/example/bitmend/bitmend/CodeParameters", "columns", "(II)J"⟩ : MethodName)) hown (mvT hZ (hw _ (List.mem_of_getElem? (i := 12) rfl))) (mvT hZ (hw _ (List.mem_of_getElem? (i := 13) rfl))) (mvT hZ (hw _ (List.mem_of_getElem? (i := 14) rfl))) (mvT hZ (hw _ (List.mem_of_getElem? (i := 15) rfl))) (by decide) (backOf (W := 2) (rm3 l Z a0 hw [] (2 : Int32) (24 : Int32) h52 n0 (by decide)) hZ (hw _ (List.mem_of_getElem? (i := 15) rfl)) (hw _ (List.mem_of_getElem? (i := 14) rfl)) (by decide) (by decide)) (g := (mkF m 20 #[.val (.ref o0), .val (.int (2 : Int32)), .val (.ref b3), .val (.int (24 : Int32))] [(.int (24 : Int32)), (.int (2 : Int32)), (.int (24 : Int32)), (.ref b3)])) rfl (by rw [hml]; rfl) (argsL := [(.int (2 : Int32)), (.int (24 : Int32))]) (rest := [(.int (24 : Int32)), (.ref b3)]) (lenOf pd_2 rfl) rfl (by show 2 * 0 + _ ≤ _; exact Nat.le_of_eq rfl) (hb hby d1_20) (fun _ _ => ⟨rfl, e52, (by decide : 1 + 0 ≤ _), (by decide : 33 + 0 ≤ _)⟩)
  dsimp only [Pt.U, Pt.locs, Pt.cells, Pt.slots] at X53 l53 y53 z53 st53 hQ53
  subst l53 y53 z53
  obtain ⟨rfl, N53q, e53⟩ := hQ53
  have N53 := Fr.app N52 N53q
  obtain ⟨Lh53, X53, N53⟩ := hide X53 N53 (C := 1) (S := 33) (by decide) (by decide)
  refine Outs.of st53 ?_
  refine Outs.of (U' := T53.setTop (mkF m 25 #[.val (.ref o0), .val (.int (2 : Int32)), .val (.ref b3), .val (.int (24 : Int32))] [(.long ((F_f3 (2 : Int32) (24 : Int32)) + (1 : Int64))), (.int (24 : Int32)), (.ref b3)])) (fun t k => ?_) ?_
  · refine XS.lconst X53.here hx rfl (hb hby d1_23) ?_
    refine XS.ladd X53.here hx rfl (hb hby d1_24) rfl ?_
    exact k
  obtain ⟨T54, h54, X54, e54, W54, V54, st54⟩ := puJ X53 hx hZ e53 V52 (j := (24 : Int32)) (x := ((F_f3 (2 : Int32) (24 : Int32)) + (1 : Int64))) (k := 24) rfl (by decide) (f := (mkF m 25 #[.val (.ref o0), .val (.int (2 : Int32)), .val (.ref b3), .val (.int (24 : Int32))] [(.long ((F_f3 (2 : Int32) (24 : Int32)) + (1 : Int64))), (.int (24 : Int32)), (.ref b3)])) rfl rfl (hb hby d1_25)
  replace V54 : AJ Z h54 b3 .long 33 ct2_g25x := V54
  have N54 := Fr.snoc X54 N53 g_b3
  obtain ⟨Lh54, X54, N54⟩ := hide X54 N54 (C := 1) (S := 33) (by decide) (by decide)
  refine Outs.of st54 ?_
  refine Outs.of (U' := T54.setTop (mkF m 33 #[.val (.ref o0), .val (.int (2 : Int32)), .val (.ref b3), .val (.int (25 : Int32))] [(.int (24 : Int32)), (.ref b3)])) (fun t k => ?_) ?_
  · refine XS.iinc X54.here hx rfl (hb hby d1_26) rfl (l' := #[.val (.ref o0), .val (.int (2 : Int32)), .val (.ref b3), .val (.int (25 : Int32))]) rfl ?_
    refine XS.aloadN X54.here hx rfl (hb hby d1_29) rfl rfl ?_
    refine XS.iloadN X54.here hx rfl (hb hby d1_30) rfl ?_
    refine XS.iconst X54.here hx rfl (hb hby d1_31) ?_
    refine XS.isub X54.here hx rfl (hb hby d1_32) rfl ?_
    exact k
  refine Outs.of (ldJ X54 hx hZ e54 V54 (j := (24 : Int32)) (k := 24) rfl (by decide) (f := (mkF m 33 #[.val (.ref o0), .val (.int (2 : Int32)), .val (.ref b3), .val (.int (25 : Int32))] [(.int (24 : Int32)), (.ref b3)])) rfl rfl (hb hby d1_33)) ?_
  refine Outs.of (U' := T54.setTop (mkF m 20 #[.val (.ref o0), .val (.int (2 : Int32)), .val (.ref b3), .val (.int (25 : Int32))] [(.int (25 : Int32)), (.int (2 : Int32)), (.int (25 : Int32)), (.ref b3)])) (fun t k => ?_) ?_
  · refine X54.ldc2Long hx hown (mvT hZ (hw _ (List.mem_of_getElem? (i := 16) rfl))) (g := (mkF m 34 #[.val (.ref o0), .val (.int (2 : Int32)), .val (.ref b3), .val (.int (25 : Int32))] [(.long (ct2_g25x 24))])) rfl (hb hby d1_34) _ ?_
    refine XS.lcmp X54.here hx rfl (hb hby d1_37) rfl ?_
    refine XS.ifYes X54.here hx rfl (pc0 := 38) (pc' := 16) rfl (hb hby d1_38) rfl ((if0 _ _).trans (flt (fun q_ => (show ¬ ((2147483647 : Int64) < (ct2_g25x 24)) from (by decide +kernel)) ((lw_gt _ _).mp q_))).2.2.2) (by decide) (by decide) ?_
    refine XS.aloadN X54.here hx rfl (hb hby d1_16) rfl rfl ?_
    refine XS.iloadN X54.here hx rfl (hb hby d1_17) rfl ?_
    refine XS.iloadN X54.here hx rfl (hb hby d1_18) rfl ?_
    refine XS.iloadN X54.here hx rfl (hb hby d1_19) rfl ?_
    exact k
  obtain ⟨_, _, ⟨T55, L55, k55, n55⟩, -, X55, ⟨Lc55, hQ55, l55, y55, z55⟩, st55⟩ := Jvm.LawKit.callS X54 hx (y := (⟨"com/example/bitmend/bitmend/CodeParameters", "columns", "(II)J"⟩ : MethodName)) hown (mvT hZ (hw _ (List.mem_of_getElem? (i := 12) rfl))) (mvT hZ (hw _ (List.mem_of_getElem? (i := 13) rfl))) (mvT hZ (hw _ (List.mem_of_getElem? (i := 14) rfl))) (mvT hZ (hw _ (List.mem_of_getElem? (i := 15) rfl))) (by decide) (backOf (W := 2) (rm3 l Z a0 hw [] (2 : Int32) (25 : Int32) h54 n0 (by decide)) hZ (hw _ (List.mem_of_getElem? (i := 15) rfl)) (hw _ (List.mem_of_getElem? (i := 14) rfl)) (by decide) (by decide)) (g := (mkF m 20 #[.val (.ref o0), .val (.int (2 : Int32)), .val (.ref b3), .val (.int (25 : Int32))] [(.int (25 : Int32)), (.int (2 : Int32)), (.int (25 : Int32)), (.ref b3)])) rfl (by rw [hml]; rfl) (argsL := [(.int (2 : Int32)), (.int (25 : Int32))]) (rest := [(.int (25 : Int32)), (.ref b3)]) (lenOf pd_2 rfl) rfl (by show 2 * 0 + _ ≤ _; exact Nat.le_of_eq rfl) (hb hby d1_20) (fun _ _ => ⟨rfl, e54, (by decide : 1 + 0 ≤ _), (by decide : 33 + 0 ≤ _)⟩)
  dsimp only [Pt.U, Pt.locs, Pt.cells, Pt.slots] at X55 l55 y55 z55 st55 hQ55
  subst l55 y55 z55
  obtain ⟨rfl, N55q, e55⟩ := hQ55
  have N55 := Fr.app N54 N55q
  obtain ⟨Lh55, X55, N55⟩ := hide X55 N55 (C := 1) (S := 33) (by decide) (by decide)
  refine Outs.of st55 ?_
  refine Outs.of (U' := T55.setTop (mkF m 25 #[.val (.ref o0), .val (.int (2 : Int32)), .val (.ref b3), .val (.int (25 : Int32))] [(.long ((F_f3 (2 : Int32) (25 : Int32)) + (1 : Int64))), (.int (25 : Int32)), (.ref b3)])) (fun t k => ?_) ?_
  · refine XS.lconst X55.here hx rfl (hb hby d1_23) ?_
    refine XS.ladd X55.here hx rfl (hb hby d1_24) rfl ?_
    exact k
  obtain ⟨T56, h56, X56, e56, W56, V56, st56⟩ := puJ X55 hx hZ e55 V54 (j := (25 : Int32)) (x := ((F_f3 (2 : Int32) (25 : Int32)) + (1 : Int64))) (k := 25) rfl (by decide) (f := (mkF m 25 #[.val (.ref o0), .val (.int (2 : Int32)), .val (.ref b3), .val (.int (25 : Int32))] [(.long ((F_f3 (2 : Int32) (25 : Int32)) + (1 : Int64))), (.int (25 : Int32)), (.ref b3)])) rfl rfl (hb hby d1_25)
  replace V56 : AJ Z h56 b3 .long 33 ct2_g25y := V56
  have N56 := Fr.snoc X56 N55 g_b3
  obtain ⟨Lh56, X56, N56⟩ := hide X56 N56 (C := 1) (S := 33) (by decide) (by decide)
  refine Outs.of st56 ?_
  refine Outs.of (U' := T56.setTop (mkF m 33 #[.val (.ref o0), .val (.int (2 : Int32)), .val (.ref b3), .val (.int (26 : Int32))] [(.int (25 : Int32)), (.ref b3)])) (fun t k => ?_) ?_
  · refine XS.iinc X56.here hx rfl (hb hby d1_26) rfl (l' := #[.val (.ref o0), .val (.int (2 : Int32)), .val (.ref b3), .val (.int (26 : Int32))]) rfl ?_
    refine XS.aloadN X56.here hx rfl (hb hby d1_29) rfl rfl ?_
    refine XS.iloadN X56.here hx rfl (hb hby d1_30) rfl ?_
    refine XS.iconst X56.here hx rfl (hb hby d1_31) ?_
    refine XS.isub X56.here hx rfl (hb hby d1_32) rfl ?_
    exact k
  refine Outs.of (ldJ X56 hx hZ e56 V56 (j := (25 : Int32)) (k := 25) rfl (by decide) (f := (mkF m 33 #[.val (.ref o0), .val (.int (2 : Int32)), .val (.ref b3), .val (.int (26 : Int32))] [(.int (25 : Int32)), (.ref b3)])) rfl rfl (hb hby d1_33)) ?_
  refine Outs.of (U' := T56.setTop (mkF m 20 #[.val (.ref o0), .val (.int (2 : Int32)), .val (.ref b3), .val (.int (26 : Int32))] [(.int (26 : Int32)), (.int (2 : Int32)), (.int (26 : Int32)), (.ref b3)])) (fun t k => ?_) ?_
  · refine X56.ldc2Long hx hown (mvT hZ (hw _ (List.mem_of_getElem? (i := 16) rfl))) (g := (mkF m 34 #[.val (.ref o0), .val (.int (2 : Int32)), .val (.ref b3), .val (.int (26 : Int32))] [(.long (ct2_g25y 25))])) rfl (hb hby d1_34) _ ?_
    refine XS.lcmp X56.here hx rfl (hb hby d1_37) rfl ?_
    refine XS.ifYes X56.here hx rfl (pc0 := 38) (pc' := 16) rfl (hb hby d1_38) rfl ((if0 _ _).trans (flt (fun q_ => (show ¬ ((2147483647 : Int64) < (ct2_g25y 25)) from (by decide +kernel)) ((lw_gt _ _).mp q_))).2.2.2) (by decide) (by decide) ?_
    refine XS.aloadN X56.here hx rfl (hb hby d1_16) rfl rfl ?_
    refine XS.iloadN X56.here hx rfl (hb hby d1_17) rfl ?_
    refine XS.iloadN X56.here hx rfl (hb hby d1_18) rfl ?_
    refine XS.iloadN X56.here hx rfl (hb hby d1_19) rfl ?_
    exact k
  obtain ⟨_, _, ⟨T57, L57, k57, n57⟩, -, X57, ⟨Lc57, hQ57, l57, y57, z57⟩, st57⟩ := Jvm.LawKit.callS X56 hx (y := (⟨"com/example/bitmend/bitmend/CodeParameters", "columns", "(II)J"⟩ : MethodName)) hown (mvT hZ (hw _ (List.mem_of_getElem? (i := 12) rfl))) (mvT hZ (hw _ (List.mem_of_getElem? (i := 13) rfl))) (mvT hZ (hw _ (List.mem_of_getElem? (i := 14) rfl))) (mvT hZ (hw _ (List.mem_of_getElem? (i := 15) rfl))) (by decide) (backOf (W := 2) (rm3 l Z a0 hw [] (2 : Int32) (26 : Int32) h56 n0 (by decide)) hZ (hw _ (List.mem_of_getElem? (i := 15) rfl)) (hw _ (List.mem_of_getElem? (i := 14) rfl)) (by decide) (by decide)) (g := (mkF m 20 #[.val (.ref o0), .val (.int (2 : Int32)), .val (.ref b3), .val (.int (26 : Int32))] [(.int (26 : Int32)), (.int (2 : Int32)), (.int (26 : Int32)), (.ref b3)])) rfl (by rw [hml]; rfl) (argsL := [(.int (2 : Int32)), (.int (26 : Int32))]) (rest := [(.int (26 : Int32)), (.ref b3)]) (lenOf pd_2 rfl) rfl (by show 2 * 0 + _ ≤ _; exact Nat.le_of_eq rfl) (hb hby d1_20) (fun _ _ => ⟨rfl, e56, (by decide : 1 + 0 ≤ _), (by decide : 33 + 0 ≤ _)⟩)
  dsimp only [Pt.U, Pt.locs, Pt.cells, Pt.slots] at X57 l57 y57 z57 st57 hQ57
  subst l57 y57 z57
  obtain ⟨rfl, N57q, e57⟩ := hQ57
  have N57 := Fr.app N56 N57q
  obtain ⟨Lh57, X57, N57⟩ := hide X57 N57 (C := 1) (S := 33) (by decide) (by decide)
  refine Outs.of st57 ?_
  refine Outs.of (U' := T57.setTop (mkF m 25 #[.val (.ref o0), .val (.int (2 : Int32)), .val (.ref b3), .val (.int (26 : Int32))] [(.long ((F_f3 (2 : Int32) (26 : Int32)) + (1 : Int64))), (.int (26 : Int32)), (.ref b3)])) (fun t k => ?_) ?_
  · refine XS.lconst X57.here hx rfl (hb hby d1_23) ?_
    refine XS.ladd X57.here hx rfl (hb hby d1_24) rfl ?_
    exact k
  obtain ⟨T58, h58, X58, e58, W58, V58, st58⟩ := puJ X57 hx hZ e57 V56 (j := (26 : Int32)) (x := ((F_f3 (2 : Int32) (26 : Int32)) + (1 : Int64))) (k := 26) rfl (by decide) (f := (mkF m 25 #[.val (.ref o0), .val (.int (2 : Int32)), .val (.ref b3), .val (.int (26 : Int32))] [(.long ((F_f3 (2 : Int32) (26 : Int32)) + (1 : Int64))), (.int (26 : Int32)), (.ref b3)])) rfl rfl (hb hby d1_25)
  replace V58 : AJ Z h58 b3 .long 33 ct2_g25z := V58
  have N58 := Fr.snoc X58 N57 g_b3
  obtain ⟨Lh58, X58, N58⟩ := hide X58 N58 (C := 1) (S := 33) (by decide) (by decide)
  refine Outs.of st58 ?_
  refine Outs.of (U' := T58.setTop (mkF m 33 #[.val (.ref o0), .val (.int (2 : Int32)), .val (.ref b3), .val (.int (27 : Int32))] [(.int (26 : Int32)), (.ref b3)])) (fun t k => ?_) ?_
  · refine XS.iinc X58.here hx rfl (hb hby d1_26) rfl (l' := #[.val (.ref o0), .val (.int (2 : Int32)), .val (.ref b3), .val (.int (27 : Int32))]) rfl ?_
    refine XS.aloadN X58.here hx rfl (hb hby d1_29) rfl rfl ?_
    refine XS.iloadN X58.here hx rfl (hb hby d1_30) rfl ?_
    refine XS.iconst X58.here hx rfl (hb hby d1_31) ?_
    refine XS.isub X58.here hx rfl (hb hby d1_32) rfl ?_
    exact k
  refine Outs.of (ldJ X58 hx hZ e58 V58 (j := (26 : Int32)) (k := 26) rfl (by decide) (f := (mkF m 33 #[.val (.ref o0), .val (.int (2 : Int32)), .val (.ref b3), .val (.int (27 : Int32))] [(.int (26 : Int32)), (.ref b3)])) rfl rfl (hb hby d1_33)) ?_
  refine Outs.of (U' := T58.setTop (mkF m 20 #[.val (.ref o0), .val (.int (2 : Int32)), .val (.ref b3), .val (.int (27 : Int32))] [(.int (27 : Int32)), (.int (2 : Int32)), (.int (27 : Int32)), (.ref b3)])) (fun t k => ?_) ?_
  · refine X58.ldc2Long hx hown (mvT hZ (hw _ (List.mem_of_getElem? (i := 16) rfl))) (g := (mkF m 34 #[.val (.ref o0), .val (.int (2 : Int32)), .val (.ref b3), .val (.int (27 : Int32))] [(.long (ct2_g25z 26))])) rfl (hb hby d1_34) _ ?_
    refine XS.lcmp X58.here hx rfl (hb hby d1_37) rfl ?_
    refine XS.ifYes X58.here hx rfl (pc0 := 38) (pc' := 16) rfl (hb hby d1_38) rfl ((if0 _ _).trans (flt (fun q_ => (show ¬ ((2147483647 : Int64) < (ct2_g25z 26)) from (by decide +kernel)) ((lw_gt _ _).mp q_))).2.2.2) (by decide) (by decide) ?_
    refine XS.aloadN X58.here hx rfl (hb hby d1_16) rfl rfl ?_
    refine XS.iloadN X58.here hx rfl (hb hby d1_17) rfl ?_
    refine XS.iloadN X58.here hx rfl (hb hby d1_18) rfl ?_
    refine XS.iloadN X58.here hx rfl (hb hby d1_19) rfl ?_
    exact k
  obtain ⟨_, _, ⟨T59, L59, k59, n59⟩, -, X59, ⟨Lc59, hQ59, l59, y59, z59⟩, st59⟩ := Jvm.LawKit.callS X58 hx (y := (⟨"com/example/bitmend/bitmend/CodeParameters", "columns", "(II)J"⟩ : MethodName)) hown (mvT hZ (hw _ (List.mem_of_getElem? (i := 12) rfl))) (mvT hZ (hw _ (List.mem_of_getElem? (i := 13) rfl))) (mvT hZ (hw _ (List.mem_of_getElem? (i := 14) rfl))) (mvT hZ (hw _ (List.mem_of_getElem? (i := 15) rfl))) (by decide) (backOf (W := 2) (rm3 l Z a0 hw [] (2 : Int32) (27 : Int32) h58 n0 (by decide)) hZ (hw _ (List.mem_of_getElem? (i := 15) rfl)) (hw _ (List.mem_of_getElem? (i := 14) rfl)) (by decide) (by decide)) (g := (mkF m 20 #[.val (.ref o0), .val (.int (2 : Int32)), .val (.ref b3), .val (.int (27 : Int32))] [(.int (27 : Int32)), (.int (2 : Int32)), (.int (27 : Int32)), (.ref b3)])) rfl (by rw [hml]; rfl) (argsL := [(.int (2 : Int32)), (.int (27 : Int32))]) (rest := [(.int (27 : Int32)), (.ref b3)]) (lenOf pd_2 rfl) rfl (by show 2 * 0 + _ ≤ _; exact Nat.le_of_eq rfl) (hb hby d1_20) (fun _ _ => ⟨rfl, e58, (by decide : 1 + 0 ≤ _), (by decide : 33 + 0 ≤ _)⟩)
  dsimp only [Pt.U, Pt.locs, Pt.cells, Pt.slots] at X59 l59 y59 z59 st59 hQ59
  subst l59 y59 z59
  obtain ⟨rfl, N59q, e59⟩ := hQ59
  have N59 := Fr.app N58 N59q
  obtain ⟨Lh59, X59, N59⟩ := hide X59 N59 (C := 1) (S := 33) (by decide) (by decide)
  refine Outs.of st59 ?_
  refine Outs.of (U' := T59.setTop (mkF m 25 #[.val (.ref o0), .val (.int (2 : Int32)), .val (.ref b3), .val (.int (27 : Int32))] [(.long ((F_f3 (2 : Int32) (27 : Int32)) + (1 : Int64))), (.int (27 : Int32)), (.ref b3)])) (fun t k => ?_) ?_
  · refine XS.lconst X59.here hx rfl (hb hby d1_23) ?_
    refine XS.ladd X59.here hx rfl (hb hby d1_24) rfl ?_
    exact k
  obtain ⟨T60, h60, X60, e60, W60, V60, st60⟩ := puJ X59 hx hZ e59 V58 (j := (27 : Int32)) (x := ((F_f3 (2 : Int32) (27 : Int32)) + (1 : Int64))) (k := 27) rfl (by decide) (f := (mkF m 25 #[.val (.ref o0), .val (.int (2 : Int32)), .val (.ref b3), .val (.int (27 : Int32))] [(.long ((F_f3 (2 : Int32) (27 : Int32)) + (1 : Int64))), (.int (27 : Int32)), (.ref b3)])) rfl rfl (hb hby d1_25)
  replace V60 : AJ Z h60 b3 .long 33 ct2_g25aa := V60
  have N60 := Fr.snoc X60 N59 g_b3
  obtain ⟨Lh60, X60, N60⟩ := hide X60 N60 (C := 1) (S := 33) (by decide) (by decide)
  refine Outs.of st60 ?_
  refine Outs.of (U' := T60.setTop (mkF m 33 #[.val (.ref o0), .val (.int (2 : Int32)), .val (.ref b3), .val (.int (28 : Int32))] [(.int (27 : Int32)), (.ref b3)])) (fun t k => ?_) ?_
  · refine XS.iinc X60.here hx rfl (hb hby d1_26) rfl (l' := #[.val (.ref o0), .val (.int (2 : Int32)), .val (.ref b3), .val (.int (28 : Int32))]) rfl ?_
    refine XS.aloadN X60.here hx rfl (hb hby d1_29) rfl rfl ?_
    refine XS.iloadN X60.here hx rfl (hb hby d1_30) rfl ?_
    refine XS.iconst X60.here hx rfl (hb hby d1_31) ?_
    refine XS.isub X60.here hx rfl (hb hby d1_32) rfl ?_
    exact k
  refine Outs.of (ldJ X60 hx hZ e60 V60 (j := (27 : Int32)) (k := 27) rfl (by decide) (f := (mkF m 33 #[.val (.ref o0), .val (.int (2 : Int32)), .val (.ref b3), .val (.int (28 : Int32))] [(.int (27 : Int32)), (.ref b3)])) rfl rfl (hb hby d1_33)) ?_
  refine Outs.of (U' := T60.setTop (mkF m 20 #[.val (.ref o0), .val (.int (2 : Int32)), .val (.ref b3), .val (.int (28 : Int32))] [(.int (28 : Int32)), (.int (2 : Int32)), (.int (28 : Int32)), (.ref b3)])) (fun t k => ?_) ?_
  · refine X60.ldc2Long hx hown (mvT hZ (hw _ (List.mem_of_getElem? (i := 16) rfl))) (g := (mkF m 34 #[.val (.ref o0), .val (.int (2 : Int32)), .val (.ref b3), .val (.int (28 : Int32))] [(.long (ct2_g25aa 27))])) rfl (hb hby d1_34) _ ?_
    refine XS.lcmp X60.here hx rfl (hb hby d1_37) rfl ?_
    refine XS.ifYes X60.here hx rfl (pc0 := 38) (pc' := 16) rfl (hb hby d1_38) rfl ((if0 _ _).trans (flt (fun q_ => (show ¬ ((2147483647 : Int64) < (ct2_g25aa 27)) from (by decide +kernel)) ((lw_gt _ _).mp q_))).2.2.2) (by decide) (by decide) ?_
    refine XS.aloadN X60.here hx rfl (hb hby d1_16) rfl rfl ?_
    refine XS.iloadN X60.here hx rfl (hb hby d1_17) rfl ?_
    refine XS.iloadN X60.here hx rfl (hb hby d1_18) rfl ?_
    refine XS.iloadN X60.here hx rfl (hb hby d1_19) rfl ?_
    exact k
  obtain ⟨_, _, ⟨T61, L61, k61, n61⟩, -, X61, ⟨Lc61, hQ61, l61, y61, z61⟩, st61⟩ := Jvm.LawKit.callS X60 hx (y := (⟨"com/example/bitmend/bitmend/CodeParameters", "columns", "(II)J"⟩ : MethodName)) hown (mvT hZ (hw _ (List.mem_of_getElem? (i := 12) rfl))) (mvT hZ (hw _ (List.mem_of_getElem? (i := 13) rfl))) (mvT hZ (hw _ (List.mem_of_getElem? (i := 14) rfl))) (mvT hZ (hw _ (List.mem_of_getElem? (i := 15) rfl))) (by decide) (backOf (W := 2) (rm3 l Z a0 hw [] (2 : Int32) (28 : Int32) h60 n0 (by decide)) hZ (hw _ (List.mem_of_getElem? (i := 15) rfl)) (hw _ (List.mem_of_getElem? (i := 14) rfl)) (by decide) (by decide)) (g := (mkF m 20 #[.val (.ref o0), .val (.int (2 : Int32)), .val (.ref b3), .val (.int (28 : Int32))] [(.int (28 : Int32)), (.int (2 : Int32)), (.int (28 : Int32)), (.ref b3)])) rfl (by rw [hml]; rfl) (argsL := [(.int (2 : Int32)), (.int (28 : Int32))]) (rest := [(.int (28 : Int32)), (.ref b3)]) (lenOf pd_2 rfl) rfl (by show 2 * 0 + _ ≤ _; exact Nat.le_of_eq rfl) (hb hby d1_20) (fun _ _ => ⟨rfl, e60, (by decide : 1 + 0 ≤ _), (by decide : 33 + 0 ≤ _)⟩)
  dsimp only [Pt.U, Pt.locs, Pt.cells, Pt.slots] at X61 l61 y61 z61 st61 hQ61
  subst l61 y61 z61
  obtain ⟨rfl, N61q, e61⟩ := hQ61
  have N61 := Fr.app N60 N61q
  obtain ⟨Lh61, X61, N61⟩ := hide X61 N61 (C := 1) (S := 33) (by decide) (by decide)
  refine Outs.of st61 ?_
  refine Outs.of (U' := T61.setTop (mkF m 25 #[.val (.ref o0), .val (.int (2 : Int32)), .val (.ref b3), .val (.int (28 : Int32))] [(.long ((F_f3 (2 : Int32) (28 : Int32)) + (1 : Int64))), (.int (28 : Int32)), (.ref b3)])) (fun t k => ?_) ?_
  · refine XS.lconst X61.here hx rfl (hb hby d1_23) ?_
    refine XS.ladd X61.here hx rfl (hb hby d1_24) rfl ?_
    exact k
  obtain ⟨T62, h62, X62, e62, W62, V62, st62⟩ := puJ X61 hx hZ e61 V60 (j := (28 : Int32)) (x := ((F_f3 (2 : Int32) (28 : Int32)) + (1 : Int64))) (k := 28) rfl (by decide) (f := (mkF m 25 #[.val (.ref o0), .val (.int (2 : Int32)), .val (.ref b3), .val (.int (28 : Int32))] [(.long ((F_f3 (2 : Int32) (28 : Int32)) + (1 : Int64))), (.int (28 : Int32)), (.ref b3)])) rfl rfl (hb hby d1_25)
  replace V62 : AJ Z h62 b3 .long 33 ct2_g25ab := V62
  have N62 := Fr.snoc X62 N61 g_b3
  obtain ⟨Lh62, X62, N62⟩ := hide X62 N62 (C := 1) (S := 33) (by decide) (by decide)
  refine Outs.of st62 ?_
  refine Outs.of (U' := T62.setTop (mkF m 33 #[.val (.ref o0), .val (.int (2 : Int32)), .val (.ref b3), .val (.int (29 : Int32))] [(.int (28 : Int32)), (.ref b3)])) (fun t k => ?_) ?_
  · refine XS.iinc X62.here hx rfl (hb hby d1_26) rfl (l' := #[.val (.ref o0), .val (.int (2 : Int32)), .val (.ref b3), .val (.int (29 : Int32))]) rfl ?_
    refine XS.aloadN X62.here hx rfl (hb hby d1_29) rfl rfl ?_
    refine XS.iloadN X62.here hx rfl (hb hby d1_30) rfl ?_
    refine XS.iconst X62.here hx rfl (hb hby d1_31) ?_
    refine XS.isub X62.here hx rfl (hb hby d1_32) rfl ?_
    exact k
  refine Outs.of (ldJ X62 hx hZ e62 V62 (j := (28 : Int32)) (k := 28) rfl (by decide) (f := (mkF m 33 #[.val (.ref o0), .val (.int (2 : Int32)), .val (.ref b3), .val (.int (29 : Int32))] [(.int (28 : Int32)), (.ref b3)])) rfl rfl (hb hby d1_33)) ?_
  refine Outs.of (U' := T62.setTop (mkF m 20 #[.val (.ref o0), .val (.int (2 : Int32)), .val (.ref b3), .val (.int (29 : Int32))] [(.int (29 : Int32)), (.int (2 : Int32)), (.int (29 : Int32)), (.ref b3)])) (fun t k => ?_) ?_
  · refine X62.ldc2Long hx hown (mvT hZ (hw _ (List.mem_of_getElem? (i := 16) rfl))) (g := (mkF m 34 #[.val (.ref o0), .val (.int (2 : Int32)), .val (.ref b3), .val (.int (29 : Int32))] [(.long (ct2_g25ab 28))])) rfl (hb hby d1_34) _ ?_
    refine XS.lcmp X62.here hx rfl (hb hby d1_37) rfl ?_
    refine XS.ifYes X62.here hx rfl (pc0 := 38) (pc' := 16) rfl (hb hby d1_38) rfl ((if0 _ _).trans (flt (fun q_ => (show ¬ ((2147483647 : Int64) < (ct2_g25ab 28)) from (by decide +kernel)) ((lw_gt _ _).mp q_))).2.2.2) (by decide) (by decide) ?_
    refine XS.aloadN X62.here hx rfl (hb hby d1_16) rfl rfl ?_
    refine XS.iloadN X62.here hx rfl (hb hby d1_17) rfl ?_
    refine XS.iloadN X62.here hx rfl (hb hby d1_18) rfl ?_
    refine XS.iloadN X62.here hx rfl (hb hby d1_19) rfl ?_
    exact k
  obtain ⟨_, _, ⟨T63, L63, k63, n63⟩, -, X63, ⟨Lc63, hQ63, l63, y63, z63⟩, st63⟩ := Jvm.LawKit.callS X62 hx (y := (⟨"com/example/bitmend/bitmend/CodeParameters", "columns", "(II)J"⟩ : MethodName)) hown (mvT hZ (hw _ (List.mem_of_getElem? (i := 12) rfl))) (mvT hZ (hw _ (List.mem_of_getElem? (i := 13) rfl))) (mvT hZ (hw _ (List.mem_of_getElem? (i := 14) rfl))) (mvT hZ (hw _ (List.mem_of_getElem? (i := 15) rfl))) (by decide) (backOf (W := 2) (rm3 l Z a0 hw [] (2 : Int32) (29 : Int32) h62 n0 (by decide)) hZ (hw _ (List.mem_of_getElem? (i := 15) rfl)) (hw _ (List.mem_of_getElem? (i := 14) rfl)) (by decide) (by decide)) (g := (mkF m 20 #[.val (.ref o0), .val (.int (2 : Int32)), .val (.ref b3), .val (.int (29 : Int32))] [(.int (29 : Int32)), (.int (2 : Int32)), (.int (29 : Int32)), (.ref b3)])) rfl (by rw [hml]; rfl) (argsL := [(.int (2 : Int32)), (.int (29 : Int32))]) (rest := [(.int (29 : Int32)), (.ref b3)]) (lenOf pd_2 rfl) rfl (by show 2 * 0 + _ ≤ _; exact Nat.le_of_eq rfl) (hb hby d1_20) (fun _ _ => ⟨rfl, e62, (by decide : 1 + 0 ≤ _), (by decide : 33 + 0 ≤ _)⟩)
  dsimp only [Pt.U, Pt.locs, Pt.cells, Pt.slots] at X63 l63 y63 z63 st63 hQ63
  subst l63 y63 z63
  obtain ⟨rfl, N63q, e63⟩ := hQ63
  have N63 := Fr.app N62 N63q
  obtain ⟨Lh63, X63, N63⟩ := hide X63 N63 (C := 1) (S := 33) (by decide) (by decide)
  refine Outs.of st63 ?_
  refine Outs.of (U' := T63.setTop (mkF m 25 #[.val (.ref o0), .val (.int (2 : Int32)), .val (.ref b3), .val (.int (29 : Int32))] [(.long ((F_f3 (2 : Int32) (29 : Int32)) + (1 : Int64))), (.int (29 : Int32)), (.ref b3)])) (fun t k => ?_) ?_
  · refine XS.lconst X63.here hx rfl (hb hby d1_23) ?_
    refine XS.ladd X63.here hx rfl (hb hby d1_24) rfl ?_
    exact k
  obtain ⟨T64, h64, X64, e64, W64, V64, st64⟩ := puJ X63 hx hZ e63 V62 (j := (29 : Int32)) (x := ((F_f3 (2 : Int32) (29 : Int32)) + (1 : Int64))) (k := 29) rfl (by decide) (f := (mkF m 25 #[.val (.ref o0), .val (.int (2 : Int32)), .val (.ref b3), .val (.int (29 : Int32))] [(.long ((F_f3 (2 : Int32) (29 : Int32)) + (1 : Int64))), (.int (29 : Int32)), (.ref b3)])) rfl rfl (hb hby d1_25)
  replace V64 : AJ Z h64 b3 .long 33 ct2_g25ac := V64
  have N64 := Fr.snoc X64 N63 g_b3
  obtain ⟨Lh64, X64, N64⟩ := hide X64 N64 (C := 1) (S := 33) (by decide) (by decide)
  refine Outs.of st64 ?_
  refine Outs.of (U' := T64.setTop (mkF m 33 #[.val (.ref o0), .val (.int (2 : Int32)), .val (.ref b3), .val (.int (30 : Int32))] [(.int (29 : Int32)), (.ref b3)])) (fun t k => ?_) ?_
  · refine XS.iinc X64.here hx rfl (hb hby d1_26) rfl (l' := #[.val (.ref o0), .val (.int (2 : Int32)), .val (.ref b3), .val (.int (30 : Int32))]) rfl ?_
    refine XS.aloadN X64.here hx rfl (hb hby d1_29) rfl rfl ?_
    refine XS.iloadN X64.here hx rfl (hb hby d1_30) rfl ?_
    refine XS.iconst X64.here hx rfl (hb hby d1_31) ?_
    refine XS.isub X64.here hx rfl (hb hby d1_32) rfl ?_
    exact k
  refine Outs.of (ldJ X64 hx hZ e64 V64 (j := (29 : Int32)) (k := 29) rfl (by decide) (f := (mkF m 33 #[.val (.ref o0), .val (.int (2 : Int32)), .val (.ref b3), .val (.int (30 : Int32))] [(.int (29 : Int32)), (.ref b3)])) rfl rfl (hb hby d1_33)) ?_
  refine Outs.of (U' := T64.setTop (mkF m 20 #[.val (.ref o0), .val (.int (2 : Int32)), .val (.ref b3), .val (.int (30 : Int32))] [(.int (30 : Int32)), (.int (2 : Int32)), (.int (30 : Int32)), (.ref b3)])) (fun t k => ?_) ?_
  · refine X64.ldc2Long hx hown (mvT hZ (hw _ (List.mem_of_getElem? (i := 16) rfl))) (g := (mkF m 34 #[.val (.ref o0), .val (.int (2 : Int32)), .val (.ref b3), .val (.int (30 : Int32))] [(.long (ct2_g25ac 29))])) rfl (hb hby d1_34) _ ?_
    refine XS.lcmp X64.here hx rfl (hb hby d1_37) rfl ?_
    refine XS.ifYes X64.here hx rfl (pc0 := 38) (pc' := 16) rfl (hb hby d1_38) rfl ((if0 _ _).trans (flt (fun q_ => (show ¬ ((2147483647 : Int64) < (ct2_g25ac 29)) from (by decide +kernel)) ((lw_gt _ _).mp q_))).2.2.2) (by decide) (by decide) ?_
    refine XS.aloadN X64.here hx rfl (hb hby d1_16) rfl rfl ?_
    refine XS.iloadN X64.here hx rfl (hb hby d1_17) rfl ?_
    refine XS.iloadN X64.here hx rfl (hb hby d1_18) rfl ?_
    refine XS.iloadN X64.here hx rfl (hb hby d1_19) rfl ?_
    exact k
  obtain ⟨_, _, ⟨T65, L65, k65, n65⟩, -, X65, ⟨Lc65, hQ65, l65, y65, z65⟩, st65⟩ := Jvm.LawKit.callS X64 hx (y := (⟨"com/example/bitmend/bitmend/CodeParameters", "columns", "(II)J"⟩ : MethodName)) hown (mvT hZ (hw _ (List.mem_of_getElem? (i := 12) rfl))) (mvT hZ (hw _ (List.mem_of_getElem? (i := 13) rfl))) (mvT hZ (hw _ (List.mem_of_getElem? (i := 14) rfl))) (mvT hZ (hw _ (List.mem_of_getElem? (i := 15) rfl))) (by decide) (backOf (W := 2) (rm3 l Z a0 hw [] (2 : Int32) (30 : Int32) h64 n0 (by decide)) hZ (hw _ (List.mem_of_getElem? (i := 15) rfl)) (hw _ (List.mem_of_getElem? (i := 14) rfl)) (by decide) (by decide)) (g := (mkF m 20 #[.val (.ref o0), .val (.int (2 : Int32)), .val (.ref b3), .val (.int (30 : Int32))] [(.int (30 : Int32)), (.int (2 : Int32)), (.int (30 : Int32)), (.ref b3)])) rfl (by rw [hml]; rfl) (argsL := [(.int (2 : Int32)), (.int (30 : Int32))]) (rest := [(.int (30 : Int32)), (.ref b3)]) (lenOf pd_2 rfl) rfl (by show 2 * 0 + _ ≤ _; exact Nat.le_of_eq rfl) (hb hby d1_20) (fun _ _ => ⟨rfl, e64, (by decide : 1 + 0 ≤ _), (by decide : 33 + 0 ≤ _)⟩)
  dsimp only [Pt.U, Pt.locs, Pt.cells, Pt.slots] at X65 l65 y65 z65 st65 hQ65
  subst l65 y65 z65
  obtain ⟨rfl, N65q, e65⟩ := hQ65
  have N65 := Fr.app N64 N65q
  obtain ⟨Lh65, X65, N65⟩ := hide X65 N65 (C := 1) (S := 33) (by decide) (by decide)
  refine Outs.of st65 ?_
  refine Outs.of (U' := T65.setTop (mkF m 25 #[.val (.ref o0), .val (.int (2 : Int32)), .val (.ref b3), .val (.int (30 : Int32))] [(.long ((F_f3 (2 : Int32) (30 : Int32)) + (1 : Int64))), (.int (30 : Int32)), (.ref b3)])) (fun t k => ?_) ?_
  · refine XS.lconst X65.here hx rfl (hb hby d1_23) ?_
    refine XS.ladd X65.here hx rfl (hb hby d1_24) rfl ?_
    exact k
  obtain ⟨T66, h66, X66, e66, W66, V66, st66⟩ := puJ X65 hx hZ e65 V64 (j := (30 : Int32)) (x := ((F_f3 (2 : Int32) (30 : Int32)) + (1 : Int64))) (k := 30) rfl (by decide) (f := (mkF m 25 #[.val (.ref o0), .val (.int (2 : Int32)), .val (.ref b3), .val (.int (30 : Int32))] [(.long ((F_f3 (2 : Int32) (30 : Int32)) + (1 : Int64))), (.int (30 : Int32)), (.ref b3)])) rfl rfl (hb hby d1_25)
  replace V66 : AJ Z h66 b3 .long 33 ct2_g25ad := V66
  have N66 := Fr.snoc X66 N65 g_b3
  obtain ⟨Lh66, X66, N66⟩ := hide X66 N66 (C := 1) (S := 33) (by decide) (by decide)
  refine Outs.of st66 ?_
  refine Outs.of (U' := T66.setTop (mkF m 33 #[.val (.ref o0), .val (.int (2 : Int32)), .val (.ref b3), .val (.int (31 : Int32))] [(.int (30 : Int32)), (.ref b3)])) (fun t k => ?_) ?_
  · refine XS.iinc X66.here hx rfl (hb hby d1_26) rfl (l' := #[.val (.ref o0), .val (.int (2 : Int32)), .val (.ref b3), .val (.int (31 : Int32))]) rfl ?_
    refine XS.aloadN X66.here hx rfl (hb hby d1_29) rfl rfl ?_
    refine XS.iloadN X66.here hx rfl (hb hby d1_30) rfl ?_
    refine XS.iconst X66.here hx rfl (hb hby d1_31) ?_
    refine XS.isub X66.here hx rfl (hb hby d1_32) rfl ?_
    exact k
  refine Outs.of (ldJ X66 hx hZ e66 V66 (j := (30 : Int32)) (k := 30) rfl (by decide) (f := (mkF m 33 #[.val (.ref o0), .val (.int (2 : Int32)), .val (.ref b3), .val (.int (31 : Int32))] [(.int (30 : Int32)), (.ref b3)])) rfl rfl (hb hby d1_33)) ?_
  refine Outs.of (U' := T66.setTop (mkF m 20 #[.val (.ref o0), .val (.int (2 : Int32)), .val (.ref b3), .val (.int (31 : Int32))] [(.int (31 : Int32)), (.int (2 : Int32)), (.int (31 : Int32)), (.ref b3)])) (fun t k => ?_) ?_
  · refine X66.ldc2Long hx hown (mvT hZ (hw _ (List.mem_of_getElem? (i := 16) rfl))) (g := (mkF m 34 #[.val (.ref o0), .val (.int (2 : Int32)), .val (.ref b3), .val (.int (31 : Int32))] [(.long (ct2_g25ad 30))])) rfl (hb hby d1_34) _ ?_
    refine XS.lcmp X66.here hx rfl (hb hby d1_37) rfl ?_
    refine XS.ifYes X66.here hx rfl (pc0 := 38) (pc' := 16) rfl (hb hby d1_38) rfl ((if0 _ _).trans (flt (fun q_ => (show ¬ ((2147483647 : Int64) < (ct2_g25ad 30)) from (by decide +kernel)) ((lw_gt _ _).mp q_))).2.2.2) (by decide) (by decide) ?_
    refine XS.aloadN X66.here hx rfl (hb hby d1_16) rfl rfl ?_
    refine XS.iloadN X66.here hx rfl (hb hby d1_17) rfl ?_
    refine XS.iloadN X66.here hx rfl (hb hby d1_18) rfl ?_
    refine XS.iloadN X66.here hx rfl (hb hby d1_19) rfl ?_
    exact k
  obtain ⟨_, _, ⟨T67, L67, k67, n67⟩, -, X67, ⟨Lc67, hQ67, l67, y67, z67⟩, st67⟩ := Jvm.LawKit.callS X66 hx (y := (⟨"com/example/bitmend/bitmend/CodeParameters", "columns", "(II)J"⟩ : MethodName)) hown (mvT hZ (hw _ (List.mem_of_getElem? (i := 12) rfl))) (mvT hZ (hw _ (List.mem_of_getElem? (i := 13) rfl))) (mvT hZ (hw _ (List.mem_of_getElem? (i := 14) rfl))) (mvT hZ (hw _ (List.mem_of_getElem? (i := 15) rfl))) (by decide) (backOf (W := 2) (rm3 l Z a0 hw [] (2 : Int32) (31 : Int32) h66 n0 (by decide)) hZ (hw _ (List.mem_of_getElem? (i := 15) rfl)) (hw _ (List.mem_of_getElem? (i := 14) rfl)) (by decide) (by decide)) (g := (mkF m 20 #[.val (.ref o0), .val (.int (2 : Int32)), .val (.ref b3), .val (.int (31 : Int32))] [(.int (31 : Int32)), (.int (2 : Int32)), (.int (31 : Int32)), (.ref b3)])) rfl (by rw [hml]; rfl) (argsL := [(.int (2 : Int32)), (.int (31 : Int32))]) (rest := [(.int (31 : Int32)), (.ref b3)]) (lenOf pd_2 rfl) rfl (by show 2 * 0 + _ ≤ _; exact Nat.le_of_eq rfl) (hb hby d1_20) (fun _ _ => ⟨rfl, e66, (by decide : 1 + 0 ≤ _), (by decide : 33 + 0 ≤ _)⟩)
  dsimp only [Pt.U, Pt.locs, Pt.cells, Pt.slots] at X67 l67 y67 z67 st67 hQ67
  subst l67 y67 z67
  obtain ⟨rfl, N67q, e67⟩ := hQ67
  have N67 := Fr.app N66 N67q
  obtain ⟨Lh67, X67, N67⟩ := hide X67 N67 (C := 1) (S := 33) (by decide) (by decide)
  refine Outs.of st67 ?_
  refine Outs.of (U' := T67.setTop (mkF m 25 #[.val (.ref o0), .val (.int (2 : Int32)), .val (.ref b3), .val (.int (31 : Int32))] [(.long ((F_f3 (2 : Int32) (31 : Int32)) + (1 : Int64))), (.int (31 : Int32)), (.ref b3)])) (fun t k => ?_) ?_
  · refine XS.lconst X67.here hx rfl (hb hby d1_23) ?_
    refine XS.ladd X67.here hx rfl (hb hby d1_24) rfl ?_
    exact k
  obtain ⟨T68, h68, X68, e68, W68, V68, st68⟩ := puJ X67 hx hZ e67 V66 (j := (31 : Int32)) (x := ((F_f3 (2 : Int32) (31 : Int32)) + (1 : Int64))) (k := 31) rfl (by decide) (f := (mkF m 25 #[.val (.ref o0), .val (.int (2 : Int32)), .val (.ref b3), .val (.int (31 : Int32))] [(.long ((F_f3 (2 : Int32) (31 : Int32)) + (1 : Int64))), (.int (31 : Int32)), (.ref b3)])) rfl rfl (hb hby d1_25)
  replace V68 : AJ Z h68 b3 .long 33 ct2_g25ae := V68
  have N68 := Fr.snoc X68 N67 g_b3
  obtain ⟨Lh68, X68, N68⟩ := hide X68 N68 (C := 1) (S := 33) (by decide) (by decide)
  refine Outs.of st68 ?_
  refine Outs.of (U' := T68.setTop (mkF m 33 #[.val (.ref o0), .val (.int (2 : Int32)), .val (.ref b3), .val (.int (32 : Int32))] [(.int (31 : Int32)), (.ref b3)])) (fun t k => ?_) ?_
  · refine XS.iinc X68.here hx rfl (hb hby d1_26) rfl (l' := #[.val (.ref o0), .val (.int (2 : Int32)), .val (.ref b3), .val (.int (32 : Int32))]) rfl ?_
    refine XS.aloadN X68.here hx rfl (hb hby d1_29) rfl rfl ?_
    refine XS.iloadN X68.here hx rfl (hb hby d1_30) rfl ?_
    refine XS.iconst X68.here hx rfl (hb hby d1_31) ?_
    refine XS.isub X68.here hx rfl (hb hby d1_32) rfl ?_
    exact k
  refine Outs.of (ldJ X68 hx hZ e68 V68 (j := (31 : Int32)) (k := 31) rfl (by decide) (f := (mkF m 33 #[.val (.ref o0), .val (.int (2 : Int32)), .val (.ref b3), .val (.int (32 : Int32))] [(.int (31 : Int32)), (.ref b3)])) rfl rfl (hb hby d1_33)) ?_
  refine Outs.of (U' := T68.setTop (mkF m 44 #[.val (.ref o0), .val (.int (2 : Int32)), .val (.ref b3), .val (.int (32 : Int32))] [(.int (32 : Int32)), (.ref b3), (.ref o0)])) (fun t k => ?_) ?_
  · refine X68.ldc2Long hx hown (mvT hZ (hw _ (List.mem_of_getElem? (i := 16) rfl))) (g := (mkF m 34 #[.val (.ref o0), .val (.int (2 : Int32)), .val (.ref b3), .val (.int (32 : Int32))] [(.long (ct2_g25ae 31))])) rfl (hb hby d1_34) _ ?_
    refine XS.lcmp X68.here hx rfl (hb hby d1_37) rfl ?_
    refine XS.ifNo X68.here hx rfl (hb hby d1_38) rfl ((if0 _ _).trans (tlt ((lw_gt _ _).mpr (show (2147483647 : Int64) < (ct2_g25ae 31) from (by decide +kernel)))).2.2.2) ?_
    refine XS.aloadN X68.here hx rfl (hb hby d1_41) rfl rfl ?_
    refine XS.aloadN X68.here hx rfl (hb hby d1_42) rfl rfl ?_
    refine XS.iloadN X68.here hx rfl (hb hby d1_43) rfl ?_
    exact k
  have f69 : Exa Z h68 o0 "com/example/bitmend/bitmend/PositionalColumns" := (((((((((((((((((((((((((((((((((f4.ext E3).wr W6).wr W8).wr W10).wr W12).wr W14).wr W16).wr W18).wr W20).wr W22).wr W24).wr W26).wr W28).wr W30).wr W32).wr W34).wr W36).wr W38).wr W40).wr W42).wr W44).wr W46).wr W48).wr W50).wr W52).wr W54).wr W56).wr W58).wr W60).wr W62).wr W64).wr W66).wr W68)
  obtain ⟨_, _, ⟨T70, L70, k70, n70⟩, -, X70, ⟨Lc70, hQ70, l70, y70, z70⟩, st70⟩ := Jvm.LawKit.callS X68 hx (y := (⟨"java/util/Arrays", "copyOf", "([JI)[J"⟩ : MethodName)) hown (mvT hZ (hw _ (List.mem_of_getElem? (i := 17) rfl))) (mvT hZ (hw _ (List.mem_of_getElem? (i := 18) rfl))) (mvT hZ (hw _ (List.mem_of_getElem? (i := 19) rfl))) (mvT hZ (hw _ (List.mem_of_getElem? (i := 20) rfl))) (by decide) (backOf (W := 1) (rmcp2 l Z a0 hw [] b3 ct2_g25ae h68 n0 (Nat.le_trans (Nat.le_trans (Nat.le_trans (Nat.le_trans (Nat.le_trans (Nat.le_trans (Nat.le_trans (Nat.le_trans (Nat.le_trans (Nat.le_trans (Nat.le_trans (Nat.le_trans (Nat.le_trans (Nat.le_trans (Nat.le_trans (Nat.le_trans (Nat.le_trans (Nat.le_trans (Nat.le_trans (Nat.le_trans (Nat.le_trans (Nat.le_trans (Nat.le_trans (Nat.le_trans (Nat.le_trans (Nat.le_trans (Nat.le_trans (Nat.le_trans (Nat.le_trans (Nat.le_trans (Nat.le_trans (Nat.le_trans (Nat.le_trans (Nat.le_trans Z0 (Keep.of_wr W2).1) E3.1) (Keep.of_wr W6).1) (Keep.of_wr W8).1) (Keep.of_wr W10).1) (Keep.of_wr W12).1) (Keep.of_wr W14).1) (Keep.of_wr W16).1) (Keep.of_wr W18).1) (Keep.of_wr W20).1) (Keep.of_wr W22).1) (Keep.of_wr W24).1) (Keep.of_wr W26).1) (Keep.of_wr W28).1) (Keep.of_wr W30).1) (Keep.of_wr W32).1) (Keep.of_wr W34).1) (Keep.of_wr W36).1) (Keep.of_wr W38).1) (Keep.of_wr W40).1) (Keep.of_wr W42).1) (Keep.of_wr W44).1) (Keep.of_wr W46).1) (Keep.of_wr W48).1) (Keep.of_wr W50).1) (Keep.of_wr W52).1) (Keep.of_wr W54).1) (Keep.of_wr W56).1) (Keep.of_wr W58).1) (Keep.of_wr W60).1) (Keep.of_wr W62).1) (Keep.of_wr W64).1) (Keep.of_wr W66).1) (Keep.of_wr W68).1) V68) hZ (hw _ (List.mem_of_getElem? (i := 20) rfl)) (hw _ (List.mem_of_getElem? (i := 19) rfl)) (by decide) (by decide)) (g := (mkF m 44 #[.val (.ref o0), .val (.int (2 : Int32)), .val (.ref b3), .val (.int (32 : Int32))] [(.int (32 : Int32)), (.ref b3), (.ref o0)])) rfl (by rw [hml]; rfl) (argsL := [(.ref b3), (.int (32 : Int32))]) (rest := [(.ref o0)]) (lenOf pd_3 rfl) rfl (by show 2 * 0 + _ ≤ _; exact Nat.le_of_eq rfl) (hb hby d1_44) (fun _ _ => ⟨rfl, e68, (by decide : 1 + 1 ≤ _), (by decide : 33 + 32 ≤ _)⟩)
  dsimp only [Pt.U, Pt.locs, Pt.cells, Pt.slots] at X70 l70 y70 z70 st70 hQ70
  subst l70 y70 z70
  obtain ⟨b70, g_b70, hs_b70, rfl, N70q, K70, u70_0⟩ := hQ70
  have N70 := Fr.app N68 N70q
  have sz_b70 : h0.size ≤ b70 := Nat.le_trans (((((((((((((((((((((((((((((((((((Keep.refl h0 [o0]).wr W2 (Or.inl (List.mem_of_getElem? (i := 0) rfl))).ext E3).wr W6 (Or.inr sz_b3)).wr W8 (Or.inr sz_b3)).wr W10 (Or.inr sz_b3)).wr W12 (Or.inr sz_b3)).wr W14 (Or.inr sz_b3)).wr W16 (Or.inr sz_b3)).wr W18 (Or.inr sz_b3)).wr W20 (Or.inr sz_b3)).wr W22 (Or.inr sz_b3)).wr W24 (Or.inr sz_b3)).wr W26 (Or.inr sz_b3)).wr W28 (Or.inr sz_b3)).wr W30 (Or.inr sz_b3)).wr W32 (Or.inr sz_b3)).wr W34 (Or.inr sz_b3)).wr W36 (Or.inr sz_b3)).wr W38 (Or.inr sz_b3)).wr W40 (Or.inr sz_b3)).wr W42 (Or.inr sz_b3)).wr W44 (Or.inr sz_b3)).wr W46 (Or.inr sz_b3)).wr W48 (Or.inr sz_b3)).wr W50 (Or.inr sz_b3)).wr W52 (Or.inr sz_b3)).wr W54 (Or.inr sz_b3)).wr W56 (Or.inr sz_b3)).wr W58 (Or.inr sz_b3)).wr W60 (Or.inr sz_b3)).wr W62 (Or.inr sz_b3)).wr W64 (Or.inr sz_b3)).wr W66 (Or.inr sz_b3)).wr W68 (Or.inr sz_b3)).1 hs_b70
  have ne_o0_b70 : o0 ≠ b70 := Nat.ne_of_lt (Nat.lt_of_lt_of_le f69.lt hs_b70)
  have ne_b3_b70 : b3 ≠ b70 := Nat.ne_of_lt (Nat.lt_of_lt_of_le V68.lt hs_b70)
  obtain ⟨Lh70, X70, N70⟩ := hide X70 N70 (C := 2) (S := 65) (by decide) (by decide)
  refine Outs.of st70 ?_
  have f72 : Exa Z T70.heap o0 "com/example/bitmend/bitmend/PositionalColumns" := (f69.keep K70)
  have f73 : Fld Z T70.heap o0 "com/example/bitmend/bitmend/PositionalColumns" "checkPositions" "[J" .null := (((((((((((((((((((((((((((((((((((F_o0_checkPositions.other W2 (Or.inr (slot_ne (Or.inr (hw _ (List.mem_of_getElem? (i := 30) rfl))) (Or.inr (hw _ (List.mem_of_getElem? (i := 10) rfl))) (by decide) (t := (.array .long)) (t' := .int) (by decide) (by decide)))).ext E3).other W6 (Or.inl ne_o0_b3)).other W8 (Or.inl ne_o0_b3)).other W10 (Or.inl ne_o0_b3)).other W12 (Or.inl ne_o0_b3)).other W14 (Or.inl ne_o0_b3)).other W16 (Or.inl ne_o0_b3)).other W18 (Or.inl ne_o0_b3)).other W20 (Or.inl ne_o0_b3)).other W22 (Or.inl ne_o0_b3)).other W24 (Or.inl ne_o0_b3)).other W26 (Or.inl ne_o0_b3)).other W28 (Or.inl ne_o0_b3)).other W30 (Or.inl ne_o0_b3)).other W32 (Or.inl ne_o0_b3)).other W34 (Or.inl ne_o0_b3)).other W36 (Or.inl ne_o0_b3)).other W38 (Or.inl ne_o0_b3)).other W40 (Or.inl ne_o0_b3)).other W42 (Or.inl ne_o0_b3)).other W44 (Or.inl ne_o0_b3)).other W46 (Or.inl ne_o0_b3)).other W48 (Or.inl ne_o0_b3)).other W50 (Or.inl ne_o0_b3)).other W52 (Or.inl ne_o0_b3)).other W54 (Or.inl ne_o0_b3)).other W56 (Or.inl ne_o0_b3)).other W58 (Or.inl ne_o0_b3)).other W60 (Or.inl ne_o0_b3)).other W62 (Or.inl ne_o0_b3)).other W64 (Or.inl ne_o0_b3)).other W66 (Or.inl ne_o0_b3)).other W68 (Or.inl ne_o0_b3)).keep K70 nin0)
  obtain ⟨T71, h71, X71, e71, W71, st71⟩ := putF X70 hx hZ hown (host := "") (Or.inl (hw _ (List.mem_of_getElem? (i := 29) rfl))) Via.refl rfl f73 f72 (Or.inr ⟨(hw _ (List.mem_of_getElem? (i := 30) rfl)), rfl, hnm⟩) (hw _ (List.mem_of_getElem? (i := 1) rfl)) (ty := (.array .long)) (by decide) rfl rfl (g := (mkF m 47 #[.val (.ref o0), .val (.int (2 : Int32)), .val (.ref b3), .val (.int (32 : Int32))] [(.ref b70), (.ref o0)])) rfl rfl (hb hby d1_47)
  have F71 : Fld Z h71 o0 "com/example/bitmend/bitmend/PositionalColumns" "checkPositions" "[J" (.ref b70) := f73.same W71
  have N71 := Fr.snoc X71 N70 g_o0
  obtain ⟨Lh71, X71, N71⟩ := hide X71 N71 (C := 2) (S := 65) (by decide) (by decide)
  refine Outs.of st71 ?_
  have f74 : Exa Z h71 o0 "com/example/bitmend/bitmend/PositionalColumns" := (f72.wr W71)
  have f75 : AJ Z h71 b70 .long 32 (cp2_g28 ct2_g25ae) := (u70_0.other W71 ne_o0_b70.symm)
  exact Outs.retV X71 hx hret (hb hby d1_50) hlk (by decide) (by decide) e71 ⟨b70, g_b70, sz_b70, rfl, N71, (((((((((((((((((((((((((((((((((((((Keep.refl h0 [o0]).wr W2 (Or.inl (List.mem_of_getElem? (i := 0) rfl))).ext E3).wr W6 (Or.inr sz_b3)).wr W8 (Or.inr sz_b3)).wr W10 (Or.inr sz_b3)).wr W12 (Or.inr sz_b3)).wr W14 (Or.inr sz_b3)).wr W16 (Or.inr sz_b3)).wr W18 (Or.inr sz_b3)).wr W20 (Or.inr sz_b3)).wr W22 (Or.inr sz_b3)).wr W24 (Or.inr sz_b3)).wr W26 (Or.inr sz_b3)).wr W28 (Or.inr sz_b3)).wr W30 (Or.inr sz_b3)).wr W32 (Or.inr sz_b3)).wr W34 (Or.inr sz_b3)).wr W36 (Or.inr sz_b3)).wr W38 (Or.inr sz_b3)).wr W40 (Or.inr sz_b3)).wr W42 (Or.inr sz_b3)).wr W44 (Or.inr sz_b3)).wr W46 (Or.inr sz_b3)).wr W48 (Or.inr sz_b3)).wr W50 (Or.inr sz_b3)).wr W52 (Or.inr sz_b3)).wr W54 (Or.inr sz_b3)).wr W56 (Or.inr sz_b3)).wr W58 (Or.inr sz_b3)).wr W60 (Or.inr sz_b3)).wr W62 (Or.inr sz_b3)).wr W64 (Or.inr sz_b3)).wr W66 (Or.inr sz_b3)).wr W68 (Or.inr sz_b3)).trans K70 all0).wr W71 (Or.inl (List.mem_of_getElem? (i := 0) rfl))), f74, F71, f75⟩
def cp3_g28 (g : Nat → Int64) : Nat → Int64 := (fun j_ => if j_ < 22 then g j_ else (fun _ => (0 : Int64)) j_)
def Q_cp3 (Z : State) (o0 : Addr) (g : Nat → Int64) (h0 : Heap) (n0 : Nat) (v : Option Value) (h : Heap) (L : List Loc) : Prop := ∃ b1 : Addr, n0 ≤ b1 ∧ h0.size ≤ b1 ∧ v = some (.ref b1) ∧ Fr n0 L ∧ Keep h0 h [] ∧ AJ Z h b1 .long 22 (cp3_g28 g)
set_option maxRecDepth 65536 in
set_option maxHeartbeats 40000000 in
theorem rmcp3 (l : Launch) (Z : State) (a0 : Array Value) (hw : ∀ d ∈ tables_1, d.before a0 Z = true) (ws : List Jvm.Cond) (o0 : Addr) (g : Nat → Int64) (h0 : Heap) (n0 : Nat) (Z0 : n0 ≤ h0.size) (A_o0 : AJ Z h0 o0 .long 33 g) :
    MetFree l (⟨"java/util/Arrays", "copyOf", "([JI)[J"⟩ : MethodName) (head1 (Jvm.Cond.code (⟨"java/util/Arrays", "copyOf", "([JI)[J"⟩ : MethodName) jdk_65_method_124_code 3 (some (.array .long)) :: ws) ({ frames := 1, cells := 1, slots := 22, locals := 18 } : Room)) (fun a U => a = #[(.ref o0), (.int (22 : Int32))] ∧ Z.Warmed39 U.vm ∧ U.heap = h0) (fun _ _ _ _ _ => True) (fun _ U o U' => ∃ v L, o = .returned v ∧ Q_cp3 Z o0 g h0 n0 v U'.heap L ∧ FrameEnd U o U' L ({ frames := 1, cells := 1, slots := 22, locals := 18 } : Room).cells ({ frames := 1, cells := 1, slots := 22, locals := 18 } : Room).slots) := by
  refine MetFree.of_bodySF (plainFor_of_name pn_4) hisR ?_
  intro p e s m args below meth c s₁ Bd hml0 hP hK
  obtain ⟨rfl, hZ, hh⟩ := hP
  have hx := Bd.exec
  have hby := Bd.bytes
  have hml : c.maxLocals = 3 := hml0
  have hown : s.vm.findClass "java/util/Arrays" = some m.cls := findClass_of_methodNamed Bd.named
  have hnm := (name_of_methodNamed Bd.named Bd.method).1
  have hret := Bd.returns
  have hlk : meth.locks = false := BodyLoose.notSynchronized Bd
  have X0 : Stand p l e ({ frames := 1, cells := 1, slots := 22, locals := 18 } : Room) s m #[(.ref o0), (.int (22 : Int32))] below meth c s₁ [] 0 0 := Stand.of_body Bd
  have e0 : s₁.heap = h0 := by rw [← hh, Bd.state]; rfl
  have N0 := Fr.nil n0
  show Outs p e below s (Q_cp3 Z o0 g h0 n0) _ _ _
  refine Outs.of (U' := s₁.setTop (mkF m 0 #[.val (.ref o0), .val (.int (22 : Int32)), .unset] [])) (fun t k => castTop (ef_4 m o0 (22 : Int32)) k) ?_
  refine Outs.of (U' := s₁.setTop (mkF m 2 #[.val (.ref o0), .val (.int (22 : Int32)), .unset] [(.ref o0), (.int (22 : Int32))])) (fun t k => ?_) ?_
  · refine XS.iloadN X0.here hx rfl (hb hby d4_0) rfl ?_
    refine XS.aloadN X0.here hx rfl (hb hby d4_1) rfl rfl ?_
    exact k
  refine Outs.of (alen X0 hx hZ e0 A_o0 (z := (33 : Int32)) rfl (f := (mkF m 2 #[.val (.ref o0), .val (.int (22 : Int32)), .unset] [(.ref o0), (.int (22 : Int32))])) rfl rfl (hb hby d4_2)) ?_
  refine Outs.of (U' := s₁.setTop (mkF m 15 #[.val (.ref o0), .val (.int (22 : Int32)), .unset] [(.int (22 : Int32))])) (fun t k => ?_) ?_
  · refine XS.icmpYes X0.here hx rfl (pc0 := 3) (pc' := 14) rfl (hb hby d4_3) rfl (feq (show ¬ ((22 : Int32) = (33 : Int32)) from (by decide))).2 (by decide) (by decide) ?_
    refine XS.iloadN X0.here hx rfl (hb hby d4_14) rfl ?_
    exact k
  obtain ⟨T1, h1, X1, e1, E1, A1, st1⟩ := newAF X0 hx hZ (aty := .long) (hw _ (List.mem_of_getElem? (i := 11) rfl)) e0 (f := (mkF m 15 #[.val (.ref o0), .val (.int (22 : Int32)), .unset] [(.int (22 : Int32))])) rfl (hb hby d4_15) rfl (k := 22) rfl (cap := 22) (by decide) (by decide) (by decide) (by decide)
  obtain ⟨b1, g1⟩ : ∃ z, z = h0.size := ⟨_, rfl⟩
  rw [← g1] at A1 st1
  have g_b1 : n0 ≤ b1 := Nat.le_trans Z0 (Nat.le_of_eq g1.symm)
  have sz_b1 : h0.size ≤ b1 := Nat.le_trans (Keep.refl h0 []).1 (Nat.le_of_eq g1.symm)
  have ne_o0_b1 : o0 ≠ b1 := Nat.ne_of_lt (Nat.lt_of_lt_of_eq A_o0.lt g1.symm)
  have V1 : AJ Z h1 b1 .long 22 (fun _ => (0 : Int64)) := A1
  refine Outs.of st1 ?_
  refine Outs.of (U' := T1.setTop (mkF m 23 #[.val (.ref o0), .val (.int (22 : Int32)), .val (.ref b1)] [(.ref o0), (.int (0 : Int32)), (.ref b1), (.int (0 : Int32)), (.ref o0)])) (fun t k => ?_) ?_
  · refine XS.astoreN X1.here hx rfl (hb hby d4_17) rfl rfl (l' := #[.val (.ref o0), .val (.int (22 : Int32)), .val (.ref b1)]) rfl ?_
    refine XS.aloadN X1.here hx rfl (hb hby d4_18) rfl rfl ?_
    refine XS.iconst X1.here hx rfl (hb hby d4_19) ?_
    refine XS.aloadN X1.here hx rfl (hb hby d4_20) rfl rfl ?_
    refine XS.iconst X1.here hx rfl (hb hby d4_21) ?_
    refine XS.aloadN X1.here hx rfl (hb hby d4_22) rfl rfl ?_
    exact k
  have f2 : AJ Z h1 o0 .long 33 g := (A_o0.ext E1)
  refine Outs.of (alen X1 hx hZ e1 f2 (z := (33 : Int32)) rfl (f := (mkF m 23 #[.val (.ref o0), .val (.int (22 : Int32)), .val (.ref b1)] [(.ref o0), (.int (0 : Int32)), (.ref b1), (.int (0 : Int32)), (.ref o0)])) rfl rfl (hb hby d4_23)) ?_
  refine Outs.of (U' := T1.setTop (mkF m 25 #[.val (.ref o0), .val (.int (22 : Int32)), .val (.ref b1)] [(.int (22 : Int32)), (.int (33 : Int32)), (.int (0 : Int32)), (.ref b1), (.int (0 : Int32)), (.ref o0)])) (fun t k => ?_) ?_
  · refine XS.iloadN X1.here hx rfl (hb hby d4_24) rfl ?_
    exact k
  obtain ⟨_, _, ⟨T3, L3, k3, n3⟩, -, X3, ⟨Lc3, hQ3, l3, y3, z3⟩, st3⟩ := Jvm.LawKit.callS X1 hx (y := (⟨"java/lang/Math", "min", "(II)I"⟩ : MethodName)) hown (mvT hZ (hw _ (List.mem_of_getElem? (i := 21) rfl))) (mvT hZ (hw _ (List.mem_of_getElem? (i := 22) rfl))) (mvT hZ (hw _ (List.mem_of_getElem? (i := 23) rfl))) (mvT hZ (hw _ (List.mem_of_getElem? (i := 24) rfl))) (by decide) (backOf (W := 4) (rm5 l Z a0 hw [] (33 : Int32) (22 : Int32) h1 n0 ) hZ (hw _ (List.mem_of_getElem? (i := 24) rfl)) (hw _ (List.mem_of_getElem? (i := 23) rfl)) (by decide) (by decide)) (g := (mkF m 25 #[.val (.ref o0), .val (.int (22 : Int32)), .val (.ref b1)] [(.int (22 : Int32)), (.int (33 : Int32)), (.int (0 : Int32)), (.ref b1), (.int (0 : Int32)), (.ref o0)])) rfl (by rw [hml]; rfl) (argsL := [(.int (33 : Int32)), (.int (22 : Int32))]) (rest := [(.int (0 : Int32)), (.ref b1), (.int (0 : Int32)), (.ref o0)]) (lenOf pd_4 rfl) rfl (by show 2 * 0 + _ ≤ _; exact Nat.le_of_eq rfl) (hb hby d4_25) (fun _ _ => ⟨rfl, e1, (by decide : 1 + 0 ≤ _), (by decide : 22 + 0 ≤ _)⟩)
  dsimp only [Pt.U, Pt.locs, Pt.cells, Pt.slots] at X3 l3 y3 z3 st3 hQ3
  subst l3 y3 z3
  obtain ⟨rfl, N3q, e3⟩ := hQ3
  have N3 := Fr.app N0 N3q
  obtain ⟨Lh3, X3, N3⟩ := hide X3 N3 (C := 1) (S := 22) (by decide) (by decide)
  refine Outs.of st3 ?_
  obtain ⟨T4, h4, Lc4, X4, e4, N4, K4, V4, st4⟩ := cpJ X3 hx hZ hown (hw _ (List.mem_of_getElem? (i := 25) rfl)) (hw _ (List.mem_of_getElem? (i := 28) rfl)) (hw _ (List.mem_of_getElem? (i := 26) rfl)) (hw _ (List.mem_of_getElem? (i := 27) rfl)) e3 f2 V1 (nn := (22 : Int32)) (k := 22) rfl (by decide) (by decide) N3 g_b1 (f := (mkF m 28 #[.val (.ref o0), .val (.int (22 : Int32)), .val (.ref b1)] [(.int (22 : Int32)), (.int (0 : Int32)), (.ref b1), (.int (0 : Int32)), (.ref o0)])) rfl (by rw [hml]; rfl) rfl (hb hby d4_28) (by decide) (W := 0) (by show 2 * 0 + _ ≤ _; exact Nat.le_of_eq rfl) (by decide)
  replace V4 : AJ Z h4 b1 .long 22 (cp3_g28 g) := V4
  obtain ⟨Lh4, X4, N4⟩ := hide X4 N4 (C := 1) (S := 22) (by decide) (by decide)
  refine Outs.of st4 ?_
  refine Outs.of (U' := T4.setTop (mkF m 32 #[.val (.ref o0), .val (.int (22 : Int32)), .val (.ref b1)] [(.ref b1)])) (fun t k => ?_) ?_
  · refine XS.aloadN X4.here hx rfl (hb hby d4_31) rfl rfl ?_
    exact k
  exact Outs.retA (w := (.ref b1)) X4 hx hret rfl rfl rfl (hb hby d4_32) hlk (by decide) (by decide) e4 ⟨b1, g_b1, sz_b1, rfl, N4, (((Keep.refl h0 []).ext E1).trans K4 (allS (Or.inr sz_b1) all0)), V4⟩
def ct3_g25  : Nat → Int64 := (upv (fun _ => (0 : Int64)) 0 ((F_f3 (3 : Int32) (0 : Int32)) + (1 : Int64)))
def ct3_g25a  : Nat → Int64 := (upv ct3_g25 1 ((F_f3 (3 : Int32) (1 : Int32)) + (1 : Int64)))
def ct3_g25b  : Nat → Int64 := (upv ct3_g25a 2 ((F_f3 (3 : Int32) (2 : Int32)) + (1 : Int64)))
def ct3_g25c  : Nat → Int64 := (upv ct3_g25b 3 ((F_f3 (3 : Int32) (3 : Int32)) + (1 : Int64)))
def ct3_g25d  : Nat → Int64 := (upv ct3_g25c 4 ((F_f3 (3 : Int32) (4 : Int32)) + (1 : Int64)))
def ct3_g25e  : Nat → Int64 := (upv ct3_g25d 5 ((F_f3 (3 : Int32) (5 : Int32)) + (1 : Int64)))
def ct3_g25f  : Nat → Int64 := (upv ct3_g25e 6 ((F_f3 (3 : Int32) (6 : Int32)) + (1 : Int64)))
def ct3_g25g  : Nat → Int64 := (upv ct3_g25f 7 ((F_f3 (3 : Int32) (7 : Int32)) + (1 : Int64)))
def ct3_g25h  : Nat → Int64 := (upv ct3_g25g 8 ((F_f3 (3 : Int32) (8 : Int32)) + (1 : Int64)))
def ct3_g25i  : Nat → Int64 := (upv ct3_g25h 9 ((F_f3 (3 : Int32) (9 : Int32)) + (1 : Int64)))
def ct3_g25j  : Nat → Int64 := (upv ct3_g25i 10 ((F_f3 (3 : Int32) (10 : Int32)) + (1 : Int64)))
def ct3_g25k  : Nat → Int64 := (upv ct3_g25j 11 ((F_f3 (3 : Int32) (11 : Int32)) + (1 : Int64)))
def ct3_g25l  : Nat → Int64 := (upv ct3_g25k 12 ((F_f3 (3 : Int32) (12 : Int32)) + (1 : Int64)))
def ct3_g25m  : Nat → Int64 := (upv ct3_g25l 13 ((F_f3 (3 : Int32) (13 : Int32)) + (1 : Int64)))
def ct3_g25n  : Nat → Int64 := (upv ct3_g25m 14 ((F_f3 (3 : Int32) (14 : Int32)) + (1 : Int64)))
def ct3_g25o  : Nat → Int64 := (upv ct3_g25n 15 ((F_f3 (3 : Int32) (15 : Int32)) + (1 : Int64)))
def ct3_g25p  : Nat → Int64 := (upv ct3_g25o 16 ((F_f3 (3 : Int32) (16 : Int32)) + (1 : Int64)))
def ct3_g25q  : Nat → Int64 := (upv ct3_g25p 17 ((F_f3 (3 : Int32) (17 : Int32)) + (1 : Int64)))
def ct3_g25r  : Nat → Int64 := (upv ct3_g25q 18 ((F_f3 (3 : Int32) (18 : Int32)) + (1 : Int64)))
def ct3_g25s  : Nat → Int64 := (upv ct3_g25r 19 ((F_f3 (3 : Int32) (19 : Int32)) + (1 : Int64)))
def ct3_g25t  : Nat → Int64 := (upv ct3_g25s 20 ((F_f3 (3 : Int32) (20 : Int32)) + (1 : Int64)))
def ct3_g25u  : Nat → Int64 := (upv ct3_g25t 21 ((F_f3 (3 : Int32) (21 : Int32)) + (1 : Int64)))
def Q_ct3 (Z : State) (o0 : Addr) (h0 : Heap) (n0 : Nat) (v : Option Value) (h : Heap) (L : List Loc) : Prop := ∃ b50 : Addr, n0 ≤ b50 ∧ h0.size ≤ b50 ∧ v = none ∧ Fr n0 L ∧ Keep h0 h [o0] ∧ Exa Z h o0 "com/example/bitmend/bitmend/PositionalColumns" ∧ Fld Z h o0 "com/example/bitmend/bitmend/PositionalColumns" "checkPositions" "[J" (.ref b50) ∧ AJ Z h b50 .long 22 (cp3_g28 ct3_g25u)
set_option maxRecDepth 65536 in
set_option maxHeartbeats 40000000 in
theorem rmct3 (l : Launch) (Z : State) (a0 : Array Value) (hw : ∀ d ∈ tables_1, d.before a0 Z = true) (ws : List Jvm.Cond) (o0 : Addr)  (h0 : Heap) (n0 : Nat) (Z0 : n0 ≤ h0.size) (E_o0 : Exa Z h0 o0 "com/example/bitmend/bitmend/PositionalColumns") (g_o0 : n0 ≤ o0) (F_o0_fieldSize : Fld Z h0 o0 "com/example/bitmend/bitmend/PositionalColumns" "fieldSize" "I" (.int (0 : Int32))) (F_o0_checkPositions : Fld Z h0 o0 "com/example/bitmend/bitmend/PositionalColumns" "checkPositions" "[J" .null) :
    MetFree l (⟨"com/example/bitmend/bitmend/PositionalColumns", "<init>", "(I)V"⟩ : MethodName) (head1 (Jvm.Cond.code (⟨"com/example/bitmend/bitmend/PositionalColumns", "<init>", "(I)V"⟩ : MethodName) prog_35_method_1_code 4 none :: ws) ({ frames := 2, cells := 2, slots := 55, locals := 33 } : Room)) (fun a U => a = #[(.ref o0), (.int (3 : Int32))] ∧ Z.Warmed39 U.vm ∧ U.heap = h0) (fun _ _ _ _ _ => True) (fun _ U o U' => ∃ v L, o = .returned v ∧ Q_ct3 Z o0 h0 n0 v U'.heap L ∧ FrameEnd U o U' L ({ frames := 2, cells := 2, slots := 55, locals := 33 } : Room).cells ({ frames := 2, cells := 2, slots := 55, locals := 33 } : Room).slots) := by
  refine MetFree.of_bodySF (plainFor_of_name pn_1) hisR ?_
  intro p e s m args below meth c s₁ Bd hml0 hP hK
  obtain ⟨rfl, hZ, hh⟩ := hP
  have hx := Bd.exec
  have hby := Bd.bytes
  have hml : c.maxLocals = 4 := hml0
  have hown : s.vm.findClass "com/example/bitmend/bitmend/PositionalColumns" = some m.cls := findClass_of_methodNamed Bd.named
  have hnm := (name_of_methodNamed Bd.named Bd.method).1
  have hret := Bd.returns
  have hlk : meth.locks = false := BodyLoose.notSynchronized Bd
  have X0 : Stand p l e ({ frames := 2, cells := 2, slots := 55, locals := 33 } : Room) s m #[(.ref o0), (.int (3 : Int32))] below meth c s₁ [] 0 0 := Stand.of_body Bd
  have e0 : s₁.heap = h0 := by rw [← hh, Bd.state]; rfl
  have N0 := Fr.nil n0
  show Outs p e below s (Q_ct3 Z o0 h0 n0) _ _ _
  refine Outs.of (U' := s₁.setTop (mkF m 0 #[.val (.ref o0), .val (.int (3 : Int32)), .unset, .unset] [])) (fun t k => castTop (ef_1 m o0 (3 : Int32)) k) ?_
  refine Outs.of (U' := s₁.setTop (mkF m 1 #[.val (.ref o0), .val (.int (3 : Int32)), .unset, .unset] [(.ref o0)])) (fun t k => ?_) ?_
  · refine XS.aloadN X0.here hx rfl (hb hby d1_0) rfl rfl ?_
    exact k
  obtain ⟨T1, X1, e1, st1⟩ := initO X0 hx hZ hown (hw _ (List.mem_of_getElem? (i := 6) rfl)) (hw _ (List.mem_of_getElem? (i := 7) rfl)) (hw _ (List.mem_of_getElem? (i := 8) rfl)) e0 (g := (mkF m 1 #[.val (.ref o0), .val (.int (3 : Int32)), .unset, .unset] [(.ref o0)])) rfl (by rw [hml]; rfl) rfl (hb hby d1_1) (by decide) (W := 0) (by show 2 * 0 + _ ≤ _; exact Nat.le_of_eq rfl) (by decide)
  refine Outs.of st1 ?_
  refine Outs.of (U' := T1.setTop (mkF m 6 #[.val (.ref o0), .val (.int (3 : Int32)), .unset, .unset] [(.int (3 : Int32)), (.ref o0)])) (fun t k => ?_) ?_
  · refine XS.aloadN X1.here hx rfl (hb hby d1_4) rfl rfl ?_
    refine XS.iloadN X1.here hx rfl (hb hby d1_5) rfl ?_
    exact k
  obtain ⟨T2, h2, X2, e2, W2, st2⟩ := putF X1 hx hZ hown (host := "") (Or.inl (hw _ (List.mem_of_getElem? (i := 9) rfl))) Via.refl e1 F_o0_fieldSize E_o0 (Or.inr ⟨(hw _ (List.mem_of_getElem? (i := 10) rfl)), rfl, hnm⟩) (hw _ (List.mem_of_getElem? (i := 1) rfl)) (ty := .int) (by decide) rfl rfl (g := (mkF m 6 #[.val (.ref o0), .val (.int (3 : Int32)), .unset, .unset] [(.int (3 : Int32)), (.ref o0)])) rfl rfl (hb hby d1_6)
  have F2 : Fld Z h2 o0 "com/example/bitmend/bitmend/PositionalColumns" "fieldSize" "I" (.int (3 : Int32)) := F_o0_fieldSize.same W2
  have N2 := Fr.snoc X2 N0 g_o0
  obtain ⟨Lh2, X2, N2⟩ := hide X2 N2 (C := 0) (S := 0) (by decide) (by decide)
  refine Outs.of st2 ?_
  refine Outs.of (U' := T2.setTop (mkF m 11 #[.val (.ref o0), .val (.int (3 : Int32)), .unset, .unset] [(.int (33 : Int32))])) (fun t k => ?_) ?_
  · refine XS.bipush X2.here hx rfl (hb hby d1_9) ?_
    exact k
  have f4 : Exa Z h2 o0 "com/example/bitmend/bitmend/PositionalColumns" := (E_o0.wr W2)
  obtain ⟨T3, h3, X3, e3, E3, A3, st3⟩ := newAF X2 hx hZ (aty := .long) (hw _ (List.mem_of_getElem? (i := 11) rfl)) e2 (f := (mkF m 11 #[.val (.ref o0), .val (.int (3 : Int32)), .unset, .unset] [(.int (33 : Int32))])) rfl (hb hby d1_11) rfl (k := 33) rfl (cap := 33) (by decide) (by decide) (by decide) (by decide)
  obtain ⟨b3, g3⟩ : ∃ z, z = h2.size := ⟨_, rfl⟩
  rw [← g3] at A3 st3
  have g_b3 : n0 ≤ b3 := Nat.le_trans (Nat.le_trans Z0 (Keep.of_wr W2).1) (Nat.le_of_eq g3.symm)
  have sz_b3 : h0.size ≤ b3 := Nat.le_trans ((Keep.refl h0 [o0]).wr W2 (Or.inl (List.mem_of_getElem? (i := 0) rfl))).1 (Nat.le_of_eq g3.symm)
  have ne_o0_b3 : o0 ≠ b3 := Nat.ne_of_lt (Nat.lt_of_lt_of_eq f4.lt g3.symm)
  have V3 : AJ Z h3 b3 .long 33 (fun _ => (0 : Int64)) := A3
  refine Outs.of st3 ?_
  refine Outs.of (U' := T3.setTop (mkF m 20 #[.val (.ref o0), .val (.int (3 : Int32)), .val (.ref b3), .val (.int (0 : Int32))] [(.int (0 : Int32)), (.int (3 : Int32)), (.int (0 : Int32)), (.ref b3)])) (fun t k => ?_) ?_
  · refine XS.astoreN X3.here hx rfl (hb hby d1_13) rfl rfl (l' := #[.val (.ref o0), .val (.int (3 : Int32)), .val (.ref b3), .unset]) rfl ?_
    refine XS.iconst X3.here hx rfl (hb hby d1_14) ?_
    refine XS.istoreN X3.here hx rfl (hb hby d1_15) rfl (l' := #[.val (.ref o0), .val (.int (3 : Int32)), .val (.ref b3), .val (.int (0 : Int32))]) rfl ?_
    refine XS.aloadN X3.here hx rfl (hb hby d1_16) rfl rfl ?_
    refine XS.iloadN X3.here hx rfl (hb hby d1_17) rfl ?_
    refine XS.iloadN X3.here hx rfl (hb hby d1_18) rfl ?_
    refine XS.iloadN X3.here hx rfl (hb hby d1_19) rfl ?_
    exact k
  obtain ⟨_, _, ⟨T5, L5, k5, n5⟩, -, X5, ⟨Lc5, hQ5, l5, y5, z5⟩, st5⟩ := Jvm.LawKit.callS X3 hx (y := (⟨"com/example/bitmend/bitmend/CodeParameters", "columns", "(II)J"⟩ : MethodName)) hown (mvT hZ (hw _ (List.mem_of_getElem? (i := 12) rfl))) (mvT hZ (hw _ (List.mem_of_getElem? (i := 13) rfl))) (mvT hZ (hw _ (List.mem_of_getElem? (i := 14) rfl))) (mvT hZ (hw _ (List.mem_of_getElem? (i := 15) rfl))) (by decide) (backOf (W := 2) (rm3 l Z a0 hw [] (3 : Int32) (0 : Int32) h3 n0 (by decide)) hZ (hw _ (List.mem_of_getElem? (i := 15) rfl)) (hw _ (List.mem_of_getElem? (i := 14) rfl)) (by decide) (by decide)) (g := (mkF m 20 #[.val (.ref o0), .val (.int (3 : Int32)), .val (.ref b3), .val (.int (0 : Int32))] [(.int (0 : Int32)), (.int (3 : Int32)), (.int (0 : Int32)), (.ref b3)])) rfl (by rw [hml]; rfl) (argsL := [(.int (3 : Int32)), (.int (0 : Int32))]) (rest := [(.int (0 : Int32)), (.ref b3)]) (lenOf pd_2 rfl) rfl (by show 2 * 0 + _ ≤ _; exact Nat.le_of_eq rfl) (hb hby d1_20) (fun _ _ => ⟨rfl, e3, (by decide : 1 + 0 ≤ _), (by decide : 33 + 0 ≤ _)⟩)
  dsimp only [Pt.U, Pt.locs, Pt.cells, Pt.slots] at X5 l5 y5 z5 st5 hQ5
  subst l5 y5 z5
  obtain ⟨rfl, N5q, e5⟩ := hQ5
  have N5 := Fr.app N2 N5q
  obtain ⟨Lh5, X5, N5⟩ := hide X5 N5 (C := 1) (S := 33) (by decide) (by decide)
  refine Outs.of st5 ?_
  refine Outs.of (U' := T5.setTop (mkF m 25 #[.val (.ref o0), .val (.int (3 : Int32)), .val (.ref b3), .val (.int (0 : Int32))] [(.long ((F_f3 (3 : Int32) (0 : Int32)) + (1 : Int64))), (.int (0 : Int32)), (.ref b3)])) (fun t k => ?_) ?_
  · refine XS.lconst X5.here hx rfl (hb hby d1_23) ?_
    refine XS.ladd X5.here hx rfl (hb hby d1_24) rfl ?_
    exact k
  obtain ⟨T6, h6, X6, e6, W6, V6, st6⟩ := puJ X5 hx hZ e5 V3 (j := (0 : Int32)) (x := ((F_f3 (3 : Int32) (0 : Int32)) + (1 : Int64))) (k := 0) rfl (by decide) (f := (mkF m 25 #[.val (.ref o0), .val (.int (3 : Int32)), .val (.ref b3), .val (.int (0 : Int32))] [(.long ((F_f3 (3 : Int32) (0 : Int32)) + (1 : Int64))), (.int (0 : Int32)), (.ref b3)])) rfl rfl (hb hby d1_25)
  replace V6 : AJ Z h6 b3 .long 33 ct3_g25 := V6
  have N6 := Fr.snoc X6 N5 g_b3
  obtain ⟨Lh6, X6, N6⟩ := hide X6 N6 (C := 1) (S := 33) (by decide) (by decide)
  refine Outs.of st6 ?_
  refine Outs.of (U' := T6.setTop (mkF m 33 #[.val (.ref o0), .val (.int (3 : Int32)), .val (.ref b3), .val (.int (1 : Int32))] [(.int (0 : Int32)), (.ref b3)])) (fun t k => ?_) ?_
  · refine XS.iinc X6.here hx rfl (hb hby d1_26) rfl (l' := #[.val (.ref o0), .val (.int (3 : Int32)), .val (.ref b3), .val (.int (1 : Int32))]) rfl ?_
    refine XS.aloadN X6.here hx rfl (hb hby d1_29) rfl rfl ?_
    refine XS.iloadN X6.here hx rfl (hb hby d1_30) rfl ?_
    refine XS.iconst X6.here hx rfl (hb hby d1_31) ?_
    refine XS.isub X6.here hx rfl (hb hby d1_32) rfl ?_
    exact k
  refine Outs.of (ldJ X6 hx hZ e6 V6 (j := (0 : Int32)) (k := 0) rfl (by decide) (f := (mkF m 33 #[.val (.ref o0), .val (.int (3 : Int32)), .val (.ref b3), .val (.int (1 : Int32))] [(.int (0 : Int32)), (.ref b3)])) rfl rfl (hb hby d1_33)) ?_
  refine Outs.of (U' := T6.setTop (mkF m 20 #[.val (.ref o0), .val (.int (3 : Int32)), .val (.ref b3), .val (.int (1 : Int32))] [(.int (1 : Int32)), (.int (3 : Int32)), (.int (1 : Int32)), (.ref b3)])) (fun t k => ?_) ?_
  · refine X6.ldc2Long hx hown (mvT hZ (hw _ (List.mem_of_getElem? (i := 16) rfl))) (g := (mkF m 34 #[.val (.ref o0), .val (.int (3 : Int32)), .val (.ref b3), .val (.int (1 : Int32))] [(.long (ct3_g25 0))])) rfl (hb hby d1_34) _ ?_
    refine XS.lcmp X6.here hx rfl (hb hby d1_37) rfl ?_
    refine XS.ifYes X6.here hx rfl (pc0 := 38) (pc' := 16) rfl (hb hby d1_38) rfl ((if0 _ _).trans (flt (fun q_ => (show ¬ ((2147483647 : Int64) < (ct3_g25 0)) from (by decide +kernel)) ((lw_gt _ _).mp q_))).2.2.2) (by decide) (by decide) ?_
    refine XS.aloadN X6.here hx rfl (hb hby d1_16) rfl rfl ?_
    refine XS.iloadN X6.here hx rfl (hb hby d1_17) rfl ?_
    refine XS.iloadN X6.here hx rfl (hb hby d1_18) rfl ?_
    refine XS.iloadN X6.here hx rfl (hb hby d1_19) rfl ?_
    exact k
  obtain ⟨_, _, ⟨T7, L7, k7, n7⟩, -, X7, ⟨Lc7, hQ7, l7, y7, z7⟩, st7⟩ := Jvm.LawKit.callS X6 hx (y := (⟨"com/example/bitmend/bitmend/CodeParameters", "columns", "(II)J"⟩ : MethodName)) hown (mvT hZ (hw _ (List.mem_of_getElem? (i := 12) rfl))) (mvT hZ (hw _ (List.mem_of_getElem? (i := 13) rfl))) (mvT hZ (hw _ (List.mem_of_getElem? (i := 14) rfl))) (mvT hZ (hw _ (List.mem_of_getElem? (i := 15) rfl))) (by decide) (backOf (W := 2) (rm3 l Z a0 hw [] (3 : Int32) (1 : Int32) h6 n0 (by decide)) hZ (hw _ (List.mem_of_getElem? (i := 15) rfl)) (hw _ (List.mem_of_getElem? (i := 14) rfl)) (by decide) (by decide)) (g := (mkF m 20 #[.val (.ref o0), .val (.int (3 : Int32)), .val (.ref b3), .val (.int (1 : Int32))] [(.int (1 : Int32)), (.int (3 : Int32)), (.int (1 : Int32)), (.ref b3)])) rfl (by rw [hml]; rfl) (argsL := [(.int (3 : Int32)), (.int (1 : Int32))]) (rest := [(.int (1 : Int32)), (.ref b3)]) (lenOf pd_2 rfl) rfl (by show 2 * 0 + _ ≤ _; exact Nat.le_of_eq rfl) (hb hby d1_20) (fun _ _ => ⟨rfl, e6, (by decide : 1 + 0 ≤ _), (by decide : 33 + 0 ≤ _)⟩)
  dsimp only [Pt.U, Pt.locs, Pt.cells, Pt.slots] at X7 l7 y7 z7 st7 hQ7
  subst l7 y7 z7
  obtain ⟨rfl, N7q, e7⟩ := hQ7
  have N7 := Fr.app N6 N7q
  obtain ⟨Lh7, X7, N7⟩ := hide X7 N7 (C := 1) (S := 33) (by decide) (by decide)
  refine Outs.of st7 ?_
  refine Outs.of (U' := T7.setTop (mkF m 25 #[.val (.ref o0), .val (.int (3 : Int32)), .val (.ref b3), .val (.int (1 : Int32))] [(.long ((F_f3 (3 : Int32) (1 : Int32)) + (1 : Int64))), (.int (1 : Int32)), (.ref b3)])) (fun t k => ?_) ?_
  · refine XS.lconst X7.here hx rfl (hb hby d1_23) ?_
    refine XS.ladd X7.here hx rfl (hb hby d1_24) rfl ?_
    exact k
  obtain ⟨T8, h8, X8, e8, W8, V8, st8⟩ := puJ X7 hx hZ e7 V6 (j := (1 : Int32)) (x := ((F_f3 (3 : Int32) (1 : Int32)) + (1 : Int64))) (k := 1) rfl (by decide) (f := (mkF m 25 #[.val (.ref o0), .val (.int (3 : Int32)), .val (.ref b3), .val (.int (1 : Int32))] [(.long ((F_f3 (3 : Int32) (1 : Int32)) + (1 : Int64))), (.int (1 : Int32)), (.ref b3)])) rfl rfl (hb hby d1_25)
  replace V8 : AJ Z h8 b3 .long 33 ct3_g25a := V8
  have N8 := Fr.snoc X8 N7 g_b3
  obtain ⟨Lh8, X8, N8⟩ := hide X8 N8 (C := 1) (S := 33) (by decide) (by decide)
  refine Outs.of st8 ?_
  refine Outs.of (U' := T8.setTop (mkF m 33 #[.val (.ref o0), .val (.int (3 : Int32)), .val (.ref b3), .val (.int (2 : Int32))] [(.int (1 : Int32)), (.ref b3)])) (fun t k => ?_) ?_
  · refine XS.iinc X8.here hx rfl (hb hby d1_26) rfl (l' := #[.val (.ref o0), .val (.int (3 : Int32)), .val (.ref b3), .val (.int (2 : Int32))]) rfl ?_
    refine XS.aloadN X8.here hx rfl (hb hby d1_29) rfl rfl ?_
    refine XS.iloadN X8.here hx rfl (hb hby d1_30) rfl ?_
    refine XS.iconst X8.here hx rfl (hb hby d1_31) ?_
    refine XS.isub X8.here hx rfl (hb hby d1_32) rfl ?_
    exact k
  refine Outs.of (ldJ X8 hx hZ e8 V8 (j := (1 : Int32)) (k := 1) rfl (by decide) (f := (mkF m 33 #[.val (.ref o0), .val (.int (3 : Int32)), .val (.ref b3), .val (.int (2 : Int32))] [(.int (1 : Int32)), (.ref b3)])) rfl rfl (hb hby d1_33)) ?_
  refine Outs.of (U' := T8.setTop (mkF m 20 #[.val (.ref o0), .val (.int (3 : Int32)), .val (.ref b3), .val (.int (2 : Int32))] [(.int (2 : Int32)), (.int (3 : Int32)), (.int (2 : Int32)), (.ref b3)])) (fun t k => ?_) ?_
  · refine X8.ldc2Long hx hown (mvT hZ (hw _ (List.mem_of_getElem? (i := 16) rfl))) (g := (mkF m 34 #[.val (.ref o0), .val (.int (3 : Int32)), .val (.ref b3), .val (.int (2 : Int32))] [(.long (ct3_g25a 1))])) rfl (hb hby d1_34) _ ?_
    refine XS.lcmp X8.here hx rfl (hb hby d1_37) rfl ?_
    refine XS.ifYes X8.here hx rfl (pc0 := 38) (pc' := 16) rfl (hb hby d1_38) rfl ((if0 _ _).trans (flt (fun q_ => (show ¬ ((2147483647 : Int64) < (ct3_g25a 1)) from (by decide +kernel)) ((lw_gt _ _).mp q_))).2.2.2) (by decide) (by decide) ?_
    refine XS.aloadN X8.here hx rfl (hb hby d1_16) rfl rfl ?_
    refine XS.iloadN X8.here hx rfl (hb hby d1_17) rfl ?_
    refine XS.iloadN X8.here hx rfl (hb hby d1_18) rfl ?_
    refine XS.iloadN X8.here hx rfl (hb hby d1_19) rfl ?_
    exact k
  obtain ⟨_, _, ⟨T9, L9, k9, n9⟩, -, X9, ⟨Lc9, hQ9, l9, y9, z9⟩, st9⟩ := Jvm.LawKit.callS X8 hx (y := (⟨"com/example/bitmend/bitmend/CodeParameters", "columns", "(II)J"⟩ : MethodName)) hown (mvT hZ (hw _ (List.mem_of_getElem? (i := 12) rfl))) (mvT hZ (hw _ (List.mem_of_getElem? (i := 13) rfl))) (mvT hZ (hw _ (List.mem_of_getElem? (i := 14) rfl))) (mvT hZ (hw _ (List.mem_of_getElem? (i := 15) rfl))) (by decide) (backOf (W := 2) (rm3 l Z a0 hw [] (3 : Int32) (2 : Int32) h8 n0 (by decide)) hZ (hw _ (List.mem_of_getElem? (i := 15) rfl)) (hw _ (List.mem_of_getElem? (i := 14) rfl)) (by decide) (by decide)) (g := (mkF m 20 #[.val (.ref o0), .val (.int (3 : Int32)), .val (.ref b3), .val (.int (2 : Int32))] [(.int (2 : Int32)), (.int (3 : Int32)), (.int (2 : Int32)), (.ref b3)])) rfl (by rw [hml]; rfl) (argsL := [(.int (3 : Int32)), (.int (2 : Int32))]) (rest := [(.int (2 : Int32)), (.ref b3)]) (lenOf pd_2 rfl) rfl (by show 2 * 0 + _ ≤ _; exact Nat.le_of_eq rfl) (hb hby d1_20) (fun _ _ => ⟨rfl, e8, (by decide : 1 + 0 ≤ _), (by decide : 33 + 0 ≤ _)⟩)
  dsimp only [Pt.U, Pt.locs, Pt.cells, Pt.slots] at X9 l9 y9 z9 st9 hQ9
  subst l9 y9 z9
  obtain ⟨rfl, N9q, e9⟩ := hQ9
  have N9 := Fr.app N8 N9q
  obtain ⟨Lh9, X9, N9⟩ := hide X9 N9 (C := 1) (S := 33) (by decide) (by decide)
  refine Outs.of st9 ?_
  refine Outs.of (U' := T9.setTop (mkF m 25 #[.val (.ref o0), .val (.int (3 : Int32)), .val (.ref b3), .val (.int (2 : Int32))] [(.long ((F_f3 (3 : Int32) (2 : Int32)) + (1 : Int64))), (.int (2 : Int32)), (.ref b3)])) (fun t k => ?_) ?_
  · refine XS.lconst X9.here hx rfl (hb hby d1_23) ?_
    refine XS.ladd X9.here hx rfl (hb hby d1_24) rfl ?_
    exact k
  obtain ⟨T10, h10, X10, e10, W10, V10, st10⟩ := puJ X9 hx hZ e9 V8 (j := (2 : Int32)) (x := ((F_f3 (3 : Int32) (2 : Int32)) + (1 : Int64))) (k := 2) rfl (by decide) (f := (mkF m 25 #[.val (.ref o0), .val (.int (3 : Int32)), .val (.ref b3), .val (.int (2 : Int32))] [(.long ((F_f3 (3 : Int32) (2 : Int32)) + (1 : Int64))), (.int (2 : Int32)), (.ref b3)])) rfl rfl (hb hby d1_25)
  replace V10 : AJ Z h10 b3 .long 33 ct3_g25b := V10
  have N10 := Fr.snoc X10 N9 g_b3
  obtain ⟨Lh10, X10, N10⟩ := hide X10 N10 (C := 1) (S := 33) (by decide) (by decide)
  refine Outs.of st10 ?_
  refine Outs.of (U' := T10.setTop (mkF m 33 #[.val (.ref o0), .val (.int (3 : Int32)), .val (.ref b3), .val (.int (3 : Int32))] [(.int (2 : Int32)), (.ref b3)])) (fun t k => ?_) ?_
  · refine XS.iinc X10.here hx rfl (hb hby d1_26) rfl (l' := #[.val (.ref o0), .val (.int (3 : Int32)), .val (.ref b3), .val (.int (3 : Int32))]) rfl ?_
    refine XS.aloadN X10.here hx rfl (hb hby d1_29) rfl rfl ?_
    refine XS.iloadN X10.here hx rfl (hb hby d1_30) rfl ?_
    refine XS.iconst X10.here hx rfl (hb hby d1_31) ?_
    refine XS.isub X10.here hx rfl (hb hby d1_32) rfl ?_
    exact k
  refine Outs.of (ldJ X10 hx hZ e10 V10 (j := (2 : Int32)) (k := 2) rfl (by decide) (f := (mkF m 33 #[.val (.ref o0), .val (.int (3 : Int32)), .val (.ref b3), .val (.int (3 : Int32))] [(.int (2 : Int32)), (.ref b3)])) rfl rfl (hb hby d1_33)) ?_
  refine Outs.of (U' := T10.setTop (mkF m 20 #[.val (.ref o0), .val (.int (3 : Int32)), .val (.ref b3), .val (.int (3 : Int32))] [(.int (3 : Int32)), (.int (3 : Int32)), (.int (3 : Int32)), (.ref b3)])) (fun t k => ?_) ?_
  · refine X10.ldc2Long hx hown (mvT hZ (hw _ (List.mem_of_getElem? (i := 16) rfl))) (g := (mkF m 34 #[.val (.ref o0), .val (.int (3 : Int32)), .val (.ref b3), .val (.int (3 : Int32))] [(.long (ct3_g25b 2))])) rfl (hb hby d1_34) _ ?_
    refine XS.lcmp X10.here hx rfl (hb hby d1_37) rfl ?_
    refine XS.ifYes X10.here hx rfl (pc0 := 38) (pc' := 16) rfl (hb hby d1_38) rfl ((if0 _ _).trans (flt (fun q_ => (show ¬ ((2147483647 : Int64) < (ct3_g25b 2)) from (by decide +kernel)) ((lw_gt _ _).mp q_))).2.2.2) (by decide) (by decide) ?_
    refine XS.aloadN X10.here hx rfl (hb hby d1_16) rfl rfl ?_
    refine XS.iloadN X10.here hx rfl (hb hby d1_17) rfl ?_
    refine XS.iloadN X10.here hx rfl (hb hby d1_18) rfl ?_
    refine XS.iloadN X10.here hx rfl (hb hby d1_19) rfl ?_
    exact k
  obtain ⟨_, _, ⟨T11, L11, k11, n11⟩, -, X11, ⟨Lc11, hQ11, l11, y11, z11⟩, st11⟩ := Jvm.LawKit.callS X10 hx (y := (⟨"com/example/bitmend/bitmend/CodeParameters", "columns", "(II)J"⟩ : MethodName)) hown (mvT hZ (hw _ (List.mem_of_getElem? (i := 12) rfl))) (mvT hZ (hw _ (List.mem_of_getElem? (i := 13) rfl))) (mvT hZ (hw _ (List.mem_of_getElem? (i := 14) rfl))) (mvT hZ (hw _ (List.mem_of_getElem? (i := 15) rfl))) (by decide) (backOf (W := 2) (rm3 l Z a0 hw [] (3 : Int32) (3 : Int32) h10 n0 (by decide)) hZ (hw _ (List.mem_of_getElem? (i := 15) rfl)) (hw _ (List.mem_of_getElem? (i := 14) rfl)) (by decide) (by decide)) (g := (mkF m 20 #[.val (.ref o0), .val (.int (3 : Int32)), .val (.ref b3), .val (.int (3 : Int32))] [(.int (3 : Int32)), (.int (3 : Int32)), (.int (3 : Int32)), (.ref b3)])) rfl (by rw [hml]; rfl) (argsL := [(.int (3 : Int32)), (.int (3 : Int32))]) (rest := [(.int (3 : Int32)), (.ref b3)]) (lenOf pd_2 rfl) rfl (by show 2 * 0 + _ ≤ _; exact Nat.le_of_eq rfl) (hb hby d1_20) (fun _ _ => ⟨rfl, e10, (by decide : 1 + 0 ≤ _), (by decide : 33 + 0 ≤ _)⟩)
  dsimp only [Pt.U, Pt.locs, Pt.cells, Pt.slots] at X11 l11 y11 z11 st11 hQ11
  subst l11 y11 z11
  obtain ⟨rfl, N11q, e11⟩ := hQ11
  have N11 := Fr.app N10 N11q
  obtain ⟨Lh11, X11, N11⟩ := hide X11 N11 (C := 1) (S := 33) (by decide) (by decide)
  refine Outs.of st11 ?_
  refine Outs.of (U' := T11.setTop (mkF m 25 #[.val (.ref o0), .val (.int (3 : Int32)), .val (.ref b3), .val (.int (3 : Int32))] [(.long ((F_f3 (3 : Int32) (3 : Int32)) + (1 : Int64))), (.int (3 : Int32)), (.ref b3)])) (fun t k => ?_) ?_
  · refine XS.lconst X11.here hx rfl (hb hby d1_23) ?_
    refine XS.ladd X11.here hx rfl (hb hby d1_24) rfl ?_
    exact k
  obtain ⟨T12, h12, X12, e12, W12, V12, st12⟩ := puJ X11 hx hZ e11 V10 (j := (3 : Int32)) (x := ((F_f3 (3 : Int32) (3 : Int32)) + (1 : Int64))) (k := 3) rfl (by decide) (f := (mkF m 25 #[.val (.ref o0), .val (.int (3 : Int32)), .val (.ref b3), .val (.int (3 : Int32))] [(.long ((F_f3 (3 : Int32) (3 : Int32)) + (1 : Int64))), (.int (3 : Int32)), (.ref b3)])) rfl rfl (hb hby d1_25)
  replace V12 : AJ Z h12 b3 .long 33 ct3_g25c := V12
  have N12 := Fr.snoc X12 N11 g_b3
  obtain ⟨Lh12, X12, N12⟩ := hide X12 N12 (C := 1) (S := 33) (by decide) (by decide)
  refine Outs.of st12 ?_
  refine Outs.of (U' := T12.setTop (mkF m 33 #[.val (.ref o0), .val (.int (3 : Int32)), .val (.ref b3), .val (.int (4 : Int32))] [(.int (3 : Int32)), (.ref b3)])) (fun t k => ?_) ?_
  · refine XS.iinc X12.here hx rfl (hb hby d1_26) rfl (l' := #[.val (.ref o0), .val (.int (3 : Int32)), .val (.ref b3), .val (.int (4 : Int32))]) rfl ?_
    refine XS.aloadN X12.here hx rfl (hb hby d1_29) rfl rfl ?_
    refine XS.iloadN X12.here hx rfl (hb hby d1_30) rfl ?_
    refine XS.iconst X12.here hx rfl (hb hby d1_31) ?_
    refine XS.isub X12.here hx rfl (hb hby d1_32) rfl ?_
    exact k
  refine Outs.of (ldJ X12 hx hZ e12 V12 (j := (3 : Int32)) (k := 3) rfl (by decide) (f := (mkF m 33 #[.val (.ref o0), .val (.int (3 : Int32)), .val (.ref b3), .val (.int (4 : Int32))] [(.int (3 : Int32)), (.ref b3)])) rfl rfl (hb hby d1_33)) ?_
  refine Outs.of (U' := T12.setTop (mkF m 20 #[.val (.ref o0), .val (.int (3 : Int32)), .val (.ref b3), .val (.int (4 : Int32))] [(.int (4 : Int32)), (.int (3 : Int32)), (.int (4 : Int32)), (.ref b3)])) (fun t k => ?_) ?_
  · refine X12.ldc2Long hx hown (mvT hZ (hw _ (List.mem_of_getElem? (i := 16) rfl))) (g := (mkF m 34 #[.val (.ref o0), .val (.int (3 : Int32)), .val (.ref b3), .val (.int (4 : Int32))] [(.long (ct3_g25c 3))])) rfl (hb hby d1_34) _ ?_
    refine XS.lcmp X12.here hx rfl (hb hby d1_37) rfl ?_
    refine XS.ifYes X12.here hx rfl (pc0 := 38) (pc' := 16) rfl (hb hby d1_38) rfl ((if0 _ _).trans (flt (fun q_ => (show ¬ ((2147483647 : Int64) < (ct3_g25c 3)) from (by decide +kernel)) ((lw_gt _ _).mp q_))).2.2.2) (by decide) (by decide) ?_
    refine XS.aloadN X12.here hx rfl (hb hby d1_16) rfl rfl ?_
    refine XS.iloadN X12.here hx rfl (hb hby d1_17) rfl ?_
    refine XS.iloadN X12.here hx rfl (hb hby d1_18) rfl ?_
    refine XS.iloadN X12.here hx rfl (hb hby d1_19) rfl ?_
    exact k
  obtain ⟨_, _, ⟨T13, L13, k13, n13⟩, -, X13, ⟨Lc13, hQ13, l13, y13, z13⟩, st13⟩ := Jvm.LawKit.callS X12 hx (y := (⟨"com/example/bitmend/bitmend/CodeParameters", "columns", "(II)J"⟩ : MethodName)) hown (mvT hZ (hw _ (List.mem_of_getElem? (i := 12) rfl))) (mvT hZ (hw _ (List.mem_of_getElem? (i := 13) rfl))) (mvT hZ (hw _ (List.mem_of_getElem? (i := 14) rfl))) (mvT hZ (hw _ (List.mem_of_getElem? (i := 15) rfl))) (by decide) (backOf (W := 2) (rm3 l Z a0 hw [] (3 : Int32) (4 : Int32) h12 n0 (by decide)) hZ (hw _ (List.mem_of_getElem? (i := 15) rfl)) (hw _ (List.mem_of_getElem? (i := 14) rfl)) (by decide) (by decide)) (g := (mkF m 20 #[.val (.ref o0), .val (.int (3 : Int32)), .val (.ref b3), .val (.int (4 : Int32))] [(.int (4 : Int32)), (.int (3 : Int32)), (.int (4 : Int32)), (.ref b3)])) rfl (by rw [hml]; rfl) (argsL := [(.int (3 : Int32)), (.int (4 : Int32))]) (rest := [(.int (4 : Int32)), (.ref b3)]) (lenOf pd_2 rfl) rfl (by show 2 * 0 + _ ≤ _; exact Nat.le_of_eq rfl) (hb hby d1_20) (fun _ _ => ⟨rfl, e12, (by decide : 1 + 0 ≤ _), (by decide : 33 + 0 ≤ _)⟩)
  dsimp only [Pt.U, Pt.locs, Pt.cells, Pt.slots] at X13 l13 y13 z13 st13 hQ13
  subst l13 y13 z13
  obtain ⟨rfl, N13q, e13⟩ := hQ13
  have N13 := Fr.app N12 N13q
  obtain ⟨Lh13, X13, N13⟩ := hide X13 N13 (C := 1) (S := 33) (by decide) (by decide)
  refine Outs.of st13 ?_
  refine Outs.of (U' := T13.setTop (mkF m 25 #[.val (.ref o0), .val (.int (3 : Int32)), .val (.ref b3), .val (.int (4 : Int32))] [(.long ((F_f3 (3 : Int32) (4 : Int32)) + (1 : Int64))), (.int (4 : Int32)), (.ref b3)])) (fun t k => ?_) ?_
  · refine XS.lconst X13.here hx rfl (hb hby d1_23) ?_
    refine XS.ladd X13.here hx rfl (hb hby d1_24) rfl ?_
    exact k
  obtain ⟨T14, h14, X14, e14, W14, V14, st14⟩ := puJ X13 hx hZ e13 V12 (j := (4 : Int32)) (x := ((F_f3 (3 : Int32) (4 : Int32)) + (1 : Int64))) (k := 4) rfl (by decide) (f := (mkF m 25 #[.val (.ref o0), .val (.int (3 : Int32)), .val (.ref b3), .val (.int (4 : Int32))] [(.long ((F_f3 (3 : Int32) (4 : Int32)) + (1 : Int64))), (.int (4 : Int32)), (.ref b3)])) rfl rfl (hb hby d1_25)
  replace V14 : AJ Z h14 b3 .long 33 ct3_g25d := V14
  have N14 := Fr.snoc X14 N13 g_b3
  obtain ⟨Lh14, X14, N14⟩ := hide X14 N14 (C := 1) (S := 33) (by decide) (by decide)
  refine Outs.of st14 ?_
  refine Outs.of (U' := T14.setTop (mkF m 33 #[.val (.ref o0), .val (.int (3 : Int32)), .val (.ref b3), .val (.int (5 : Int32))] [(.int (4 : Int32)), (.ref b3)])) (fun t k => ?_) ?_
  · refine XS.iinc X14.here hx rfl (hb hby d1_26) rfl (l' := #[.val (.ref o0), .val (.int (3 : Int32)), .val (.ref b3), .val (.int (5 : Int32))]) rfl ?_
    refine XS.aloadN X14.here hx rfl (hb hby d1_29) rfl rfl ?_
    refine XS.iloadN X14.here hx rfl (hb hby d1_30) rfl ?_
    refine XS.iconst X14.here hx rfl (hb hby d1_31) ?_
    refine XS.isub X14.here hx rfl (hb hby d1_32) rfl ?_
    exact k
  refine Outs.of (ldJ X14 hx hZ e14 V14 (j := (4 : Int32)) (k := 4) rfl (by decide) (f := (mkF m 33 #[.val (.ref o0), .val (.int (3 : Int32)), .val (.ref b3), .val (.int (5 : Int32))] [(.int (4 : Int32)), (.ref b3)])) rfl rfl (hb hby d1_33)) ?_
  refine Outs.of (U' := T14.setTop (mkF m 20 #[.val (.ref o0), .val (.int (3 : Int32)), .val (.ref b3), .val (.int (5 : Int32))] [(.int (5 : Int32)), (.int (3 : Int32)), (.int (5 : Int32)), (.ref b3)])) (fun t k => ?_) ?_
  · refine X14.ldc2Long hx hown (mvT hZ (hw _ (List.mem_of_getElem? (i := 16) rfl))) (g := (mkF m 34 #[.val (.ref o0), .val (.int (3 : Int32)), .val (.ref b3), .val (.int (5 : Int32))] [(.long (ct3_g25d 4))])) rfl (hb hby d1_34) _ ?_
    refine XS.lcmp X14.here hx rfl (hb hby d1_37) rfl ?_
    refine XS.ifYes X14.here hx rfl (pc0 := 38) (pc' := 16) rfl (hb hby d1_38) rfl ((if0 _ _).trans (flt (fun q_ => (show ¬ ((2147483647 : Int64) < (ct3_g25d 4)) from (by decide +kernel)) ((lw_gt _ _).mp q_))).2.2.2) (by decide) (by decide) ?_
    refine XS.aloadN X14.here hx rfl (hb hby d1_16) rfl rfl ?_
    refine XS.iloadN X14.here hx rfl (hb hby d1_17) rfl ?_
    refine XS.iloadN X14.here hx rfl (hb hby d1_18) rfl ?_
    refine XS.iloadN X14.here hx rfl (hb hby d1_19) rfl ?_
    exact k
  obtain ⟨_, _, ⟨T15, L15, k15, n15⟩, -, X15, ⟨Lc15, hQ15, l15, y15, z15⟩, st15⟩ := Jvm.LawKit.callS X14 hx (y := (⟨"com/example/bitmend/bitmend/CodeParameters", "columns", "(II)J"⟩ : MethodName)) hown (mvT hZ (hw _ (List.mem_of_getElem? (i := 12) rfl))) (mvT hZ (hw _ (List.mem_of_getElem? (i := 13) rfl))) (mvT hZ (hw _ (List.mem_of_getElem? (i := 14) rfl))) (mvT hZ (hw _ (List.mem_of_getElem? (i := 15) rfl))) (by decide) (backOf (W := 2) (rm3 l Z a0 hw [] (3 : Int32) (5 : Int32) h14 n0 (by decide)) hZ (hw _ (List.mem_of_getElem? (i := 15) rfl)) (hw _ (List.mem_of_getElem? (i := 14) rfl)) (by decide) (by decide)) (g := (mkF m 20 #[.val (.ref o0), .val (.int (3 : Int32)), .val (.ref b3), .val (.int (5 : Int32))] [(.int (5 : Int32)), (.int (3 : Int32)), (.int (5 : Int32)), (.ref b3)])) rfl (by rw [hml]; rfl) (argsL := [(.int (3 : Int32)), (.int (5 : Int32))]) (rest := [(.int (5 : Int32)), (.ref b3)]) (lenOf pd_2 rfl) rfl (by show 2 * 0 + _ ≤ _; exact Nat.le_of_eq rfl) (hb hby d1_20) (fun _ _ => ⟨rfl, e14, (by decide : 1 + 0 ≤ _), (by decide : 33 + 0 ≤ _)⟩)
  dsimp only [Pt.U, Pt.locs, Pt.cells, Pt.slots] at X15 l15 y15 z15 st15 hQ15
  subst l15 y15 z15
  obtain ⟨rfl, N15q, e15⟩ := hQ15
  have N15 := Fr.app N14 N15q
  obtain ⟨Lh15, X15, N15⟩ := hide X15 N15 (C := 1) (S := 33) (by decide) (by decide)
  refine Outs.of st15 ?_
  refine Outs.of (U' := T15.setTop (mkF m 25 #[.val (.ref o0), .val (.int (3 : Int32)), .val (.ref b3), .val (.int (5 : Int32))] [(.long ((F_f3 (3 : Int32) (5 : Int32)) + (1 : Int64))), (.int (5 : Int32)), (.ref b3)])) (fun t k => ?_) ?_
  · refine XS.lconst X15.here hx rfl (hb hby d1_23) ?_
    refine XS.ladd X15.here hx rfl (hb hby d1_24) rfl ?_
    exact k
  obtain ⟨T16, h16, X16, e16, W16, V16, st16⟩ := puJ X15 hx hZ e15 V14 (j := (5 : Int32)) (x := ((F_f3 (3 : Int32) (5 : Int32)) + (1 : Int64))) (k := 5) rfl (by decide) (f := (mkF m 25 #[.val (.ref o0), .val (.int (3 : Int32)), .val (.ref b3), .val (.int (5 : Int32))] [(.long ((F_f3 (3 : Int32) (5 : Int32)) + (1 : Int64))), (.int (5 : Int32)), (.ref b3)])) rfl rfl (hb hby d1_25)
  replace V16 : AJ Z h16 b3 .long 33 ct3_g25e := V16
  have N16 := Fr.snoc X16 N15 g_b3
  obtain ⟨Lh16, X16, N16⟩ := hide X16 N16 (C := 1) (S := 33) (by decide) (by decide)
  refine Outs.of st16 ?_
  refine Outs.of (U' := T16.setTop (mkF m 33 #[.val (.ref o0), .val (.int (3 : Int32)), .val (.ref b3), .val (.int (6 : Int32))] [(.int (5 : Int32)), (.ref b3)])) (fun t k => ?_) ?_
  · refine XS.iinc X16.here hx rfl (hb hby d1_26) rfl (l' := #[.val (.ref o0), .val (.int (3 : Int32)), .val (.ref b3), .val (.int (6 : Int32))]) rfl ?_
    refine XS.aloadN X16.here hx rfl (hb hby d1_29) rfl rfl ?_
    refine XS.iloadN X16.here hx rfl (hb hby d1_30) rfl ?_
    refine XS.iconst X16.here hx rfl (hb hby d1_31) ?_
    refine XS.isub X16.here hx rfl (hb hby d1_32) rfl ?_
    exact k
  refine Outs.of (ldJ X16 hx hZ e16 V16 (j := (5 : Int32)) (k := 5) rfl (by decide) (f := (mkF m 33 #[.val (.ref o0), .val (.int (3 : Int32)), .val (.ref b3), .val (.int (6 : Int32))] [(.int (5 : Int32)), (.ref b3)])) rfl rfl (hb hby d1_33)) ?_
  refine Outs.of (U' := T16.setTop (mkF m 20 #[.val (.ref o0), .val (.int (3 : Int32)), .val (.ref b3), .val (.int (6 : Int32))] [(.int (6 : Int32)), (.int (3 : Int32)), (.int (6 : Int32)), (.ref b3)])) (fun t k => ?_) ?_
  · refine X16.ldc2Long hx hown (mvT hZ (hw _ (List.mem_of_getElem? (i := 16) rfl))) (g := (mkF m 34 #[.val (.ref o0), .val (.int (3 : Int32)), .val (.ref b3), .val (.int (6 : Int32))] [(.long (ct3_g25e 5))])) rfl (hb hby d1_34) _ ?_
    refine XS.lcmp X16.here hx rfl (hb hby d1_37) rfl ?_
    refine XS.ifYes X16.here hx rfl (pc0 := 38) (pc' := 16) rfl (hb hby d1_38) rfl ((if0 _ _).trans (flt (fun q_ => (show ¬ ((2147483647 : Int64) < (ct3_g25e 5)) from (by decide +kernel)) ((lw_gt _ _).mp q_))).2.2.2) (by decide) (by decide) ?_
    refine XS.aloadN X16.here hx rfl (hb hby d1_16) rfl rfl ?_
    refine XS.iloadN X16.here hx rfl (hb hby d1_17) rfl ?_
    refine XS.iloadN X16.here hx rfl (hb hby d1_18) rfl ?_
    refine XS.iloadN X16.here hx rfl (hb hby d1_19) rfl ?_
    exact k
  obtain ⟨_, _, ⟨T17, L17, k17, n17⟩, -, X17, ⟨Lc17, hQ17, l17, y17, z17⟩, st17⟩ := Jvm.LawKit.callS X16 hx (y := (⟨"com/example/bitmend/bitmend/CodeParameters", "columns", "(II)J"⟩ : MethodName)) hown (mvT hZ (hw _ (List.mem_of_getElem? (i := 12) rfl))) (mvT hZ (hw _ (List.mem_of_getElem? (i := 13) rfl))) (mvT hZ (hw _ (List.mem_of_getElem? (i := 14) rfl))) (mvT hZ (hw _ (List.mem_of_getElem? (i := 15) rfl))) (by decide) (backOf (W := 2) (rm3 l Z a0 hw [] (3 : Int32) (6 : Int32) h16 n0 (by decide)) hZ (hw _ (List.mem_of_getElem? (i := 15) rfl)) (hw _ (List.mem_of_getElem? (i := 14) rfl)) (by decide) (by decide)) (g := (mkF m 20 #[.val (.ref o0), .val (.int (3 : Int32)), .val (.ref b3), .val (.int (6 : Int32))] [(.int (6 : Int32)), (.int (3 : Int32)), (.int (6 : Int32)), (.ref b3)])) rfl (by rw [hml]; rfl) (argsL := [(.int (3 : Int32)), (.int (6 : Int32))]) (rest := [(.int (6 : Int32)), (.ref b3)]) (lenOf pd_2 rfl) rfl (by show 2 * 0 + _ ≤ _; exact Nat.le_of_eq rfl) (hb hby d1_20) (fun _ _ => ⟨rfl, e16, (by decide : 1 + 0 ≤ _), (by decide : 33 + 0 ≤ _)⟩)
  dsimp only [Pt.U, Pt.locs, Pt.cells, Pt.slots] at X17 l17 y17 z17 st17 hQ17
  subst l17 y17 z17
  obtain ⟨rfl, N17q, e17⟩ := hQ17
  have N17 := Fr.app N16 N17q
  obtain ⟨Lh17, X17, N17⟩ := hide X17 N17 (C := 1) (S := 33) (by decide) (by decide)
  refine Outs.of st17 ?_
  refine Outs.of (U' := T17.setTop (mkF m 25 #[.val (.ref o0), .val (.int (3 : Int32)), .val (.ref b3), .val (.int (6 : Int32))] [(.long ((F_f3 (3 : Int32) (6 : Int32)) + (1 : Int64))), (.int (6 : Int32)), (.ref b3)])) (fun t k => ?_) ?_
  · refine XS.lconst X17.here hx rfl (hb hby d1_23) ?_
    refine XS.ladd X17.here hx rfl (hb hby d1_24) rfl ?_
    exact k
  obtain ⟨T18, h18, X18, e18, W18, V18, st18⟩ := puJ X17 hx hZ e17 V16 (j := (6 : Int32)) (x := ((F_f3 (3 : Int32) (6 : Int32)) + (1 : Int64))) (k := 6) rfl (by decide) (f := (mkF m 25 #[.val (.ref o0), .val (.int (3 : Int32)), .val (.ref b3), .val (.int (6 : Int32))] [(.long ((F_f3 (3 : Int32) (6 : Int32)) + (1 : Int64))), (.int (6 : Int32)), (.ref b3)])) rfl rfl (hb hby d1_25)
  replace V18 : AJ Z h18 b3 .long 33 ct3_g25f := V18
  have N18 := Fr.snoc X18 N17 g_b3
  obtain ⟨Lh18, X18, N18⟩ := hide X18 N18 (C := 1) (S := 33) (by decide) (by decide)
  refine Outs.of st18 ?_
  refine Outs.of (U' := T18.setTop (mkF m 33 #[.val (.ref o0), .val (.int (3 : Int32)), .val (.ref b3), .val (.int (7 : Int32))] [(.int (6 : Int32)), (.ref b3)])) (fun t k => ?_) ?_
  · refine XS.iinc X18.here hx rfl (hb hby d1_26) rfl (l' := #[.val (.ref o0), .val (.int (3 : Int32)), .val (.ref b3), .val (.int (7 : Int32))]) rfl ?_
    refine XS.aloadN X18.here hx rfl (hb hby d1_29) rfl rfl ?_
    refine XS.iloadN X18.here hx rfl (hb hby d1_30) rfl ?_
    refine XS.iconst X18.here hx rfl (hb hby d1_31) ?_
    refine XS.isub X18.here hx rfl (hb hby d1_32) rfl ?_
    exact k
  refine Outs.of (ldJ X18 hx hZ e18 V18 (j := (6 : Int32)) (k := 6) rfl (by decide) (f := (mkF m 33 #[.val (.ref o0), .val (.int (3 : Int32)), .val (.ref b3), .val (.int (7 : Int32))] [(.int (6 : Int32)), (.ref b3)])) rfl rfl (hb hby d1_33)) ?_
  refine Outs.of (U' := T18.setTop (mkF m 20 #[.val (.ref o0), .val (.int (3 : Int32)), .val (.ref b3), .val (.int (7 : Int32))] [(.int (7 : Int32)), (.int (3 : Int32)), (.int (7 : Int32)), (.ref b3)])) (fun t k => ?_) ?_
  · refine X18.ldc2Long hx hown (mvT hZ (hw _ (List.mem_of_getElem? (i := 16) rfl))) (g := (mkF m 34 #[.val (.ref o0), .val (.int (3 : Int32)), .val (.ref b3), .val (.int (7 : Int32))] [(.long (ct3_g25f 6))])) rfl (hb hby d1_34) _ ?_
    refine XS.lcmp X18.here hx rfl (hb hby d1_37) rfl ?_
    refine XS.ifYes X18.here hx rfl (pc0 := 38) (pc' := 16) rfl (hb hby d1_38) rfl ((if0 _ _).trans (flt (fun q_ => (show ¬ ((2147483647 : Int64) < (ct3_g25f 6)) from (by decide +kernel)) ((lw_gt _ _).mp q_))).2.2.2) (by decide) (by decide) ?_
    refine XS.aloadN X18.here hx rfl (hb hby d1_16) rfl rfl ?_
    refine XS.iloadN X18.here hx rfl (hb hby d1_17) rfl ?_
    refine XS.iloadN X18.here hx rfl (hb hby d1_18) rfl ?_
    refine XS.iloadN X18.here hx rfl (hb hby d1_19) rfl ?_
    exact k
  obtain ⟨_, _, ⟨T19, L19, k19, n19⟩, -, X19, ⟨Lc19, hQ19, l19, y19, z19⟩, st19⟩ := Jvm.LawKit.callS X18 hx (y := (⟨"com/example/bitmend/bitmend/CodeParameters", "columns", "(II)J"⟩ : MethodName)) hown (mvT hZ (hw _ (List.mem_of_getElem? (i := 12) rfl))) (mvT hZ (hw _ (List.mem_of_getElem? (i := 13) rfl))) (mvT hZ (hw _ (List.mem_of_getElem? (i := 14) rfl))) (mvT hZ (hw _ (List.mem_of_getElem? (i := 15) rfl))) (by decide) (backOf (W := 2) (rm3 l Z a0 hw [] (3 : Int32) (7 : Int32) h18 n0 (by decide)) hZ (hw _ (List.mem_of_getElem? (i := 15) rfl)) (hw _ (List.mem_of_getElem? (i := 14) rfl)) (by decide) (by decide)) (g := (mkF m 20 #[.val (.ref o0), .val (.int (3 : Int32)), .val (.ref b3), .val (.int (7 : Int32))] [(.int (7 : Int32)), (.int (3 : Int32)), (.int (7 : Int32)), (.ref b3)])) rfl (by rw [hml]; rfl) (argsL := [(.int (3 : Int32)), (.int (7 : Int32))]) (rest := [(.int (7 : Int32)), (.ref b3)]) (lenOf pd_2 rfl) rfl (by show 2 * 0 + _ ≤ _; exact Nat.le_of_eq rfl) (hb hby d1_20) (fun _ _ => ⟨rfl, e18, (by decide : 1 + 0 ≤ _), (by decide : 33 + 0 ≤ _)⟩)
  dsimp only [Pt.U, Pt.locs, Pt.cells, Pt.slots] at X19 l19 y19 z19 st19 hQ19
  subst l19 y19 z19
  obtain ⟨rfl, N19q, e19⟩ := hQ19
  have N19 := Fr.app N18 N19q
  obtain ⟨Lh19, X19, N19⟩ := hide X19 N19 (C := 1) (S := 33) (by decide) (by decide)
  refine Outs.of st19 ?_
  refine Outs.of (U' := T19.setTop (mkF m 25 #[.val (.ref o0), .val (.int (3 : Int32)), .val (.ref b3), .val (.int (7 : Int32))] [(.long ((F_f3 (3 : Int32) (7 : Int32)) + (1 : Int64))), (.int (7 : Int32)), (.ref b3)])) (fun t k => ?_) ?_
  · refine XS.lconst X19.here hx rfl (hb hby d1_23) ?_
    refine XS.ladd X19.here hx rfl (hb hby d1_24) rfl ?_
    exact k
  obtain ⟨T20, h20, X20, e20, W20, V20, st20⟩ := puJ X19 hx hZ e19 V18 (j := (7 : Int32)) (x := ((F_f3 (3 : Int32) (7 : Int32)) + (1 : Int64))) (k := 7) rfl (by decide) (f := (mkF m 25 #[.val (.ref o0), .val (.int (3 : Int32)), .val (.ref b3), .val (.int (7 : Int32))] [(.long ((F_f3 (3 : Int32) (7 : Int32)) + (1 : Int64))), (.int (7 : Int32)), (.ref b3)])) rfl rfl (hb hby d1_25)
  replace V20 : AJ Z h20 b3 .long 33 ct3_g25g := V20
  have N20 := Fr.snoc X20 N19 g_b3
  obtain ⟨Lh20, X20, N20⟩ := hide X20 N20 (C := 1) (S := 33) (by decide) (by decide)
  refine Outs.of st20 ?_
  refine Outs.of (U' := T20.setTop (mkF m 33 #[.val (.ref o0), .val (.int (3 : Int32)), .val (.ref b3), .val (.int (8 : Int32))] [(.int (7 : Int32)), (.ref b3)])) (fun t k => ?_) ?_
  · refine XS.iinc X20.here hx rfl (hb hby d1_26) rfl (l' := #[.val (.ref o0), .val (.int (3 : Int32)), .val (.ref b3), .val (.int (8 : Int32))]) rfl ?_
    refine XS.aloadN X20.here hx rfl (hb hby d1_29) rfl rfl ?_
    refine XS.iloadN X20.here hx rfl (hb hby d1_30) rfl ?_
    refine XS.iconst X20.here hx rfl (hb hby d1_31) ?_
    refine XS.isub X20.here hx rfl (hb hby d1_32) rfl ?_
    exact k
  refine Outs.of (ldJ X20 hx hZ e20 V20 (j := (7 : Int32)) (k := 7) rfl (by decide) (f := (mkF m 33 #[.val (.ref o0), .val (.int (3 : Int32)), .val (.ref b3), .val (.int (8 : Int32))] [(.int (7 : Int32)), (.ref b3)])) rfl rfl (hb hby d1_33)) ?_
  refine Outs.of (U' := T20.setTop (mkF m 20 #[.val (.ref o0), .val (.int (3 : Int32)), .val (.ref b3), .val (.int (8 : Int32))] [(.int (8 : Int32)), (.int (3 : Int32)), (.int (8 : Int32)), (.ref b3)])) (fun t k => ?_) ?_
  · refine X20.ldc2Long hx hown (mvT hZ (hw _ (List.mem_of_getElem? (i := 16) rfl))) (g := (mkF m 34 #[.val (.ref o0), .val (.int (3 : Int32)), .val (.ref b3), .val (.int (8 : Int32))] [(.long (ct3_g25g 7))])) rfl (hb hby d1_34) _ ?_
    refine XS.lcmp X20.here hx rfl (hb hby d1_37) rfl ?_
    refine XS.ifYes X20.here hx rfl (pc0 := 38) (pc' := 16) rfl (hb hby d1_38) rfl ((if0 _ _).trans (flt (fun q_ => (show ¬ ((2147483647 : Int64) < (ct3_g25g 7)) from (by decide +kernel)) ((lw_gt _ _).mp q_))).2.2.2) (by decide) (by decide) ?_
    refine XS.aloadN X20.here hx rfl (hb hby d1_16) rfl rfl ?_
    refine XS.iloadN X20.here hx rfl (hb hby d1_17) rfl ?_
    refine XS.iloadN X20.here hx rfl (hb hby d1_18) rfl ?_
    refine XS.iloadN X20.here hx rfl (hb hby d1_19) rfl ?_
    exact k
  obtain ⟨_, _, ⟨T21, L21, k21, n21⟩, -, X21, ⟨Lc21, hQ21, l21, y21, z21⟩, st21⟩ := Jvm.LawKit.callS X20 hx (y := (⟨"com/example/bitmend/bitmend/CodeParameters", "columns", "(II)J"⟩ : MethodName)) hown (mvT hZ (hw _ (List.mem_of_getElem? (i := 12) rfl))) (mvT hZ (hw _ (List.mem_of_getElem? (i := 13) rfl))) (mvT hZ (hw _ (List.mem_of_getElem? (i := 14) rfl))) (mvT hZ (hw _ (List.mem_of_getElem? (i := 15) rfl))) (by decide) (backOf (W := 2) (rm3 l Z a0 hw [] (3 : Int32) (8 : Int32) h20 n0 (by decide)) hZ (hw _ (List.mem_of_getElem? (i := 15) rfl)) (hw _ (List.mem_of_getElem? (i := 14) rfl)) (by decide) (by decide)) (g := (mkF m 20 #[.val (.ref o0), .val (.int (3 : Int32)), .val (.ref b3), .val (.int (8 : Int32))] [(.int (8 : Int32)), (.int (3 : Int32)), (.int (8 : Int32)), (.ref b3)])) rfl (by rw [hml]; rfl) (argsL := [(.int (3 : Int32)), (.int (8 : Int32))]) (rest := [(.int (8 : Int32)), (.ref b3)]) (lenOf pd_2 rfl) rfl (by show 2 * 0 + _ ≤ _; exact Nat.le_of_eq rfl) (hb hby d1_20) (fun _ _ => ⟨rfl, e20, (by decide : 1 + 0 ≤ _), (by decide : 33 + 0 ≤ _)⟩)
  dsimp only [Pt.U, Pt.locs, Pt.cells, Pt.slots] at X21 l21 y21 z21 st21 hQ21
  subst l21 y21 z21
  obtain ⟨rfl, N21q, e21⟩ := hQ21
  have N21 := Fr.app N20 N21q
  obtain ⟨Lh21, X21, N21⟩ := hide X21 N21 (C := 1) (S := 33) (by decide) (by decide)
  refine Outs.of st21 ?_
  refine Outs.of (U' := T21.setTop (mkF m 25 #[.val (.ref o0), .val (.int (3 : Int32)), .val (.ref b3), .val (.int (8 : Int32))] [(.long ((F_f3 (3 : Int32) (8 : Int32)) + (1 : Int64))), (.int (8 : Int32)), (.ref b3)])) (fun t k => ?_) ?_
  · refine XS.lconst X21.here hx rfl (hb hby d1_23) ?_
    refine XS.ladd X21.here hx rfl (hb hby d1_24) rfl ?_
    exact k
  obtain ⟨T22, h22, X22, e22, W22, V22, st22⟩ := puJ X21 hx hZ e21 V20 (j := (8 : Int32)) (x := ((F_f3 (3 : Int32) (8 : Int32)) + (1 : Int64))) (k := 8) rfl (by decide) (f := (mkF m 25 #[.val (.ref o0), .val (.int (3 : Int32)), .val (.ref b3), .val (.int (8 : Int32))] [(.long ((F_f3 (3 : Int32) (8 : Int32)) + (1 : Int64))), (.int (8 : Int32)), (.ref b3)])) rfl rfl (hb hby d1_25)
  replace V22 : AJ Z h22 b3 .long 33 ct3_g25h := V22
  have N22 := Fr.snoc X22 N21 g_b3
  obtain ⟨Lh22, X22, N22⟩ := hide X22 N22 (C := 1) (S := 33) (by decide) (by decide)
  refine Outs.of st22 ?_
  refine Outs.of (U' := T22.setTop (mkF m 33 #[.val (.ref o0), .val (.int (3 : Int32)), .val (.ref b3), .val (.int (9 : Int32))] [(.int (8 : Int32)), (.ref b3)])) (fun t k => ?_) ?_
  · refine XS.iinc X22.here hx rfl (hb hby d1_26) rfl (l' := #[.val (.ref o0), .val (.int (3 : Int32)), .val (.ref b3), .val (.int (9 : Int32))]) rfl ?_
    refine XS.aloadN X22.here hx rfl (hb hby d1_29) rfl rfl ?_
    refine XS.iloadN X22.here hx rfl (hb hby d1_30) rfl ?_
    refine XS.iconst X22.here hx rfl (hb hby d1_31) ?_
    refine XS.isub X22.here hx rfl (hb hby d1_32) rfl ?_
    exact k
  refine Outs.of (ldJ X22 hx hZ e22 V22 (j := (8 : Int32)) (k := 8) rfl (by decide) (f := (mkF m 33 #[.val (.ref o0), .val (.int (3 : Int32)), .val (.ref b3), .val (.int (9 : Int32))] [(.int (8 : Int32)), (.ref b3)])) rfl rfl (hb hby d1_33)) ?_
  refine Outs.of (U' := T22.setTop (mkF m 20 #[.val (.ref o0), .val (.int (3 : Int32)), .val (.ref b3), .val (.int (9 : Int32))] [(.int (9 : Int32)), (.int (3 : Int32)), (.int (9 : Int32)), (.ref b3)])) (fun t k => ?_) ?_
  · refine X22.ldc2Long hx hown (mvT hZ (hw _ (List.mem_of_getElem? (i := 16) rfl))) (g := (mkF m 34 #[.val (.ref o0), .val (.int (3 : Int32)), .val (.ref b3), .val (.int (9 : Int32))] [(.long (ct3_g25h 8))])) rfl (hb hby d1_34) _ ?_
    refine XS.lcmp X22.here hx rfl (hb hby d1_37) rfl ?_
    refine XS.ifYes X22.here hx rfl (pc0 := 38) (pc' := 16) rfl (hb hby d1_38) rfl ((if0 _ _).trans (flt (fun q_ => (show ¬ ((2147483647 : Int64) < (ct3_g25h 8)) from (by decide +kernel)) ((lw_gt _ _).mp q_))).2.2.2) (by decide) (by decide) ?_
    refine XS.aloadN X22.here hx rfl (hb hby d1_16) rfl rfl ?_
    refine XS.iloadN X22.here hx rfl (hb hby d1_17) rfl ?_
    refine XS.iloadN X22.here hx rfl (hb hby d1_18) rfl ?_
    refine XS.iloadN X22.here hx rfl (hb hby d1_19) rfl ?_
    exact k
  obtain ⟨_, _, ⟨T23, L23, k23, n23⟩, -, X23, ⟨Lc23, hQ23, l23, y23, z23⟩, st23⟩ := Jvm.LawKit.callS X22 hx (y := (⟨"com/example/bitmend/bitmend/CodeParameters", "columns", "(II)J"⟩ : MethodName)) hown (mvT hZ (hw _ (List.mem_of_getElem? (i := 12) rfl))) (mvT hZ (hw _ (List.mem_of_getElem? (i := 13) rfl))) (mvT hZ (hw _ (List.mem_of_getElem? (i := 14) rfl))) (mvT hZ (hw _ (List.mem_of_getElem? (i := 15) rfl))) (by decide) (backOf (W := 2) (rm3 l Z a0 hw [] (3 : Int32) (9 : Int32) h22 n0 (by decide)) hZ (hw _ (List.mem_of_getElem? (i := 15) rfl)) (hw _ (List.mem_of_getElem? (i := 14) rfl)) (by decide) (by decide)) (g := (mkF m 20 #[.val (.ref o0), .val (.int (3 : Int32)), .val (.ref b3), .val (.int (9 : Int32))] [(.int (9 : Int32)), (.int (3 : Int32)), (.int (9 : Int32)), (.ref b3)])) rfl (by rw [hml]; rfl) (argsL := [(.int (3 : Int32)), (.int (9 : Int32))]) (rest := [(.int (9 : Int32)), (.ref b3)]) (lenOf pd_2 rfl) rfl (by show 2 * 0 + _ ≤ _; exact Nat.le_of_eq rfl) (hb hby d1_20) (fun _ _ => ⟨rfl, e22, (by decide : 1 + 0 ≤ _), (by decide : 33 + 0 ≤ _)⟩)
  dsimp only [Pt.U, Pt.locs, Pt.cells, Pt.slots] at X23 l23 y23 z23 st23 hQ23
  subst l23 y23 z23
  obtain ⟨rfl, N23q, e23⟩ := hQ23
  have N23 := Fr.app N22 N23q
  obtain ⟨Lh23, X23, N23⟩ := hide X23 N23 (C := 1) (S := 33) (by decide) (by decide)
  refine Outs.of st23 ?_
  refine Outs.of (U' := T23.setTop (mkF m 25 #[.val (.ref o0), .val (.int (3 : Int32)), .val (.ref b3), .val (.int (9 : Int32))] [(.long ((F_f3 (3 : Int32) (9 : Int32)) + (1 : Int64))), (.int (9 : Int32)), (.ref b3)])) (fun t k => ?_) ?_
  · refine XS.lconst X23.here hx rfl (hb hby d1_23) ?_
    refine XS.ladd X23.here hx rfl (hb hby d1_24) rfl ?_
    exact k
  obtain ⟨T24, h24, X24, e24, W24, V24, st24⟩ := puJ X23 hx hZ e23 V22 (j := (9 : Int32)) (x := ((F_f3 (3 : Int32) (9 : Int32)) + (1 : Int64))) (k := 9) rfl (by decide) (f := (mkF m 25 #[.val (.ref o0), .val (.int (3 : Int32)), .val (.ref b3), .val (.int (9 : Int32))] [(.long ((F_f3 (3 : Int32) (9 : Int32)) + (1 : Int64))), (.int (9 : Int32)), (.ref b3)])) rfl rfl (hb hby d1_25)
  replace V24 : AJ Z h24 b3 .long 33 ct3_g25i := V24
  have N24 := Fr.snoc X24 N23 g_b3
  obtain ⟨Lh24, X24, N24⟩ := hide X24 N24 (C := 1) (S := 33) (by decide) (by decide)
  refine Outs.of st24 ?_
  refine Outs.of (U' := T24.setTop (mkF m 33 #[.val (.ref o0), .val (.int (3 : Int32)), .val (.ref b3), .val (.int (10 : Int32))] [(.int (9 : Int32)), (.ref b3)])) (fun t k => ?_) ?_
  · refine XS.iinc X24.here hx rfl (hb hby d1_26) rfl (l' := #[.val (.ref o0), .val (.int (3 : Int32)), .val (.ref b3), .val (.int (10 : Int32))]) rfl ?_
    refine XS.aloadN X24.here hx rfl (hb hby d1_29) rfl rfl ?_
    refine XS.iloadN X24.here hx rfl (hb hby d1_30) rfl ?_
    refine XS.iconst X24.here hx rfl (hb hby d1_31) ?_
    refine XS.isub X24.here hx rfl (hb hby d1_32) rfl ?_
    exact k
  refine Outs.of (ldJ X24 hx hZ e24 V24 (j := (9 : Int32)) (k := 9) rfl (by decide) (f := (mkF m 33 #[.val (.ref o0), .val (.int (3 : Int32)), .val (.ref b3), .val (.int (10 : Int32))] [(.int (9 : Int32)), (.ref b3)])) rfl rfl (hb hby d1_33)) ?_
  refine Outs.of (U' := T24.setTop (mkF m 20 #[.val (.ref o0), .val (.int (3 : Int32)), .val (.ref b3), .val (.int (10 : Int32))] [(.int (10 : Int32)), (.int (3 : Int32)), (.int (10 : Int32)), (.ref b3)])) (fun t k => ?_) ?_
  · refine X24.ldc2Long hx hown (mvT hZ (hw _ (List.mem_of_getElem? (i := 16) rfl))) (g := (mkF m 34 #[.val (.ref o0), .val (.int (3 : Int32)), .val (.ref b3), .val (.int (10 : Int32))] [(.long (ct3_g25i 9))])) rfl (hb hby d1_34) _ ?_
    refine XS.lcmp X24.here hx rfl (hb hby d1_37) rfl ?_
    refine XS.ifYes X24.here hx rfl (pc0 := 38) (pc' := 16) rfl (hb hby d1_38) rfl ((if0 _ _).trans (flt (fun q_ => (show ¬ ((2147483647 : Int64) < (ct3_g25i 9)) from (by decide +kernel)) ((lw_gt _ _).mp q_))).2.2.2) (by decide) (by decide) ?_
    refine XS.aloadN X24.here hx rfl (hb hby d1_16) rfl rfl ?_
    refine XS.iloadN X24.here hx rfl (hb hby d1_17) rfl ?_
    refine XS.iloadN X24.here hx rfl (hb hby d1_18) rfl ?_
    refine XS.iloadN X24.here hx rfl (hb hby d1_19) rfl ?_
    exact k
  obtain ⟨_, _, ⟨T25, L25, k25, n25⟩, -, X25, ⟨Lc25, hQ25, l25, y25, z25⟩, st25⟩ := Jvm.LawKit.callS X24 hx (y := (⟨"com/example/bitmend/bitmend/CodeParameters", "columns", "(II)J"⟩ : MethodName)) hown (mvT hZ (hw _ (List.mem_of_getElem? (i := 12) rfl))) (mvT hZ (hw _ (List.mem_of_getElem? (i := 13) rfl))) (mvT hZ (hw _ (List.mem_of_getElem? (i := 14) rfl))) (mvT hZ (hw _ (List.mem_of_getElem? (i := 15) rfl))) (by decide) (backOf (W := 2) (rm3 l Z a0 hw [] (3 : Int32) (10 : Int32) h24 n0 (by decide)) hZ (hw _ (List.mem_of_getElem? (i := 15) rfl)) (hw _ (List.mem_of_getElem? (i := 14) rfl)) (by decide) (by decide)) (g := (mkF m 20 #[.val (.ref o0), .val (.int (3 : Int32)), .val (.ref b3), .val (.int (10 : Int32))] [(.int (10 : Int32)), (.int (3 : Int32)), (.int (10 : Int32)), (.ref b3)])) rfl (by rw [hml]; rfl) (argsL := [(.int (3 : Int32)), (.int (10 : Int32))]) (rest := [(.int (10 : Int32)), (.ref b3)]) (lenOf pd_2 rfl) rfl (by show 2 * 0 + _ ≤ _; exact Nat.le_of_eq rfl) (hb hby d1_20) (fun _ _ => ⟨rfl, e24, (by decide : 1 + 0 ≤ _), (by decide : 33 + 0 ≤ _)⟩)
  dsimp only [Pt.U, Pt.locs, Pt.cells, Pt.slots] at X25 l25 y25 z25 st25 hQ25
  subst l25 y25 z25
  obtain ⟨rfl, N25q, e25⟩ := hQ25
  have N25 := Fr.app N24 N25q
  obtain ⟨Lh25, X25, N25⟩ := hide X25 N25 (C := 1) (S := 33) (by decide) (by decide)
  refine Outs.of st25 ?_
  refine Outs.of (U' := T25.setTop (mkF m 25 #[.val (.ref o0), .val (.int (3 : Int32)), .val (.ref b3), .val (.int (10 : Int32))] [(.long ((F_f3 (3 : Int32) (10 : Int32)) + (1 : Int64))), (.int (10 : Int32)), (.ref b3)])) (fun t k => ?_) ?_
  · refine XS.lconst X25.here hx rfl (hb hby d1_23) ?_
    refine XS.ladd X25.here hx rfl (hb hby d1_24) rfl ?_
    exact k
  obtain ⟨T26, h26, X26, e26, W26, V26, st26⟩ := puJ X25 hx hZ e25 V24 (j := (10 : Int32)) (x := ((F_f3 (3 : Int32) (10 : Int32)) + (1 : Int64))) (k := 10) rfl (by decide) (f := (mkF m 25 #[.val (.ref o0), .val (.int (3 : Int32)), .val (.ref b3), .val (.int (10 : Int32))] [(.long ((F_f3 (3 : Int32) (10 : Int32)) + (1 : Int64))), (.int (10 : Int32)), (.ref b3)])) rfl rfl (hb hby d1_25)
  replace V26 : AJ Z h26 b3 .long 33 ct3_g25j := V26
  have N26 := Fr.snoc X26 N25 g_b3
  obtain ⟨Lh26, X26, N26⟩ := hide X26 N26 (C := 1) (S := 33) (by decide) (by decide)
  refine Outs.of st26 ?_
  refine Outs.of (U' := T26.setTop (mkF m 33 #[.val (.ref o0), .val (.int (3 : Int32)), .val (.ref b3), .val (.int (11 : Int32))] [(.int (10 : Int32)), (.ref b3)])) (fun t k => ?_) ?_
  · refine XS.iinc X26.here hx rfl (hb hby d1_26) rfl (l' := #[.val (.ref o0), .val (.int (3 : Int32)), .val (.ref b3), .val (.int (11 : Int32))]) rfl ?_
    refine XS.aloadN X26.here hx rfl (hb hby d1_29) rfl rfl ?_
    refine XS.iloadN X26.here hx rfl (hb hby d1_30) rfl ?_
    refine XS.iconst X26.here hx rfl (hb hby d1_31) ?_
    refine XS.isub X26.here hx rfl (hb hby d1_32) rfl ?_
    exact k
  refine Outs.of (ldJ X26 hx hZ e26 V26 (j := (10 : Int32)) (k := 10) rfl (by decide) (f := (mkF m 33 #[.val (.ref o0), .val (.int (3 : Int32)), .val (.ref b3), .val (.int (11 : Int32))] [(.int (10 : Int32)), (.ref b3)])) rfl rfl (hb hby d1_33)) ?_
  refine Outs.of (U' := T26.setTop (mkF m 20 #[.val (.ref o0), .val (.int (3 : Int32)), .val (.ref b3), .val (.int (11 : Int32))] [(.int (11 : Int32)), (.int (3 : Int32)), (.int (11 : Int32)), (.ref b3)])) (fun t k => ?_) ?_
  · refine X26.ldc2Long hx hown (mvT hZ (hw _ (List.mem_of_getElem? (i := 16) rfl))) (g := (mkF m 34 #[.val (.ref o0), .val (.int (3 : Int32)), .val (.ref b3), .val (.int (11 : Int32))] [(.long (ct3_g25j 10))])) rfl (hb hby d1_34) _ ?_
    refine XS.lcmp X26.here hx rfl (hb hby d1_37) rfl ?_
    refine XS.ifYes X26.here hx rfl (pc0 := 38) (pc' := 16) rfl (hb hby d1_38) rfl ((if0 _ _).trans (flt (fun q_ => (show ¬ ((2147483647 : Int64) < (ct3_g25j 10)) from (by decide +kernel)) ((lw_gt _ _).mp q_))).2.2.2) (by decide) (by decide) ?_
    refine XS.aloadN X26.here hx rfl (hb hby d1_16) rfl rfl ?_
    refine XS.iloadN X26.here hx rfl (hb hby d1_17) rfl ?_
    refine XS.iloadN X26.here hx rfl (hb hby d1_18) rfl ?_
    refine XS.iloadN X26.here hx rfl (hb hby d1_19) rfl ?_
    exact k
  obtain ⟨_, _, ⟨T27, L27, k27, n27⟩, -, X27, ⟨Lc27, hQ27, l27, y27, z27⟩, st27⟩ := Jvm.LawKit.callS X26 hx (y := (⟨"com/example/bitmend/bitmend/CodeParameters", "columns", "(II)J"⟩ : MethodName)) hown (mvT hZ (hw _ (List.mem_of_getElem? (i := 12) rfl))) (mvT hZ (hw _ (List.mem_of_getElem? (i := 13) rfl))) (mvT hZ (hw _ (List.mem_of_getElem? (i := 14) rfl))) (mvT hZ (hw _ (List.mem_of_getElem? (i := 15) rfl))) (by decide) (backOf (W := 2) (rm3 l Z a0 hw [] (3 : Int32) (11 : Int32) h26 n0 (by decide)) hZ (hw _ (List.mem_of_getElem? (i := 15) rfl)) (hw _ (List.mem_of_getElem? (i := 14) rfl)) (by decide) (by decide)) (g := (mkF m 20 #[.val (.ref o0), .val (.int (3 : Int32)), .val (.ref b3), .val (.int (11 : Int32))] [(.int (11 : Int32)), (.int (3 : Int32)), (.int (11 : Int32)), (.ref b3)])) rfl (by rw [hml]; rfl) (argsL := [(.int (3 : Int32)), (.int (11 : Int32))]) (rest := [(.int (11 : Int32)), (.ref b3)]) (lenOf pd_2 rfl) rfl (by show 2 * 0 + _ ≤ _; exact Nat.le_of_eq rfl) (hb hby d1_20) (fun _ _ => ⟨rfl, e26, (by decide : 1 + 0 ≤ _), (by decide : 33 + 0 ≤ _)⟩)
  dsimp only [Pt.U, Pt.locs, Pt.cells, Pt.slots] at X27 l27 y27 z27 st27 hQ27
  subst l27 y27 z27
  obtain ⟨rfl, N27q, e27⟩ := hQ27
  have N27 := Fr.app N26 N27q
  obtain ⟨Lh27, X27, N27⟩ := hide X27 N27 (C := 1) (S := 33) (by decide) (by decide)
  refine Outs.of st27 ?_
  refine Outs.of (U' := T27.setTop (mkF m 25 #[.val (.ref o0), .val (.int (3 : Int32)), .val (.ref b3), .val (.int (11 : Int32))] [(.long ((F_f3 (3 : Int32) (11 : Int32)) + (1 : Int64))), (.int (11 : Int32)), (.ref b3)])) (fun t k => ?_) ?_
  · refine XS.lconst X27.here hx rfl (hb hby d1_23) ?_
    refine XS.ladd X27.here hx rfl (hb hby d1_24) rfl ?_
    exact k
  obtain ⟨T28, h28, X28, e28, W28, V28, st28⟩ := puJ X27 hx hZ e27 V26 (j := (11 : Int32)) (x := ((F_f3 (3 : Int32) (11 : Int32)) + (1 : Int64))) (k := 11) rfl (by decide) (f := (mkF m 25 #[.val (.ref o0), .val (.int (3 : Int32)), .val (.ref b3), .val (.int (11 : Int32))] [(.long ((F_f3 (3 : Int32) (11 : Int32)) + (1 : Int64))), (.int (11 : Int32)), (.ref b3)])) rfl rfl (hb hby d1_25)
  replace V28 : AJ Z h28 b3 .long 33 ct3_g25k := V28
  have N28 := Fr.snoc X28 N27 g_b3
  obtain ⟨Lh28, X28, N28⟩ := hide X28 N28 (C := 1) (S := 33) (by decide) (by decide)
  refine Outs.of st28 ?_
  refine Outs.of (U' := T28.setTop (mkF m 33 #[.val (.ref o0), .val (.int (3 : Int32)), .val (.ref b3), .val (.int (12 : Int32))] [(.int (11 : Int32)), (.ref b3)])) (fun t k => ?_) ?_
  · refine XS.iinc X28.here hx rfl (hb hby d1_26) rfl (l' := #[.val (.ref o0), .val (.int (3 : Int32)), .val (.ref b3), .val (.int (12 : Int32))]) rfl ?_
    refine XS.aloadN X28.here hx rfl (hb hby d1_29) rfl rfl ?_
    refine XS.iloadN X28.here hx rfl (hb hby d1_30) rfl ?_
    refine XS.iconst X28.here hx rfl (hb hby d1_31) ?_
    refine XS.isub X28.here hx rfl (hb hby d1_32) rfl ?_
    exact k
  refine Outs.of (ldJ X28 hx hZ e28 V28 (j := (11 : Int32)) (k := 11) rfl (by decide) (f := (mkF m 33 #[.val (.ref o0), .val (.int (3 : Int32)), .val (.ref b3), .val (.int (12 : Int32))] [(.int (11 : Int32)), (.ref b3)])) rfl rfl (hb hby d1_33)) ?_
  refine Outs.of (U' := T28.setTop (mkF m 20 #[.val (.ref o0), .val (.int (3 : Int32)), .val (.ref b3), .val (.int (12 : Int32))] [(.int (12 : Int32)), (.int (3 : Int32)), (.int (12 : Int32)), (.ref b3)])) (fun t k => ?_) ?_
  · refine X28.ldc2Long hx hown (mvT hZ (hw _ (List.mem_of_getElem? (i := 16) rfl))) (g := (mkF m 34 #[.val (.ref o0), .val (.int (3 : Int32)), .val (.ref b3), .val (.int (12 : Int32))] [(.long (ct3_g25k 11))])) rfl (hb hby d1_34) _ ?_
    refine XS.lcmp X28.here hx rfl (hb hby d1_37) rfl ?_
    refine XS.ifYes X28.here hx rfl (pc0 := 38) (pc' := 16) rfl (hb hby d1_38) rfl ((if0 _ _).trans (flt (fun q_ => (show ¬ ((2147483647 : Int64) < (ct3_g25k 11)) from (by decide +kernel)) ((lw_gt _ _).mp q_))).2.2.2) (by decide) (by decide) ?_
    refine XS.aloadN X28.here hx rfl (hb hby d1_16) rfl rfl ?_
    refine XS.iloadN X28.here hx rfl (hb hby d1_17) rfl ?_
    refine XS.iloadN X28.here hx rfl (hb hby d1_18) rfl ?_
    refine XS.iloadN X28.here hx rfl (hb hby d1_19) rfl ?_
    exact k
  obtain ⟨_, _, ⟨T29, L29, k29, n29⟩, -, X29, ⟨Lc29, hQ29, l29, y29, z29⟩, st29⟩ := Jvm.LawKit.callS X28 hx (y := (⟨"com/example/bitmend/bitmend/CodeParameters", "columns", "(II)J"⟩ : MethodName)) hown (mvT hZ (hw _ (List.mem_of_getElem? (i := 12) rfl))) (mvT hZ (hw _ (List.mem_of_getElem? (i := 13) rfl))) (mvT hZ (hw _ (List.mem_of_getElem? (i := 14) rfl))) (mvT hZ (hw _ (List.mem_of_getElem? (i := 15) rfl))) (by decide) (backOf (W := 2) (rm3 l Z a0 hw [] (3 : Int32) (12 : Int32) h28 n0 (by decide)) hZ (hw _ (List.mem_of_getElem? (i := 15) rfl)) (hw _ (List.mem_of_getElem? (i := 14) rfl)) (by decide) (by decide)) (g := (mkF m 20 #[.val (.ref o0), .val (.int (3 : Int32)), .val (.ref b3), .val (.int (12 : Int32))] [(.int (12 : Int32)), (.int (3 : Int32)), (.int (12 : Int32)), (.ref b3)])) rfl (by rw [hml]; rfl) (argsL := [(.int (3 : Int32)), (.int (12 : Int32))]) (rest := [(.int (12 : Int32)), (.ref b3)]) (lenOf pd_2 rfl) rfl (by show 2 * 0 + _ ≤ _; exact Nat.le_of_eq rfl) (hb hby d1_20) (fun _ _ => ⟨rfl, e28, (by decide : 1 + 0 ≤ _), (by decide : 33 + 0 ≤ _)⟩)
  dsimp only [Pt.U, Pt.locs, Pt.cells, Pt.slots] at X29 l29 y29 z29 st29 hQ29
  subst l29 y29 z29
  obtain ⟨rfl, N29q, e29⟩ := hQ29
  have N29 := Fr.app N28 N29q
  obtain ⟨Lh29, X29, N29⟩ := hide X29 N29 (C := 1) (S := 33) (by decide) (by decide)
  refine Outs.of st29 ?_
  refine Outs.of (U' := T29.setTop (mkF m 25 #[.val (.ref o0), .val (.int (3 : Int32)), .val (.ref b3), .val (.int (12 : Int32))] [(.long ((F_f3 (3 : Int32) (12 : Int32)) + (1 : Int64))), (.int (12 : Int32)), (.ref b3)])) (fun t k => ?_) ?_
  · refine XS.lconst X29.here hx rfl (hb hby d1_23) ?_
    refine XS.ladd X29.here hx rfl (hb hby d1_24) rfl ?_
    exact k
  obtain ⟨T30, h30, X30, e30, W30, V30, st30⟩ := puJ X29 hx hZ e29 V28 (j := (12 : Int32)) (x := ((F_f3 (3 : Int32) (12 : Int32)) + (1 : Int64))) (k := 12) rfl (by decide) (f := (mkF m 25 #[.val (.ref o0), .val (.int (3 : Int32)), .val (.ref b3), .val (.int (12 : Int32))] [(.long ((F_f3 (3 : Int32) (12 : Int32)) + (1 : Int64))), (.int (12 : Int32)), (.ref b3)])) rfl rfl (hb hby d1_25)
  replace V30 : AJ Z h30 b3 .long 33 ct3_g25l := V30
  have N30 := Fr.snoc X30 N29 g_b3
  obtain ⟨Lh30, X30, N30⟩ := hide X30 N30 (C := 1) (S := 33) (by decide) (by decide)
  refine Outs.of st30 ?_
  refine Outs.of (U' := T30.setTop (mkF m 33 #[.val (.ref o0), .val (.int (3 : Int32)), .val (.ref b3), .val (.int (13 : Int32))] [(.int (12 : Int32)), (.ref b3)])) (fun t k => ?_) ?_
  · refine XS.iinc X30.here hx rfl (hb hby d1_26) rfl (l' := #[.val (.ref o0), .val (.int (3 : Int32)), .val (.ref b3), .val (.int (13 : Int32))]) rfl ?_
    refine XS.aloadN X30.here hx rfl (hb hby d1_29) rfl rfl ?_
    refine XS.iloadN X30.here hx rfl (hb hby d1_30) rfl ?_
    refine XS.iconst X30.here hx rfl (hb hby d1_31) ?_
    refine XS.isub X30.here hx rfl (hb hby d1_32) rfl ?_
    exact k
  refine Outs.of (ldJ X30 hx hZ e30 V30 (j := (12 : Int32)) (k := 12) rfl (by decide) (f := (mkF m 33 #[.val (.ref o0), .val (.int (3 : Int32)), .val (.ref b3), .val (.int (13 : Int32))] [(.int (12 : Int32)), (.ref b3)])) rfl rfl (hb hby d1_33)) ?_
  refine Outs.of (U' := T30.setTop (mkF m 20 #[.val (.ref o0), .val (.int (3 : Int32)), .val (.ref b3), .val (.int (13 : Int32))] [(.int (13 : Int32)), (.int (3 : Int32)), (.int (13 : Int32)), (.ref b3)])) (fun t k => ?_) ?_
  · refine X30.ldc2Long hx hown (mvT hZ (hw _ (List.mem_of_getElem? (i := 16) rfl))) (g := (mkF m 34 #[.val (.ref o0), .val (.int (3 : Int32)), .val (.ref b3), .val (.int (13 : Int32))] [(.long (ct3_g25l 12))])) rfl (hb hby d1_34) _ ?_
    refine XS.lcmp X30.here hx rfl (hb hby d1_37) rfl ?_
    refine XS.ifYes X30.here hx rfl (pc0 := 38) (pc' := 16) rfl (hb hby d1_38) rfl ((if0 _ _).trans (flt (fun q_ => (show ¬ ((2147483647 : Int64) < (ct3_g25l 12)) from (by decide +kernel)) ((lw_gt _ _).mp q_))).2.2.2) (by decide) (by decide) ?_
    refine XS.aloadN X30.here hx rfl (hb hby d1_16) rfl rfl ?_
    refine XS.iloadN X30.here hx rfl (hb hby d1_17) rfl ?_
    refine XS.iloadN X30.here hx rfl (hb hby d1_18) rfl ?_
    refine XS.iloadN X30.here hx rfl (hb hby d1_19) rfl ?_
    exact k
  obtain ⟨_, _, ⟨T31, L31, k31, n31⟩, -, X31, ⟨Lc31, hQ31, l31, y31, z31⟩, st31⟩ := Jvm.LawKit.callS X30 hx (y := (⟨"com/example/bitmend/bitmend/CodeParameters", "columns", "(II)J"⟩ : MethodName)) hown (mvT hZ (hw _ (List.mem_of_getElem? (i := 12) rfl))) (mvT hZ (hw _ (List.mem_of_getElem? (i := 13) rfl))) (mvT hZ (hw _ (List.mem_of_getElem? (i := 14) rfl))) (mvT hZ (hw _ (List.mem_of_getElem? (i := 15) rfl))) (by decide) (backOf (W := 2) (rm3 l Z a0 hw [] (3 : Int32) (13 : Int32) h30 n0 (by decide)) hZ (hw _ (List.mem_of_getElem? (i := 15) rfl)) (hw _ (List.mem_of_getElem? (i := 14) rfl)) (by decide) (by decide)) (g := (mkF m 20 #[.val (.ref o0), .val (.int (3 : Int32)), .val (.ref b3), .val (.int (13 : Int32))] [(.int (13 : Int32)), (.int (3 : Int32)), (.int (13 : Int32)), (.ref b3)])) rfl (by rw [hml]; rfl) (argsL := [(.int (3 : Int32)), (.int (13 : Int32))]) (rest := [(.int (13 : Int32)), (.ref b3)]) (lenOf pd_2 rfl) rfl (by show 2 * 0 + _ ≤ _; exact Nat.le_of_eq rfl) (hb hby d1_20) (fun _ _ => ⟨rfl, e30, (by decide : 1 + 0 ≤ _), (by decide : 33 + 0 ≤ _)⟩)
  dsimp only [Pt.U, Pt.locs, Pt.cells, Pt.slots] at X31 l31 y31 z31 st31 hQ31
  subst l31 y31 z31
  obtain ⟨rfl, N31q, e31⟩ := hQ31
  have N31 := Fr.app N30 N31q
  obtain ⟨Lh31, X31, N31⟩ := hide X31 N31 (C := 1) (S := 33) (by decide) (by decide)
  refine Outs.of st31 ?_
  refine Outs.of (U' := T31.setTop (mkF m 25 #[.val (.ref o0), .val (.int (3 : Int32)), .val (.ref b3), .val (.int (13 : Int32))] [(.long ((F_f3 (3 : Int32) (13 : Int32)) + (1 : Int64))), (.int (13 : Int32)), (.ref b3)])) (fun t k => ?_) ?_
  · refine XS.lconst X31.here hx rfl (hb hby d1_23) ?_
    refine XS.ladd X31.here hx rfl (hb hby d1_24) rfl ?_
    exact k
  obtain ⟨T32, h32, X32, e32, W32, V32, st32⟩ := puJ X31 hx hZ e31 V30 (j := (13 : Int32)) (x := ((F_f3 (3 : Int32) (13 : Int32)) + (1 : Int64))) (k := 13) rfl (by decide) (f := (mkF m 25 #[.val (.ref o0), .val (.int (3 : Int32)), .val (.ref b3), .val (.int (13 : Int32))] [(.long ((F_f3 (3 : Int32) (13 : Int32)) + (1 : Int64))), (.int (13 : Int32)), (.ref b3)])) rfl rfl (hb hby d1_25)
  replace V32 : AJ Z h32 b3 .long 33 ct3_g25m := V32
  have N32 := Fr.snoc X32 N31 g_b3
  obtain ⟨Lh32, X32, N32⟩ := hide X32 N32 (C := 1) (S := 33) (by decide) (by decide)
  refine Outs.of st32 ?_
  refine Outs.of (U' := T32.setTop (mkF m 33 #[.val (.ref o0), .val (.int (3 : Int32)), .val (.ref b3), .val (.int (14 : Int32))] [(.int (13 : Int32)), (.ref b3)])) (fun t k => ?_) ?_
  · refine XS.iinc X32.here hx rfl (hb hby d1_26) rfl (l' := #[.val (.ref o0), .val (.int (3 : Int32)), .val (.ref b3), .val (.int (14 : Int32))]) rfl ?_
    refine XS.aloadN X32.here hx rfl (hb hby d1_29) rfl rfl ?_
    refine XS.iloadN X32.here hx rfl (hb hby d1_30) rfl ?_
    refine XS.iconst X32.here hx rfl (hb hby d1_31) ?_
    refine XS.isub X32.here hx rfl (hb hby d1_32) rfl ?_
    exact k
  refine Outs.of (ldJ X32 hx hZ e32 V32 (j := (13 : Int32)) (k := 13) rfl (by decide) (f := (mkF m 33 #[.val (.ref o0), .val (.int (3 : Int32)), .val (.ref b3), .val (.int (14 : Int32))] [(.int (13 : Int32)), (.ref b3)])) rfl rfl (hb hby d1_33)) ?_
  refine Outs.of (U' := T32.setTop (mkF m 20 #[.val (.ref o0), .val (.int (3 : Int32)), .val (.ref b3), .val (.int (14 : Int32))] [(.int (14 : Int32)), (.int (3 : Int32)), (.int (14 : Int32)), (.ref b3)])) (fun t k => ?_) ?_
  · refine X32.ldc2Long hx hown (mvT hZ (hw _ (List.mem_of_getElem? (i := 16) rfl))) (g := (mkF m 34 #[.val (.ref o0), .val (.int (3 : Int32)), .val (.ref b3), .val (.int (14 : Int32))] [(.long (ct3_g25m 13))])) rfl (hb hby d1_34) _ ?_
    refine XS.lcmp X32.here hx rfl (hb hby d1_37) rfl ?_
    refine XS.ifYes X32.here hx rfl (pc0 := 38) (pc' := 16) rfl (hb hby d1_38) rfl ((if0 _ _).trans (flt (fun q_ => (show ¬ ((2147483647 : Int64) < (ct3_g25m 13)) from (by decide +kernel)) ((lw_gt _ _).mp q_))).2.2.2) (by decide) (by decide) ?_
    refine XS.aloadN X32.here hx rfl (hb hby d1_16) rfl rfl ?_
    refine XS.iloadN X32.here hx rfl (hb hby d1_17) rfl ?_
    refine XS.iloadN X32.here hx rfl (hb hby d1_18) rfl ?_
    refine XS.iloadN X32.here hx rfl (hb hby d1_19) rfl ?_
    exact k
  obtain ⟨_, _, ⟨T33, L33, k33, n33⟩, -, X33, ⟨Lc33, hQ33, l33, y33, z33⟩, st33⟩ := Jvm.LawKit.callS X32 hx (y := (⟨"com/example/bitmend/bitmend/CodeParameters", "columns", "(II)J"⟩ : MethodName)) hown (mvT hZ (hw _ (List.mem_of_getElem? (i := 12) rfl))) (mvT hZ (hw _ (List.mem_of_getElem? (i := 13) rfl))) (mvT hZ (hw _ (List.mem_of_getElem? (i := 14) rfl))) (mvT hZ (hw _ (List.mem_of_getElem? (i := 15) rfl))) (by decide) (backOf (W := 2) (rm3 l Z a0 hw [] (3 : Int32) (14 : Int32) h32 n0 (by decide)) hZ (hw _ (List.mem_of_getElem? (i := 15) rfl)) (hw _ (List.mem_of_getElem? (i := 14) rfl)) (by decide) (by decide)) (g := (mkF m 20 #[.val (.ref o0), .val (.int (3 : Int32)), .val (.ref b3), .val (.int (14 : Int32))] [(.int (14 : Int32)), (.int (3 : Int32)), (.int (14 : Int32)), (.ref b3)])) rfl (by rw [hml]; rfl) (argsL := [(.int (3 : Int32)), (.int (14 : Int32))]) (rest := [(.int (14 : Int32)), (.ref b3)]) (lenOf pd_2 rfl) rfl (by show 2 * 0 + _ ≤ _; exact Nat.le_of_eq rfl) (hb hby d1_20) (fun _ _ => ⟨rfl, e32, (by decide : 1 + 0 ≤ _), (by decide : 33 + 0 ≤ _)⟩)
  dsimp only [Pt.U, Pt.locs, Pt.cells, Pt.slots] at X33 l33 y33 z33 st33 hQ33
  subst l33 y33 z33
  obtain ⟨rfl, N33q, e33⟩ := hQ33
  have N33 := Fr.app N32 N33q
  obtain ⟨Lh33, X33, N33⟩ := hide X33 N33 (C := 1) (S := 33) (by decide) (by decide)
  refine Outs.of st33 ?_
  refine Outs.of (U' := T33.setTop (mkF m 25 #[.val (.ref o0), .val (.int (3 : Int32)), .val (.ref b3), .val (.int (14 : Int32))] [(.long ((F_f3 (3 : Int32) (14 : Int32)) + (1 : Int64))), (.int (14 : Int32)), (.ref b3)])) (fun t k => ?_) ?_
  · refine XS.lconst X33.here hx rfl (hb hby d1_23) ?_
    refine XS.ladd X33.here hx rfl (hb hby d1_24) rfl ?_
    exact k
  obtain ⟨T34, h34, X34, e34, W34, V34, st34⟩ := puJ X33 hx hZ e33 V32 (j := (14 : Int32)) (x := ((F_f3 (3 : Int32) (14 : Int32)) + (1 : Int64))) (k := 14) rfl (by decide) (f := (mkF m 25 #[.val (.ref o0), .val (.int (3 : Int32)), .val (.ref b3), .val (.int (14 : Int32))] [(.long ((F_f3 (3 : Int32) (14 : Int32)) + (1 : Int64))), (.int (14 : Int32)), (.ref b3)])) rfl rfl (hb hby d1_25)
  replace V34 : AJ Z h34 b3 .long 33 ct3_g25n := V34
  have N34 := Fr.snoc X34 N33 g_b3
  obtain ⟨Lh34, X34, N34⟩ := hide X34 N34 (C := 1) (S := 33) (by decide) (by decide)
  refine Outs.of st34 ?_
  refine Outs.of (U' := T34.setTop (mkF m 33 #[.val (.ref o0), .val (.int (3 : Int32)), .val (.ref b3), .val (.int (15 : Int32))] [(.int (14 : Int32)), (.ref b3)])) (fun t k => ?_) ?_
  · refine XS.iinc X34.here hx rfl (hb hby d1_26) rfl (l' := #[.val (.ref o0), .val (.int (3 : Int32)), .val (.ref b3), .val (.int (15 : Int32))]) rfl ?_
    refine XS.aloadN X34.here hx rfl (hb hby d1_29) rfl rfl ?_
    refine XS.iloadN X34.here hx rfl (hb hby d1_30) rfl ?_
    refine XS.iconst X34.here hx rfl (hb hby d1_31) ?_
    refine XS.isub X34.here hx rfl (hb hby d1_32) rfl ?_
    exact k
  refine Outs.of (ldJ X34 hx hZ e34 V34 (j := (14 : Int32)) (k := 14) rfl (by decide) (f := (mkF m 33 #[.val (.ref o0), .val (.int (3 : Int32)), .val (.ref b3), .val (.int (15 : Int32))] [(.int (14 : Int32)), (.ref b3)])) rfl rfl (hb hby d1_33)) ?_
  refine Outs.of (U' := T34.setTop (mkF m 20 #[.val (.ref o0), .val (.int (3 : Int32)), .val (.ref b3), .val (.int (15 : Int32))] [(.int (15 : Int32)), (.int (3 : Int32)), (.int (15 : Int32)), (.ref b3)])) (fun t k => ?_) ?_
  · refine X34.ldc2Long hx hown (mvT hZ (hw _ (List.mem_of_getElem? (i := 16) rfl))) (g := (mkF m 34 #[.val (.ref o0), .val (.int (3 : Int32)), .val (.ref b3), .val (.int (15 : Int32))] [(.long (ct3_g25n 14))])) rfl (hb hby d1_34) _ ?_
    refine XS.lcmp X34.here hx rfl (hb hby d1_37) rfl ?_
    refine XS.ifYes X34.here hx rfl (pc0 := 38) (pc' := 16) rfl (hb hby d1_38) rfl ((if0 _ _).trans (flt (fun q_ => (show ¬ ((2147483647 : Int64) < (ct3_g25n 14)) from (by decide +kernel)) ((lw_gt _ _).mp q_))).2.2.2) (by decide) (by decide) ?_
    refine XS.aloadN X34.here hx rfl (hb hby d1_16) rfl rfl ?_
    refine XS.iloadN X34.here hx rfl (hb hby d1_17) rfl ?_
    refine XS.iloadN X34.here hx rfl (hb hby d1_18) rfl ?_
    refine XS.iloadN X34.here hx rfl (hb hby d1_19) rfl ?_
    exact k
  obtain ⟨_, _, ⟨T35, L35, k35, n35⟩, -, X35, ⟨Lc35, hQ35, l35, y35, z35⟩, st35⟩ := Jvm.LawKit.callS X34 hx (y := (⟨"com/example/bitmend/bitmend/CodeParameters", "columns", "(II)J"⟩ : MethodName)) hown (mvT hZ (hw _ (List.mem_of_getElem? (i := 12) rfl))) (mvT hZ (hw _ (List.mem_of_getElem? (i := 13) rfl))) (mvT hZ (hw _ (List.mem_of_getElem? (i := 14) rfl))) (mvT hZ (hw _ (List.mem_of_getElem? (i := 15) rfl))) (by decide) (backOf (W := 2) (rm3 l Z a0 hw [] (3 : Int32) (15 : Int32) h34 n0 (by decide)) hZ (hw _ (List.mem_of_getElem? (i := 15) rfl)) (hw _ (List.mem_of_getElem? (i := 14) rfl)) (by decide) (by decide)) (g := (mkF m 20 #[.val (.ref o0), .val (.int (3 : Int32)), .val (.ref b3), .val (.int (15 : Int32))] [(.int (15 : Int32)), (.int (3 : Int32)), (.int (15 : Int32)), (.ref b3)])) rfl (by rw [hml]; rfl) (argsL := [(.int (3 : Int32)), (.int (15 : Int32))]) (rest := [(.int (15 : Int32)), (.ref b3)]) (lenOf pd_2 rfl) rfl (by show 2 * 0 + _ ≤ _; exact Nat.le_of_eq rfl) (hb hby d1_20) (fun _ _ => ⟨rfl, e34, (by decide : 1 + 0 ≤ _), (by decide : 33 + 0 ≤ _)⟩)
  dsimp only [Pt.U, Pt.locs, Pt.cells, Pt.slots] at X35 l35 y35 z35 st35 hQ35
  subst l35 y35 z35
  obtain ⟨rfl, N35q, e35⟩ := hQ35
  have N35 := Fr.app N34 N35q
  obtain ⟨Lh35, X35, N35⟩ := hide X35 N35 (C := 1) (S := 33) (by decide) (by decide)
  refine Outs.of st35 ?_
  refine Outs.of (U' := T35.setTop (mkF m 25 #[.val (.ref o0), .val (.int (3 : Int32)), .val (.ref b3), .val (.int (15 : Int32))] [(.long ((F_f3 (3 : Int32) (15 : Int32)) + (1 : Int64))), (.int (15 : Int32)), (.ref b3)])) (fun t k => ?_) ?_
  · refine XS.lconst X35.here hx rfl (hb hby d1_23) ?_
    refine XS.ladd X35.here hx rfl (hb hby d1_24) rfl ?_
    exact k
  obtain ⟨T36, h36, X36, e36, W36, V36, st36⟩ := puJ X35 hx hZ e35 V34 (j := (15 : Int32)) (x := ((F_f3 (3 : Int32) (15 : Int32)) + (1 : Int64))) (k := 15) rfl (by decide) (f := (mkF m 25 #[.val (.ref o0), .val (.int (3 : Int32)), .val (.ref b3), .val (.int (15 : Int32))] [(.long ((F_f3 (3 : Int32) (15 : Int32)) + (1 : Int64))), (.int (15 : Int32)), (.ref b3)])) rfl rfl (hb hby d1_25)
  replace V36 : AJ Z h36 b3 .long 33 ct3_g25o := V36
  have N36 := Fr.snoc X36 N35 g_b3
  obtain ⟨Lh36, X36, N36⟩ := hide X36 N36 (C := 1) (S := 33) (by decide) (by decide)
  refine Outs.of st36 ?_
  refine Outs.of (U' := T36.setTop (mkF m 33 #[.val (.ref o0), .val (.int (3 : Int32)), .val (.ref b3), .val (.int (16 : Int32))] [(.int (15 : Int32)), (.ref b3)])) (fun t k => ?_) ?_
  · refine XS.iinc X36.here hx rfl (hb hby d1_26) rfl (l' := #[.val (.ref o0), .val (.int (3 : Int32)), .val (.ref b3), .val (.int (16 : Int32))]) rfl ?_
    refine XS.aloadN X36.here hx rfl (hb hby d1_29) rfl rfl ?_
    refine XS.iloadN X36.here hx rfl (hb hby d1_30) rfl ?_
    refine XS.iconst X36.here hx rfl (hb hby d1_31) ?_
    refine XS.isub X36.here hx rfl (hb hby d1_32) rfl ?_
    exact k
  refine Outs.of (ldJ X36 hx hZ e36 V36 (j := (15 : Int32)) (k := 15) rfl (by decide) (f := (mkF m 33 #[.val (.ref o0), .val (.int (3 : Int32)), .val (.ref b3), .val (.int (16 : Int32))] [(.int (15 : Int32)), (.ref b3)])) rfl rfl (hb hby d1_33)) ?_
  refine Outs.of (U' := T36.setTop (mkF m 20 #[.val (.ref o0), .val (.int (3 : Int32)), .val (.ref b3), .val (.int (16 : Int32))] [(.int (16 : Int32)), (.int (3 : Int32)), (.int (16 : Int32)), (.ref b3)])) (fun t k => ?_) ?_
  · refine X36.ldc2Long hx hown (mvT hZ (hw _ (List.mem_of_getElem? (i := 16) rfl))) (g := (mkF m 34 #[.val (.ref o0), .val (.int (3 : Int32)), .val (.ref b3), .val (.int (16 : Int32))] [(.long (ct3_g25o 15))])) rfl (hb hby d1_34) _ ?_
    refine XS.lcmp X36.here hx rfl (hb hby d1_37) rfl ?_
    refine XS.ifYes X36.here hx rfl (pc0 := 38) (pc' := 16) rfl (hb hby d1_38) rfl ((if0 _ _).trans (flt (fun q_ => (show ¬ ((2147483647 : Int64) < (ct3_g25o 15)) from (by decide +kernel)) ((lw_gt _ _).mp q_))).2.2.2) (by decide) (by decide) ?_
    refine XS.aloadN X36.here hx rfl (hb hby d1_16) rfl rfl ?_
    refine XS.iloadN X36.here hx rfl (hb hby d1_17) rfl ?_
    refine XS.iloadN X36.here hx rfl (hb hby d1_18) rfl ?_
    refine XS.iloadN X36.here hx rfl (hb hby d1_19) rfl ?_
    exact k
  obtain ⟨_, _, ⟨T37, L37, k37, n37⟩, -, X37, ⟨Lc37, hQ37, l37, y37, z37⟩, st37⟩ := Jvm.LawKit.callS X36 hx (y := (⟨"com/example/bitmend/bitmend/CodeParameters", "columns", "(II)J"⟩ : MethodName)) hown (mvT hZ (hw _ (List.mem_of_getElem? (i := 12) rfl))) (mvT hZ (hw _ (List.mem_of_getElem? (i := 13) rfl))) (mvT hZ (hw _ (List.mem_of_getElem? (i := 14) rfl))) (mvT hZ (hw _ (List.mem_of_getElem? (i := 15) rfl))) (by decide) (backOf (W := 2) (rm3 l Z a0 hw [] (3 : Int32) (16 : Int32) h36 n0 (by decide)) hZ (hw _ (List.mem_of_getElem? (i := 15) rfl)) (hw _ (List.mem_of_getElem? (i := 14) rfl)) (by decide) (by decide)) (g := (mkF m 20 #[.val (.ref o0), .val (.int (3 : Int32)), .val (.ref b3), .val (.int (16 : Int32))] [(.int (16 : Int32)), (.int (3 : Int32)), (.int (16 : Int32)), (.ref b3)])) rfl (by rw [hml]; rfl) (argsL := [(.int (3 : Int32)), (.int (16 : Int32))]) (rest := [(.int (16 : Int32)), (.ref b3)]) (lenOf pd_2 rfl) rfl (by show 2 * 0 + _ ≤ _; exact Nat.le_of_eq rfl) (hb hby d1_20) (fun _ _ => ⟨rfl, e36, (by decide : 1 + 0 ≤ _), (by decide : 33 + 0 ≤ _)⟩)
  dsimp only [Pt.U, Pt.locs, Pt.cells, Pt.slots] at X37 l37 y37 z37 st37 hQ37
  subst l37 y37 z37
  obtain ⟨rfl, N37q, e37⟩ := hQ37
  have N37 := Fr.app N36 N37q
  obtain ⟨Lh37, X37, N37⟩ := hide X37 N37 (C := 1) (S := 33) (by decide) (by decide)
  refine Outs.of st37 ?_
  refine Outs.of (U' := T37.setTop (mkF m 25 #[.val (.ref o0), .val (.int (3 : Int32)), .val (.ref b3), .val (.int (16 : Int32))] [(.long ((F_f3 (3 : Int32) (16 : Int32)) + (1 : Int64))), (.int (16 : Int32)), (.ref b3)])) (fun t k => ?_) ?_
  · refine XS.lconst X37.here hx rfl (hb hby d1_23) ?_
    refine XS.ladd X37.here hx rfl (hb hby d1_24) rfl ?_
    exact k
  obtain ⟨T38, h38, X38, e38, W38, V38, st38⟩ := puJ X37 hx hZ e37 V36 (j := (16 : Int32)) (x := ((F_f3 (3 : Int32) (16 : Int32)) + (1 : Int64))) (k := 16) rfl (by decide) (f := (mkF m 25 #[.val (.ref o0), .val (.int (3 : Int32)), .val (.ref b3), .val (.int (16 : Int32))] [(.long ((F_f3 (3 : Int32) (16 : Int32)) + (1 : Int64))), (.int (16 : Int32)), (.ref b3)])) rfl rfl (hb hby d1_25)
  replace V38 : AJ Z h38 b3 .long 33 ct3_g25p := V38
  have N38 := Fr.snoc X38 N37 g_b3
  obtain ⟨Lh38, X38, N38⟩ := hide X38 N38 (C := 1) (S := 33) (by decide) (by decide)
  refine Outs.of st38 ?_
  refine Outs.of (U' := T38.setTop (mkF m 33 #[.val (.ref o0), .val (.int (3 : Int32)), .val (.ref b3), .val (.int (17 : Int32))] [(.int (16 : Int32)), (.ref b3)])) (fun t k => ?_) ?_
  · refine XS.iinc X38.here hx rfl (hb hby d1_26) rfl (l' := #[.val (.ref o0), .val (.int (3 : Int32)), .val (.ref b3), .val (.int (17 : Int32))]) rfl ?_
    refine XS.aloadN X38.here hx rfl (hb hby d1_29) rfl rfl ?_
    refine XS.iloadN X38.here hx rfl (hb hby d1_30) rfl ?_
    refine XS.iconst X38.here hx rfl (hb hby d1_31) ?_
    refine XS.isub X38.here hx rfl (hb hby d1_32) rfl ?_
    exact k
  refine Outs.of (ldJ X38 hx hZ e38 V38 (j := (16 : Int32)) (k := 16) rfl (by decide) (f := (mkF m 33 #[.val (.ref o0), .val (.int (3 : Int32)), .val (.ref b3), .val (.int (17 : Int32))] [(.int (16 : Int32)), (.ref b3)])) rfl rfl (hb hby d1_33)) ?_
  refine Outs.of (U' := T38.setTop (mkF m 20 #[.val (.ref o0), .val (.int (3 : Int32)), .val (.ref b3), .val (.int (17 : Int32))] [(.int (17 : Int32)), (.int (3 : Int32)), (.int (17 : Int32)), (.ref b3)])) (fun t k => ?_) ?_
  · refine X38.ldc2Long hx hown (mvT hZ (hw _ (List.mem_of_getElem? (i := 16) rfl))) (g := (mkF m 34 #[.val (.ref o0), .val (.int (3 : Int32)), .val (.ref b3), .val (.int (17 : Int32))] [(.long (ct3_g25p 16))])) rfl (hb hby d1_34) _ ?_
    refine XS.lcmp X38.here hx rfl (hb hby d1_37) rfl ?_
    refine XS.ifYes X38.here hx rfl (pc0 := 38) (pc' := 16) rfl (hb hby d1_38) rfl ((if0 _ _).trans (flt (fun q_ => (show ¬ ((2147483647 : Int64) < (ct3_g25p 16)) from (by decide +kernel)) ((lw_gt _ _).mp q_))).2.2.2) (by decide) (by decide) ?_
    refine XS.aloadN X38.here hx rfl (hb hby d1_16) rfl rfl ?_
    refine XS.iloadN X38.here hx rfl (hb hby d1_17) rfl ?_
    refine XS.iloadN X38.here hx rfl (hb hby d1_18) rfl ?_
    refine XS.iloadN X38.here hx rfl (hb hby d1_19) rfl ?_
    exact k
  obtain ⟨_, _, ⟨T39, L39, k39, n39⟩, -, X39, ⟨Lc39, hQ39, l39, y39, z39⟩, st39⟩ := Jvm.LawKit.callS X38 hx (y := (⟨"com/example/bitmend/bitmend/CodeParameters", "columns", "(II)J"⟩ : MethodName)) hown (mvT hZ (hw _ (List.mem_of_getElem? (i := 12) rfl))) (mvT hZ (hw _ (List.mem_of_getElem? (i := 13) rfl))) (mvT hZ (hw _ (List.mem_of_getElem? (i := 14) rfl))) (mvT hZ (hw _ (List.mem_of_getElem? (i := 15) rfl))) (by decide) (backOf (W := 2) (rm3 l Z a0 hw [] (3 : Int32) (17 : Int32) h38 n0 (by decide)) hZ (hw _ (List.mem_of_getElem? (i := 15) rfl)) (hw _ (List.mem_of_getElem? (i := 14) rfl)) (by decide) (by decide)) (g := (mkF m 20 #[.val (.ref o0), .val (.int (3 : Int32)), .val (.ref b3), .val (.int (17 : Int32))] [(.int (17 : Int32)), (.int (3 : Int32)), (.int (17 : Int32)), (.ref b3)])) rfl (by rw [hml]; rfl) (argsL := [(.int (3 : Int32)), (.int (17 : Int32))]) (rest := [(.int (17 : Int32)), (.ref b3)]) (lenOf pd_2 rfl) rfl (by show 2 * 0 + _ ≤ _; exact Nat.le_of_eq rfl) (hb hby d1_20) (fun _ _ => ⟨rfl, e38, (by decide : 1 + 0 ≤ _), (by decide : 33 + 0 ≤ _)⟩)
  dsimp only [Pt.U, Pt.locs, Pt.cells, Pt.slots] at X39 l39 y39 z39 st39 hQ39
  subst l39 y39 z39
  obtain ⟨rfl, N39q, e39⟩ := hQ39
  have N39 := Fr.app N38 N39q
  obtain ⟨Lh39, X39, N39⟩ := hide X39 N39 (C := 1) (S := 33) (by decide) (by decide)
  refine Outs.of st39 ?_
  refine Outs.of (U' := T39.setTop (mkF m 25 #[.val (.ref o0), .val (.int (3 : Int32)), .val (.ref b3), .val (.int (17 : Int32))] [(.long ((F_f3 (3 : Int32) (17 : Int32)) + (1 : Int64))), (.int (17 : Int32)), (.ref b3)])) (fun t k => ?_) ?_
  · refine XS.lconst X39.here hx rfl (hb hby d1_23) ?_
    refine XS.ladd X39.here hx rfl (hb hby d1_24) rfl ?_
    exact k
  obtain ⟨T40, h40, X40, e40, W40, V40, st40⟩ := puJ X39 hx hZ e39 V38 (j := (17 : Int32)) (x := ((F_f3 (3 : Int32) (17 : Int32)) + (1 : Int64))) (k := 17) rfl (by decide) (f := (mkF m 25 #[.val (.ref o0), .val (.int (3 : Int32)), .val (.ref b3), .val (.int (17 : Int32))] [(.long ((F_f3 (3 : Int32) (17 : Int32)) + (1 : Int64))), (.int (17 : Int32)), (.ref b3)])) rfl rfl (hb hby d1_25)
  replace V40 : AJ Z h40 b3 .long 33 ct3_g25q := V40
  have N40 := Fr.snoc X40 N39 g_b3
  obtain ⟨Lh40, X40, N40⟩ := hide X40 N40 (C := 1) (S := 33) (by decide) (by decide)
  refine Outs.of st40 ?_
  refine Outs.of (U' := T40.setTop (mkF m 33 #[.val (.ref o0), .val (.int (3 : Int32)), .val (.ref b3), .val (.int (18 : Int32))] [(.int (17 : Int32)), (.ref b3)])) (fun t k => ?_) ?_
  · refine XS.iinc X40.here hx rfl (hb hby d1_26) rfl (l' := #[.val (.ref o0), .val (.int (3 : Int32)), .val (.ref b3), .val (.int (18 : Int32))]) rfl ?_
    refine XS.aloadN X40.here hx rfl (hb hby d1_29) rfl rfl ?_
    refine XS.iloadN X40.here hx rfl (hb hby d1_30) rfl ?_
    refine XS.iconst X40.here hx rfl (hb hby d1_31) ?_
    refine XS.isub X40.here hx rfl (hb hby d1_32) rfl ?_
    exact k
  refine Outs.of (ldJ X40 hx hZ e40 V40 (j := (17 : Int32)) (k := 17) rfl (by decide) (f := (mkF m 33 #[.val (.ref o0), .val (.int (3 : Int32)), .val (.ref b3), .val (.int (18 : Int32))] [(.int (17 : Int32)), (.ref b3)])) rfl rfl (hb hby d1_33)) ?_
  refine Outs.of (U' := T40.setTop (mkF m 20 #[.val (.ref o0), .val (.int (3 : Int32)), .val (.ref b3), .val (.int (18 : Int32))] [(.int (18 : Int32)), (.int (3 : Int32)), (.int (18 : Int32)), (.ref b3)])) (fun t k => ?_) ?_
  · refine X40.ldc2Long hx hown (mvT hZ (hw _ (List.mem_of_getElem? (i := 16) rfl))) (g := (mkF m 34 #[.val (.ref o0), .val (.int (3 : Int32)), .val (.ref b3), .val (.int (18 : Int32))] [(.long (ct3_g25q 17))])) rfl (hb hby d1_34) _ ?_
    refine XS.lcmp X40.here hx rfl (hb hby d1_37) rfl ?_
    refine XS.ifYes X40.here hx rfl (pc0 := 38) (pc' := 16) rfl (hb hby d1_38) rfl ((if0 _ _).trans (flt (fun q_ => (show ¬ ((2147483647 : Int64) < (ct3_g25q 17)) from (by decide +kernel)) ((lw_gt _ _).mp q_))).2.2.2) (by decide) (by decide) ?_
    refine XS.aloadN X40.here hx rfl (hb hby d1_16) rfl rfl ?_
    refine XS.iloadN X40.here hx rfl (hb hby d1_17) rfl ?_
    refine XS.iloadN X40.here hx rfl (hb hby d1_18) rfl ?_
    refine XS.iloadN X40.here hx rfl (hb hby d1_19) rfl ?_
    exact k
  obtain ⟨_, _, ⟨T41, L41, k41, n41⟩, -, X41, ⟨Lc41, hQ41, l41, y41, z41⟩, st41⟩ := Jvm.LawKit.callS X40 hx (y := (⟨"com/example/bitmend/bitmend/CodeParameters", "columns", "(II)J"⟩ : MethodName)) hown (mvT hZ (hw _ (List.mem_of_getElem? (i := 12) rfl))) (mvT hZ (hw _ (List.mem_of_getElem? (i := 13) rfl))) (mvT hZ (hw _ (List.mem_of_getElem? (i := 14) rfl))) (mvT hZ (hw _ (List.mem_of_getElem? (i := 15) rfl))) (by decide) (backOf (W := 2) (rm3 l Z a0 hw [] (3 : Int32) (18 : Int32) h40 n0 (by decide)) hZ (hw _ (List.mem_of_getElem? (i := 15) rfl)) (hw _ (List.mem_of_getElem? (i := 14) rfl)) (by decide) (by decide)) (g := (mkF m 20 #[.val (.ref o0), .val (.int (3 : Int32)), .val (.ref b3), .val (.int (18 : Int32))] [(.int (18 : Int32)), (.int (3 : Int32)), (.int (18 : Int32)), (.ref b3)])) rfl (by rw [hml]; rfl) (argsL := [(.int (3 : Int32)), (.int (18 : Int32))]) (rest := [(.int (18 : Int32)), (.ref b3)]) (lenOf pd_2 rfl) rfl (by show 2 * 0 + _ ≤ _; exact Nat.le_of_eq rfl) (hb hby d1_20) (fun _ _ => ⟨rfl, e40, (by decide : 1 + 0 ≤ _), (by decide : 33 + 0 ≤ _)⟩)
  dsimp only [Pt.U, Pt.locs, Pt.cells, Pt.slots] at X41 l41 y41 z41 st41 hQ41
  subst l41 y41 z41
  obtain ⟨rfl, N41q, e41⟩ := hQ41
  have N41 := Fr.app N40 N41q
  obtain ⟨Lh41, X41, N41⟩ := hide X41 N41 (C := 1) (S := 33) (by decide) (by decide)
  refine Outs.of st41 ?_
  refine Outs.of (U' := T41.setTop (mkF m 25 #[.val (.ref o0), .val (.int (3 : Int32)), .val (.ref b3), .val (.int (18 : Int32))] [(.long ((F_f3 (3 : Int32) (18 : Int32)) + (1 : Int64))), (.int (18 : Int32)), (.ref b3)])) (fun t k => ?_) ?_
  · refine XS.lconst X41.here hx rfl (hb hby d1_23) ?_
    refine XS.ladd X41.here hx rfl (hb hby d1_24) rfl ?_
    exact k
  obtain ⟨T42, h42, X42, e42, W42, V42, st42⟩ := puJ X41 hx hZ e41 V40 (j := (18 : Int32)) (x := ((F_f3 (3 : Int32) (18 : Int32)) + (1 : Int64))) (k := 18) rfl (by decide) (f := (mkF m 25 #[.val (.ref o0), .val (.int (3 : Int32)), .val (.ref b3), .val (.int (18 : Int32))] [(.long ((F_f3 (3 : Int32) (18 : Int32)) + (1 : Int64))), (.int (18 : Int32)), (.ref b3)])) rfl rfl (hb hby d1_25)
  replace V42 : AJ Z h42 b3 .long 33 ct3_g25r := V42
  have N42 := Fr.snoc X42 N41 g_b3
  obtain ⟨Lh42, X42, N42⟩ := hide X42 N42 (C := 1) (S := 33) (by decide) (by decide)
  refine Outs.of st42 ?_
  refine Outs.of (U' := T42.setTop (mkF m 33 #[.val (.ref o0), .val (.int (3 : Int32)), .val (.ref b3), .val (.int (19 : Int32))] [(.int (18 : Int32)), (.ref b3)])) (fun t k => ?_) ?_
  · refine XS.iinc X42.here hx rfl (hb hby d1_26) rfl (l' := #[.val (.ref o0), .val (.int (3 : Int32)), .val (.ref b3), .val (.int (19 : Int32))]) rfl ?_
    refine XS.aloadN X42.here hx rfl (hb hby d1_29) rfl rfl ?_
    refine XS.iloadN X42.here hx rfl (hb hby d1_30) rfl ?_
    refine XS.iconst X42.here hx rfl (hb hby d1_31) ?_
    refine XS.isub X42.here hx rfl (hb hby d1_32) rfl ?_
    exact k
  refine Outs.of (ldJ X42 hx hZ e42 V42 (j := (18 : Int32)) (k := 18) rfl (by decide) (f := (mkF m 33 #[.val (.ref o0), .val (.int (3 : Int32)), .val (.ref b3), .val (.int (19 : Int32))] [(.int (18 : Int32)), (.ref b3)])) rfl rfl (hb hby d1_33)) ?_
  refine Outs.of (U' := T42.setTop (mkF m 20 #[.val (.ref o0), .val (.int (3 : Int32)), .val (.ref b3), .val (.int (19 : Int32))] [(.int (19 : Int32)), (.int (3 : Int32)), (.int (19 : Int32)), (.ref b3)])) (fun t k => ?_) ?_
  · refine X42.ldc2Long hx hown (mvT hZ (hw _ (List.mem_of_getElem? (i := 16) rfl))) (g := (mkF m 34 #[.val (.ref o0), .val (.int (3 : Int32)), .val (.ref b3), .val (.int (19 : Int32))] [(.long (ct3_g25r 18))])) rfl (hb hby d1_34) _ ?_
    refine XS.lcmp X42.here hx rfl (hb hby d1_37) rfl ?_
    refine XS.ifYes X42.here hx rfl (pc0 := 38) (pc' := 16) rfl (hb hby d1_38) rfl ((if0 _ _).trans (flt (fun q_ => (show ¬ ((2147483647 : Int64) < (ct3_g25r 18)) from (by decide +kernel)) ((lw_gt _ _).mp q_))).2.2.2) (by decide) (by decide) ?_
    refine XS.aloadN X42.here hx rfl (hb hby d1_16) rfl rfl ?_
    refine XS.iloadN X42.here hx rfl (hb hby d1_17) rfl ?_
    refine XS.iloadN X42.here hx rfl (hb hby d1_18) rfl ?_
    refine XS.iloadN X42.here hx rfl (hb hby d1_19) rfl ?_
    exact k
  obtain ⟨_, _, ⟨T43, L43, k43, n43⟩, -, X43, ⟨Lc43, hQ43, l43, y43, z43⟩, st43⟩ := Jvm.LawKit.callS X42 hx (y := (⟨"com/example/bitmend/bitmend/CodeParameters", "columns", "(II)J"⟩ : MethodName)) hown (mvT hZ (hw _ (List.mem_of_getElem? (i := 12) rfl))) (mvT hZ (hw _ (List.mem_of_getElem? (i := 13) rfl))) (mvT hZ (hw _ (List.mem_of_getElem? (i := 14) rfl))) (mvT hZ (hw _ (List.mem_of_getElem? (i := 15) rfl))) (by decide) (backOf (W := 2) (rm3 l Z a0 hw [] (3 : Int32) (19 : Int32) h42 n0 (by decide)) hZ (hw _ (List.mem_of_getElem? (i := 15) rfl)) (hw _ (List.mem_of_getElem? (i := 14) rfl)) (by decide) (by decide)) (g := (mkF m 20 #[.val (.ref o0), .val (.int (3 : Int32)), .val (.ref b3), .val (.int (19 : Int32))] [(.int (19 : Int32)), (.int (3 : Int32)), (.int (19 : Int32)), (.ref b3)])) rfl (by rw [hml]; rfl) (argsL := [(.int (3 : Int32)), (.int (19 : Int32))]) (rest := [(.int (19 : Int32)), (.ref b3)]) (lenOf pd_2 rfl) rfl (by show 2 * 0 + _ ≤ _; exact Nat.le_of_eq rfl) (hb hby d1_20) (fun _ _ => ⟨rfl, e42, (by decide : 1 + 0 ≤ _), (by decide : 33 + 0 ≤ _)⟩)
  dsimp only [Pt.U, Pt.locs, Pt.cells, Pt.slots] at X43 l43 y43 z43 st43 hQ43
  subst l43 y43 z43
  obtain ⟨rfl, N43q, e43⟩ := hQ43
  have N43 := Fr.app N42 N43q
  obtain ⟨Lh43, X43, N43⟩ := hide X43 N43 (C := 1) (S := 33) (by decide) (by decide)
  refine Outs.of st43 ?_
  refine Outs.of (U' := T43.setTop (mkF m 25 #[.val (.ref o0), .val (.int (3 : Int32)), .val (.ref b3), .val (.int (19 : Int32))] [(.long ((F_f3 (3 : Int32) (19 : Int32)) + (1 : Int64))), (.int (19 : Int32)), (.ref b3)])) (fun t k => ?_) ?_
  · refine XS.lconst X43.here hx rfl (hb hby d1_23) ?_
    refine XS.ladd X43.here hx rfl (hb hby d1_24) rfl ?_
    exact k
  obtain ⟨T44, h44, X44, e44, W44, V44, st44⟩ := puJ X43 hx hZ e43 V42 (j := (19 : Int32)) (x := ((F_f3 (3 : Int32) (19 : Int32)) + (1 : Int64))) (k := 19) rfl (by decide) (f := (mkF m 25 #[.val (.ref o0), .val (.int (3 : Int32)), .val (.ref b3), .val (.int (19 : Int32))] [(.long ((F_f3 (3 : Int32) (19 : Int32)) + (1 : Int64))), (.int (19 : Int32)), (.ref b3)])) rfl rfl (hb hby d1_25)
  replace V44 : AJ Z h44 b3 .long 33 ct3_g25s := V44
  have N44 := Fr.snoc X44 N43 g_b3
  obtain ⟨Lh44, X44, N44⟩ := hide X44 N44 (C := 1) (S := 33) (by decide) (by decide)
  refine Outs.of st44 ?_
  refine Outs.of (U' := T44.setTop (mkF m 33 #[.val (.ref o0), .val (.int (3 : Int32)), .val (.ref b3), .val (.int (20 : Int32))] [(.int (19 : Int32)), (.ref b3)])) (fun t k => ?_) ?_
  · refine XS.iinc X44.here hx rfl (hb hby d1_26) rfl (l' := #[.val (.ref o0), .val (.int (3 : Int32)), .val (.ref b3), .val (.int (20 : Int32))]) rfl ?_
    refine XS.aloadN X44.here hx rfl (hb hby d1_29) rfl rfl ?_
    refine XS.iloadN X44.here hx rfl (hb hby d1_30) rfl ?_
    refine XS.iconst X44.here hx rfl (hb hby d1_31) ?_
    refine XS.isub X44.here hx rfl (hb hby d1_32) rfl ?_
    exact k
  refine Outs.of (ldJ X44 hx hZ e44 V44 (j := (19 : Int32)) (k := 19) rfl (by decide) (f := (mkF m 33 #[.val (.ref o0), .val (.int (3 : Int32)), .val (.ref b3), .val (.int (20 : Int32))] [(.int (19 : Int32)), (.ref b3)])) rfl rfl (hb hby d1_33)) ?_
  refine Outs.of (U' := T44.setTop (mkF m 20 #[.val (.ref o0), .val (.int (3 : Int32)), .val (.ref b3), .val (.int (20 : Int32))] [(.int (20 : Int32)), (.int (3 : Int32)), (.int (20 : Int32)), (.ref b3)])) (fun t k => ?_) ?_
  · refine X44.ldc2Long hx hown (mvT hZ (hw _ (List.mem_of_getElem? (i := 16) rfl))) (g := (mkF m 34 #[.val (.ref o0), .val (.int (3 : Int32)), .val (.ref b3), .val (.int (20 : Int32))] [(.long (ct3_g25s 19))])) rfl (hb hby d1_34) _ ?_
    refine XS.lcmp X44.here hx rfl (hb hby d1_37) rfl ?_
    refine XS.ifYes X44.here hx rfl (pc0 := 38) (pc' := 16) rfl (hb hby d1_38) rfl ((if0 _ _).trans (flt (fun q_ => (show ¬ ((2147483647 : Int64) < (ct3_g25s 19)) from (by decide +kernel)) ((lw_gt _ _).mp q_))).2.2.2) (by decide) (by decide) ?_
    refine XS.aloadN X44.here hx rfl (hb hby d1_16) rfl rfl ?_
    refine XS.iloadN X44.here hx rfl (hb hby d1_17) rfl ?_
    refine XS.iloadN X44.here hx rfl (hb hby d1_18) rfl ?_
    refine XS.iloadN X44.here hx rfl (hb hby d1_19) rfl ?_
    exact k
  obtain ⟨_, _, ⟨T45, L45, k45, n45⟩, -, X45, ⟨Lc45, hQ45, l45, y45, z45⟩, st45⟩ := Jvm.LawKit.callS X44 hx (y := (⟨"com/example/bitmend/bitmend/CodeParameters", "columns", "(II)J"⟩ : MethodName)) hown (mvT hZ (hw _ (List.mem_of_getElem? (i := 12) rfl))) (mvT hZ (hw _ (List.mem_of_getElem? (i := 13) rfl))) (mvT hZ (hw _ (List.mem_of_getElem? (i := 14) rfl))) (mvT hZ (hw _ (List.mem_of_getElem? (i := 15) rfl))) (by decide) (backOf (W := 2) (rm3 l Z a0 hw [] (3 : Int32) (20 : Int32) h44 n0 (by decide)) hZ (hw _ (List.mem_of_getElem? (i := 15) rfl)) (hw _ (List.mem_of_getElem? (i := 14) rfl)) (by decide) (by decide)) (g := (mkF m 20 #[.val (.ref o0), .val (.int (3 : Int32)), .val (.ref b3), .val (.int (20 : Int32))] [(.int (20 : Int32)), (.int (3 : Int32)), (.int (20 : Int32)), (.ref b3)])) rfl (by rw [hml]; rfl) (argsL := [(.int (3 : Int32)), (.int (20 : Int32))]) (rest := [(.int (20 : Int32)), (.ref b3)]) (lenOf pd_2 rfl) rfl (by show 2 * 0 + _ ≤ _; exact Nat.le_of_eq rfl) (hb hby d1_20) (fun _ _ => ⟨rfl, e44, (by decide : 1 + 0 ≤ _), (by decide : 33 + 0 ≤ _)⟩)
  dsimp only [Pt.U, Pt.locs, Pt.cells, Pt.slots] at X45 l45 y45 z45 st45 hQ45
  subst l45 y45 z45
  obtain ⟨rfl, N45q, e45⟩ := hQ45
  have N45 := Fr.app N44 N45q
  obtain ⟨Lh45, X45, N45⟩ := hide X45 N45 (C := 1) (S := 33) (by decide) (by decide)
  refine Outs.of st45 ?_
  refine Outs.of (U' := T45.setTop (mkF m 25 #[.val (.ref o0), .val (.int (3 : Int32)), .val (.ref b3), .val (.int (20 : Int32))] [(.long ((F_f3 (3 : Int32) (20 : Int32)) + (1 : Int64))), (.int (20 : Int32)), (.ref b3)])) (fun t k => ?_) ?_
  · refine XS.lconst X45.here hx rfl (hb hby d1_23) ?_
    refine XS.ladd X45.here hx rfl (hb hby d1_24) rfl ?_
    exact k
  obtain ⟨T46, h46, X46, e46, W46, V46, st46⟩ := puJ X45 hx hZ e45 V44 (j := (20 : Int32)) (x := ((F_f3 (3 : Int32) (20 : Int32)) + (1 : Int64))) (k := 20) rfl (by decide) (f := (mkF m 25 #[.val (.ref o0), .val (.int (3 : Int32)), .val (.ref b3), .val (.int (20 : Int32))] [(.long ((F_f3 (3 : Int32) (20 : Int32)) + (1 : Int64))), (.int (20 : Int32)), (.ref b3)])) rfl rfl (hb hby d1_25)
  replace V46 : AJ Z h46 b3 .long 33 ct3_g25t := V46
  have N46 := Fr.snoc X46 N45 g_b3
  obtain ⟨Lh46, X46, N46⟩ := hide X46 N46 (C := 1) (S := 33) (by decide) (by decide)
  refine Outs.of st46 ?_
  refine Outs.of (U' := T46.setTop (mkF m 33 #[.val (.ref o0), .val (.int (3 : Int32)), .val (.ref b3), .val (.int (21 : Int32))] [(.int (20 : Int32)), (.ref b3)])) (fun t k => ?_) ?_
  · refine XS.iinc X46.here hx rfl (hb hby d1_26) rfl (l' := #[.val (.ref o0), .val (.int (3 : Int32)), .val (.ref b3), .val (.int (21 : Int32))]) rfl ?_
    refine XS.aloadN X46.here hx rfl (hb hby d1_29) rfl rfl ?_
    refine XS.iloadN X46.here hx rfl (hb hby d1_30) rfl ?_
    refine XS.iconst X46.here hx rfl (hb hby d1_31) ?_
    refine XS.isub X46.here hx rfl (hb hby d1_32) rfl ?_
    exact k
  refine Outs.of (ldJ X46 hx hZ e46 V46 (j := (20 : Int32)) (k := 20) rfl (by decide) (f := (mkF m 33 #[.val (.ref o0), .val (.int (3 : Int32)), .val (.ref b3), .val (.int (21 : Int32))] [(.int (20 : Int32)), (.ref b3)])) rfl rfl (hb hby d1_33)) ?_
  refine Outs.of (U' := T46.setTop (mkF m 20 #[.val (.ref o0), .val (.int (3 : Int32)), .val (.ref b3), .val (.int (21 : Int32))] [(.int (21 : Int32)), (.int (3 : Int32)), (.int (21 : Int32)), (.ref b3)])) (fun t k => ?_) ?_
  · refine X46.ldc2Long hx hown (mvT hZ (hw _ (List.mem_of_getElem? (i := 16) rfl))) (g := (mkF m 34 #[.val (.ref o0), .val (.int (3 : Int32)), .val (.ref b3), .val (.int (21 : Int32))] [(.long (ct3_g25t 20))])) rfl (hb hby d1_34) _ ?_
    refine XS.lcmp X46.here hx rfl (hb hby d1_37) rfl ?_
    refine XS.ifYes X46.here hx rfl (pc0 := 38) (pc' := 16) rfl (hb hby d1_38) rfl ((if0 _ _).trans (flt (fun q_ => (show ¬ ((2147483647 : Int64) < (ct3_g25t 20)) from (by decide +kernel)) ((lw_gt _ _).mp q_))).2.2.2) (by decide) (by decide) ?_
    refine XS.aloadN X46.here hx rfl (hb hby d1_16) rfl rfl ?_
    refine XS.iloadN X46.here hx rfl (hb hby d1_17) rfl ?_
    refine XS.iloadN X46.here hx rfl (hb hby d1_18) rfl ?_
    refine XS.iloadN X46.here hx rfl (hb hby d1_19) rfl ?_
    exact k
  obtain ⟨_, _, ⟨T47, L47, k47, n47⟩, -, X47, ⟨Lc47, hQ47, l47, y47, z47⟩, st47⟩ := Jvm.LawKit.callS X46 hx (y := (⟨"com/example/bitmend/bitmend/CodeParameters", "columns", "(II)J"⟩ : MethodName)) hown (mvT hZ (hw _ (List.mem_of_getElem? (i := 12) rfl))) (mvT hZ (hw _ (List.mem_of_getElem? (i := 13) rfl))) (mvT hZ (hw _ (List.mem_of_getElem? (i := 14) rfl))) (mvT hZ (hw _ (List.mem_of_getElem? (i := 15) rfl))) (by decide) (backOf (W := 2) (rm3 l Z a0 hw [] (3 : Int32) (21 : Int32) h46 n0 (by decide)) hZ (hw _ (List.mem_of_getElem? (i := 15) rfl)) (hw _ (List.mem_of_getElem? (i := 14) rfl)) (by decide) (by decide)) (g := (mkF m 20 #[.val (.ref o0), .val (.int (3 : Int32)), .val (.ref b3), .val (.int (21 : Int32))] [(.int (21 : Int32)), (.int (3 : Int32)), (.int (21 : Int32)), (.ref b3)])) rfl (by rw [hml]; rfl) (argsL := [(.int (3 : Int32)), (.int (21 : Int32))]) (rest := [(.int (21 : Int32)), (.ref b3)]) (lenOf pd_2 rfl) rfl (by show 2 * 0 + _ ≤ _; exact Nat.le_of_eq rfl) (hb hby d1_20) (fun _ _ => ⟨rfl, e46, (by decide : 1 + 0 ≤ _), (by decide : 33 + 0 ≤ _)⟩)
  dsimp only [Pt.U, Pt.locs, Pt.cells, Pt.slots] at X47 l47 y47 z47 st47 hQ47
  subst l47 y47 z47
  obtain ⟨rfl, N47q, e47⟩ := hQ47
  have N47 := Fr.app N46 N47q
  obtain ⟨Lh47, X47, N47⟩ := hide X47 N47 (C := 1) (S := 33) (by decide) (by decide)
  refine Outs.of st47 ?_
  refine Outs.of (U' := T47.setTop (mkF m 25 #[.val (.ref o0), .val (.int (3 : Int32)), .val (.ref b3), .val (.int (21 : Int32))] [(.long ((F_f3 (3 : Int32) (21 : Int32)) + (1 : Int64))), (.int (21 : Int32)), (.ref b3)])) (fun t k => ?_) ?_
  · refine XS.lconst X47.here hx rfl (hb hby d1_23) ?_
    refine XS.ladd X47.here hx rfl (hb hby d1_24) rfl ?_
    exact k
  obtain ⟨T48, h48, X48, e48, W48, V48, st48⟩ := puJ X47 hx hZ e47 V46 (j := (21 : Int32)) (x := ((F_f3 (3 : Int32) (21 : Int32)) + (1 : Int64))) (k := 21) rfl (by decide) (f := (mkF m 25 #[.val (.ref o0), .val (.int (3 : Int32)), .val (.ref b3), .val (.int (21 : Int32))] [(.long ((F_f3 (3 : Int32) (21 : Int32)) + (1 : Int64))), (.int (21 : Int32)), (.ref b3)])) rfl rfl (hb hby d1_25)
  replace V48 : AJ Z h48 b3 .long 33 ct3_g25u := V48
  have N48 := Fr.snoc X48 N47 g_b3
  obtain ⟨Lh48, X48, N48⟩ := hide X48 N48 (C := 1) (S := 33) (by decide) (by decide)
  refine Outs.of st48 ?_
  refine Outs.of (U' := T48.setTop (mkF m 33 #[.val (.ref o0), .val (.int (3 : Int32)), .val (.ref b3), .val (.int (22 : Int32))] [(.int (21 : Int32)), (.ref b3)])) (fun t k => ?_) ?_
  · refine XS.iinc X48.here hx rfl (hb hby d1_26) rfl (l' := #[.val (.ref o0), .val (.int (3 : Int32)), .val (.ref b3), .val (.int (22 : Int32))]) rfl ?_
    refine XS.aloadN X48.here hx rfl (hb hby d1_29) rfl rfl ?_
    refine XS.iloadN X48.here hx rfl (hb hby d1_30) rfl ?_
    refine XS.iconst X48.here hx rfl (hb hby d1_31) ?_
    refine XS.isub X48.here hx rfl (hb hby d1_32) rfl ?_
    exact k
  refine Outs.of (ldJ X48 hx hZ e48 V48 (j := (21 : Int32)) (k := 21) rfl (by decide) (f := (mkF m 33 #[.val (.ref o0), .val (.int (3 : Int32)), .val (.ref b3), .val (.int (22 : Int32))] [(.int (21 : Int32)), (.ref b3)])) rfl rfl (hb hby d1_33)) ?_
  refine Outs.of (U' := T48.setTop (mkF m 44 #[.val (.ref o0), .val (.int (3 : Int32)), .val (.ref b3), .val (.int (22 : Int32))] [(.int (22 : Int32)), (.ref b3), (.ref o0)])) (fun t k => ?_) ?_
  · refine X48.ldc2Long hx hown (mvT hZ (hw _ (List.mem_of_getElem? (i := 16) rfl))) (g := (mkF m 34 #[.val (.ref o0), .val (.int (3 : Int32)), .val (.ref b3), .val (.int (22 : Int32))] [(.long (ct3_g25u 21))])) rfl (hb hby d1_34) _ ?_
    refine XS.lcmp X48.here hx rfl (hb hby d1_37) rfl ?_
    refine XS.ifNo X48.here hx rfl (hb hby d1_38) rfl ((if0 _ _).trans (tlt ((lw_gt _ _).mpr (show (2147483647 : Int64) < (ct3_g25u 21) from (by decide +kernel)))).2.2.2) ?_
    refine XS.aloadN X48.here hx rfl (hb hby d1_41) rfl rfl ?_
    refine XS.aloadN X48.here hx rfl (hb hby d1_42) rfl rfl ?_
    refine XS.iloadN X48.here hx rfl (hb hby d1_43) rfl ?_
    exact k
  have f49 : Exa Z h48 o0 "com/example/bitmend/bitmend/PositionalColumns" := (((((((((((((((((((((((f4.ext E3).wr W6).wr W8).wr W10).wr W12).wr W14).wr W16).wr W18).wr W20).wr W22).wr W24).wr W26).wr W28).wr W30).wr W32).wr W34).wr W36).wr W38).wr W40).wr W42).wr W44).wr W46).wr W48)
  obtain ⟨_, _, ⟨T50, L50, k50, n50⟩, -, X50, ⟨Lc50, hQ50, l50, y50, z50⟩, st50⟩ := Jvm.LawKit.callS X48 hx (y := (⟨"java/util/Arrays", "copyOf", "([JI)[J"⟩ : MethodName)) hown (mvT hZ (hw _ (List.mem_of_getElem? (i := 17) rfl))) (mvT hZ (hw _ (List.mem_of_getElem? (i := 18) rfl))) (mvT hZ (hw _ (List.mem_of_getElem? (i := 19) rfl))) (mvT hZ (hw _ (List.mem_of_getElem? (i := 20) rfl))) (by decide) (backOf (W := 1) (rmcp3 l Z a0 hw [] b3 ct3_g25u h48 n0 (Nat.le_trans (Nat.le_trans (Nat.le_trans (Nat.le_trans (Nat.le_trans (Nat.le_trans (Nat.le_trans (Nat.le_trans (Nat.le_trans (Nat.le_trans (Nat.le_trans (Nat.le_trans (Nat.le_trans (Nat.le_trans (Nat.le_trans (Nat.le_trans (Nat.le_trans (Nat.le_trans (Nat.le_trans (Nat.le_trans (Nat.le_trans (Nat.le_trans (Nat.le_trans (Nat.le_trans Z0 (Keep.of_wr W2).1) E3.1) (Keep.of_wr W6).1) (Keep.of_wr W8).1) (Keep.of_wr W10).1) (Keep.of_wr W12).1) (Keep.of_wr W14).1) (Keep.of_wr W16).1) (Keep.of_wr W18).1) (Keep.of_wr W20).1) (Keep.of_wr W22).1) (Keep.of_wr W24).1) (Keep.of_wr W26).1) (Keep.of_wr W28).1) (Keep.of_wr W30).1) (Keep.of_wr W32).1) (Keep.of_wr W34).1) (Keep.of_wr W36).1) (Keep.of_wr W38).1) (Keep.of_wr W40).1) (Keep.of_wr W42).1) (Keep.of_wr W44).1) (Keep.of_wr W46).1) (Keep.of_wr W48).1) V48) hZ (hw _ (List.mem_of_getElem? (i := 20) rfl)) (hw _ (List.mem_of_getElem? (i := 19) rfl)) (by decide) (by decide)) (g := (mkF m 44 #[.val (.ref o0), .val (.int (3 : Int32)), .val (.ref b3), .val (.int (22 : Int32))] [(.int (22 : Int32)), (.ref b3), (.ref o0)])) rfl (by rw [hml]; rfl) (argsL := [(.ref b3), (.int (22 : Int32))]) (rest := [(.ref o0)]) (lenOf pd_3 rfl) rfl (by show 2 * 0 + _ ≤ _; exact Nat.le_of_eq rfl) (hb hby d1_44) (fun _ _ => ⟨rfl, e48, (by decide : 1 + 1 ≤ _), (by decide : 33 + 22 ≤ _)⟩)
  dsimp only [Pt.U, Pt.locs, Pt.cells, Pt.slots] at X50 l50 y50 z50 st50 hQ50
  subst l50 y50 z50
  obtain ⟨b50, g_b50, hs_b50, rfl, N50q, K50, u50_0⟩ := hQ50
  have N50 := Fr.app N48 N50q
  have sz_b50 : h0.size ≤ b50 := Nat.le_trans (((((((((((((((((((((((((Keep.refl h0 [o0]).wr W2 (Or.inl (List.mem_of_getElem? (i := 0) rfl))).ext E3).wr W6 (Or.inr sz_b3)).wr W8 (Or.inr sz_b3)).wr W10 (Or.inr sz_b3)).wr W12 (Or.inr sz_b3)).wr W14 (Or.inr sz_b3)).wr W16 (Or.inr sz_b3)).wr W18 (Or.inr sz_b3)).wr W20 (Or.inr sz_b3)).wr W22 (Or.inr sz_b3)).wr W24 (Or.inr sz_b3)).wr W26 (Or.inr sz_b3)).wr W28 (Or.inr sz_b3)).wr W30 (Or.inr sz_b3)).wr W32 (Or.inr sz_b3)).wr W34 (Or.inr sz_b3)).wr W36 (Or.inr sz_b3)).wr W38 (Or.inr sz_b3)).wr W40 (Or.inr sz_b3)).wr W42 (Or.inr sz_b3)).wr W44 (Or.inr sz_b3)).wr W46 (Or.inr sz_b3)).wr W48 (Or.inr sz_b3)).1 hs_b50
  have ne_o0_b50 : o0 ≠ b50 := Nat.ne_of_lt (Nat.lt_of_lt_of_le f49.lt hs_b50)
  have ne_b3_b50 : b3 ≠ b50 := Nat.ne_of_lt (Nat.lt_of_lt_of_le V48.lt hs_b50)
  obtain ⟨Lh50, X50, N50⟩ := hide X50 N50 (C := 2) (S := 55) (by decide) (by decide)
  refine Outs.of st50 ?_
  have f52 : Exa Z T50.heap o0 "com/example/bitmend/bitmend/PositionalColumns" := (f49.keep K50)
  have f53 : Fld Z T50.heap o0 "com/example/bitmend/bitmend/PositionalColumns" "checkPositions" "[J" .null := (((((((((((((((((((((((((F_o0_checkPositions.other W2 (Or.inr (slot_ne (Or.inr (hw _ (List.mem_of_getElem? (i := 30) rfl))) (Or.inr (hw _ (List.mem_of_getElem? (i := 10) rfl))) (by decide) (t := (.array .long)) (t' := .int) (by decide) (by decide)))).ext E3).other W6 (Or.inl ne_o0_b3)).other W8 (Or.inl ne_o0_b3)).other W10 (Or.inl ne_o0_b3)).other W12 (Or.inl ne_o0_b3)).other W14 (Or.inl ne_o0_b3)).other W16 (Or.inl ne_o0_b3)).other W18 (Or.inl ne_o0_b3)).other W20 (Or.inl ne_o0_b3)).other W22 (Or.inl ne_o0_b3)).other W24 (Or.inl ne_o0_b3)).other W26 (Or.inl ne_o0_b3)).other W28 (Or.inl ne_o0_b3)).other W30 (Or.inl ne_o0_b3)).other W32 (Or.inl ne_o0_b3)).other W34 (Or.inl ne_o0_b3)).other W36 (Or.inl ne_o0_b3)).other W38 (Or.inl ne_o0_b3)).other W40 (Or.inl ne_o0_b3)).other W42 (Or.inl ne_o0_b3)).other W44 (Or.inl ne_o0_b3)).other W46 (Or.inl ne_o0_b3)).other W48 (Or.inl ne_o0_b3)).keep K50 nin0)
  obtain ⟨T51, h51, X51, e51, W51, st51⟩ := putF X50 hx hZ hown (host := "") (Or.inl (hw _ (List.mem_of_getElem? (i := 29) rfl))) Via.refl rfl f53 f52 (Or.inr ⟨(hw _ (List.mem_of_getElem? (i := 30) rfl)), rfl, hnm⟩) (hw _ (List.mem_of_getElem? (i := 1) rfl)) (ty := (.array .long)) (by decide) rfl rfl (g := (mkF m 47 #[.val (.ref o0), .val (.int (3 : Int32)), .val (.ref b3), .val (.int (22 : Int32))] [(.ref b50), (.ref o0)])) rfl rfl (hb hby d1_47)
  have F51 : Fld Z h51 o0 "com/example/bitmend/bitmend/PositionalColumns" "checkPositions" "[J" (.ref b50) := f53.same W51
  have N51 := Fr.snoc X51 N50 g_o0
  obtain ⟨Lh51, X51, N51⟩ := hide X51 N51 (C := 2) (S := 55) (by decide) (by decide)
  refine Outs.of st51 ?_
  have f54 : Exa Z h51 o0 "com/example/bitmend/bitmend/PositionalColumns" := (f52.wr W51)
  have f55 : AJ Z h51 b50 .long 22 (cp3_g28 ct3_g25u) := (u50_0.other W51 ne_o0_b50.symm)
  exact Outs.retV X51 hx hret (hb hby d1_50) hlk (by decide) (by decide) e51 ⟨b50, g_b50, sz_b50, rfl, N51, (((((((((((((((((((((((((((Keep.refl h0 [o0]).wr W2 (Or.inl (List.mem_of_getElem? (i := 0) rfl))).ext E3).wr W6 (Or.inr sz_b3)).wr W8 (Or.inr sz_b3)).wr W10 (Or.inr sz_b3)).wr W12 (Or.inr sz_b3)).wr W14 (Or.inr sz_b3)).wr W16 (Or.inr sz_b3)).wr W18 (Or.inr sz_b3)).wr W20 (Or.inr sz_b3)).wr W22 (Or.inr sz_b3)).wr W24 (Or.inr sz_b3)).wr W26 (Or.inr sz_b3)).wr W28 (Or.inr sz_b3)).wr W30 (Or.inr sz_b3)).wr W32 (Or.inr sz_b3)).wr W34 (Or.inr sz_b3)).wr W36 (Or.inr sz_b3)).wr W38 (Or.inr sz_b3)).wr W40 (Or.inr sz_b3)).wr W42 (Or.inr sz_b3)).wr W44 (Or.inr sz_b3)).wr W46 (Or.inr sz_b3)).wr W48 (Or.inr sz_b3)).trans K50 all0).wr W51 (Or.inl (List.mem_of_getElem? (i := 0) rfl))), f54, F51, f55⟩
def cp5_g28 (g : Nat → Int64) : Nat → Int64 := (fun j_ => if j_ < 16 then g j_ else (fun _ => (0 : Int64)) j_)
def Q_cp5 (Z : State) (o0 : Addr) (g : Nat → Int64) (h0 : Heap) (n0 : Nat) (v : Option Value) (h : Heap) (L : List Loc) : Prop := ∃ b1 : Addr, n0 ≤ b1 ∧ h0.size ≤ b1 ∧ v = some (.ref b1) ∧ Fr n0 L ∧ Keep h0 h [] ∧ AJ Z h b1 .long 16 (cp5_g28 g)
set_option maxRecDepth 65536 in
set_option maxHeartbeats 40000000 in
theorem rmcp5 (l : Launch) (Z : State) (a0 : Array Value) (hw : ∀ d ∈ tables_1, d.before a0 Z = true) (ws : List Jvm.Cond) (o0 : Addr) (g : Nat → Int64) (h0 : Heap) (n0 : Nat) (Z0 : n0 ≤ h0.size) (A_o0 : AJ Z h0 o0 .long 33 g) :
    MetFree l (⟨"java/util/Arrays", "copyOf", "([JI)[J"⟩ : MethodName) (head1 (Jvm.Cond.code (⟨"java/util/Arrays", "copyOf", "([JI)[J"⟩ : MethodName) jdk_65_method_124_code 3 (some (.array .long)) :: ws) ({ frames := 1, cells := 1, slots := 16, locals := 18 } : Room)) (fun a U => a = #[(.ref o0), (.int (16 : Int32))] ∧ Z.Warmed39 U.vm ∧ U.heap = h0) (fun _ _ _ _ _ => True) (fun _ U o U' => ∃ v L, o = .returned v ∧ Q_cp5 Z o0 g h0 n0 v U'.heap L ∧ FrameEnd U o U' L ({ frames := 1, cells := 1, slots := 16, locals := 18 } : Room).cells ({ frames := 1, cells := 1, slots := 16, locals := 18 } : Room).slots) := by
  refine MetFree.of_bodySF (plainFor_of_name pn_4) hisR ?_
  intro p e s m args below meth c s₁ Bd hml0 hP hK
  obtain ⟨rfl, hZ, hh⟩ := hP
  have hx := Bd.exec
  have hby := Bd.bytes
  have hml : c.maxLocals = 3 := hml0
  have hown : s.vm.findClass "java/util/Arrays" = some m.cls := findClass_of_methodNamed Bd.named
  have hnm := (name_of_methodNamed Bd.named Bd.method).1
  have hret := Bd.returns
  have hlk : meth.locks = false := BodyLoose.notSynchronized Bd
  have X0 : Stand p l e ({ frames := 1, cells := 1, slots := 16, locals := 18 } : Room) s m #[(.ref o0), (.int (16 : Int32))] below meth c s₁ [] 0 0 := Stand.of_body Bd
  have e0 : s₁.heap = h0 := by rw [← hh, Bd.state]; rfl
  have N0 := Fr.nil n0
  show Outs p e below s (Q_cp5 Z o0 g h0 n0) _ _ _
  refine Outs.of (U' := s₁.setTop (mkF m 0 #[.val (.ref o0), .val (.int (16 : Int32)), .unset] [])) (fun t k => castTop (ef_4 m o0 (16 : Int32)) k) ?_
  refine Outs.of (U' := s₁.setTop (mkF m 2 #[.val (.ref o0), .val (.int (16 : Int32)), .unset] [(.ref o0), (.int (16 : Int32))])) (fun t k => ?_) ?_
  · refine XS.iloadN X0.here hx rfl (hb hby d4_0) rfl ?_
    refine XS.aloadN X0.here hx rfl (hb hby d4_1) rfl rfl ?_
    exact k
  refine Outs.of (alen X0 hx hZ e0 A_o0 (z := (33 : Int32)) rfl (f := (mkF m 2 #[.val (.ref o0), .val (.int (16 : Int32)), .unset] [(.ref o0), (.int (16 : Int32))])) rfl rfl (hb hby d4_2)) ?_
  refine Outs.of (U' := s₁.setTop (mkF m 15 #[.val (.ref o0), .val (.int (16 : Int32)), .unset] [(.int (16 : Int32))])) (fun t k => ?_) ?_
  · refine XS.icmpYes X0.here hx rfl (pc0 := 3) (pc' := 14) rfl (hb hby d4_3) rfl (feq (show ¬ ((16 : Int32) = (33 : Int32)) from (by decide))).2 (by decide) (by decide) ?_
    refine XS.iloadN X0.here hx rfl (hb hby d4_14) rfl ?_
    exact k
  obtain ⟨T1, h1, X1, e1, E1, A1, st1⟩ := newAF X0 hx hZ (aty := .long) (hw _ (List.mem_of_getElem? (i := 11) rfl)) e0 (f := (mkF m 15 #[.val (.ref o0), .val (.int (16 : Int32)), .unset] [(.int (16 : Int32))])) rfl (hb hby d4_15) rfl (k := 16) rfl (cap := 16) (by decide) (by decide) (by decide) (by decide)
  obtain ⟨b1, g1⟩ : ∃ z, z = h0.size := ⟨_, rfl⟩
  rw [← g1] at A1 st1
  have g_b1 : n0 ≤ b1 := Nat.le_trans Z0 (Nat.le_of_eq g1.symm)
  have sz_b1 : h0.size ≤ b1 := Nat.le_trans (Keep.refl h0 []).1 (Nat.le_of_eq g1.symm)
  have ne_o0_b1 : o0 ≠ b1 := Nat.ne_of_lt (Nat.lt_of_lt_of_eq A_o0.lt g1.symm)
  have V1 : AJ Z h1 b1 .long 16 (fun _ => (0 : Int64)) := A1
  refine Outs.of st1 ?_
  refine Outs.of (U' := T1.setTop (mkF m 23 #[.val (.ref o0), .val (.int (16 : Int32)), .val (.ref b1)] [(.ref o0), (.int (0 : Int32)), (.ref b1), (.int (0 : Int32)), (.ref o0)])) (fun t k => ?_) ?_
  · refine XS.astoreN X1.here hx rfl (hb hby d4_17) rfl rfl (l' := #[.val (.ref o0), .val (.int (16 : Int32)), .val (.ref b1)]) rfl ?_
    refine XS.aloadN X1.here hx rfl (hb hby d4_18) rfl rfl ?_
    refine XS.iconst X1.here hx rfl (hb hby d4_19) ?_
    refine XS.aloadN X1.here hx rfl (hb hby d4_20) rfl rfl ?_
    refine XS.iconst X1.here hx rfl (hb hby d4_21) ?_
    refine XS.aloadN X1.here hx rfl (hb hby d4_22) rfl rfl ?_
    exact k
  have f2 : AJ Z h1 o0 .long 33 g := (A_o0.ext E1)
  refine Outs.of (alen X1 hx hZ e1 f2 (z := (33 : Int32)) rfl (f := (mkF m 23 #[.val (.ref o0), .val (.int (16 : Int32)), .val (.ref b1)] [(.ref o0), (.int (0 : Int32)), (.ref b1), (.int (0 : Int32)), (.ref o0)])) rfl rfl (hb hby d4_23)) ?_
  refine Outs.of (U' := T1.setTop (mkF m 25 #[.val (.ref o0), .val (.int (16 : Int32)), .val (.ref b1)] [(.int (16 : Int32)), (.int (33 : Int32)), (.int (0 : Int32)), (.ref b1), (.int (0 : Int32)), (.ref o0)])) (fun t k => ?_) ?_
  · refine XS.iloadN X1.here hx rfl (hb hby d4_24) rfl ?_
    exact k
  obtain ⟨_, _, ⟨T3, L3, k3, n3⟩, -, X3, ⟨Lc3, hQ3, l3, y3, z3⟩, st3⟩ := Jvm.LawKit.callS X1 hx (y := (⟨"java/lang/Math", "min", "(II)I"⟩ : MethodName)) hown (mvT hZ (hw _ (List.mem_of_getElem? (i := 21) rfl))) (mvT hZ (hw _ (List.mem_of_getElem? (i := 22) rfl))) (mvT hZ (hw _ (List.mem_of_getElem? (i := 23) rfl))) (mvT hZ (hw _ (List.mem_of_getElem? (i := 24) rfl))) (by decide) (backOf (W := 4) (rm5 l Z a0 hw [] (33 : Int32) (16 : Int32) h1 n0 ) hZ (hw _ (List.mem_of_getElem? (i := 24) rfl)) (hw _ (List.mem_of_getElem? (i := 23) rfl)) (by decide) (by decide)) (g := (mkF m 25 #[.val (.ref o0), .val (.int (16 : Int32)), .val (.ref b1)] [(.int (16 : Int32)), (.int (33 : Int32)), (.int (0 : Int32)), (.ref b1), (.int (0 : Int32)), (.ref o0)])) rfl (by rw [hml]; rfl) (argsL := [(.int (33 : Int32)), (.int (16 : Int32))]) (rest := [(.int (0 : Int32)), (.ref b1), (.int (0 : Int32)), (.ref o0)]) (lenOf pd_4 rfl) rfl (by show 2 * 0 + _ ≤ _; exact Nat.le_of_eq rfl) (hb hby d4_25) (fun _ _ => ⟨rfl, e1, (by decide : 1 + 0 ≤ _), (by decide : 16 + 0 ≤ _)⟩)
  dsimp only [Pt.U, Pt.locs, Pt.cells, Pt.slots] at X3 l3 y3 z3 st3 hQ3
  subst l3 y3 z3
  obtain ⟨rfl, N3q, e3⟩ := hQ3
  have N3 := Fr.app N0 N3q
  obtain ⟨Lh3, X3, N3⟩ := hide X3 N3 (C := 1) (S := 16) (by decide) (by decide)
  refine Outs.of st3 ?_
  obtain ⟨T4, h4, Lc4, X4, e4, N4, K4, V4, st4⟩ := cpJ X3 hx hZ hown (hw _ (List.mem_of_getElem? (i := 25) rfl)) (hw _ (List.mem_of_getElem? (i := 28) rfl)) (hw _ (List.mem_of_getElem? (i := 26) rfl)) (hw _ (List.mem_of_getElem? (i := 27) rfl)) e3 f2 V1 (nn := (16 : Int32)) (k := 16) rfl (by decide) (by decide) N3 g_b1 (f := (mkF m 28 #[.val (.ref o0), .val (.int (16 : Int32)), .val (.ref b1)] [(.int (16 : Int32)), (.int (0 : Int32)), (.ref b1), (.int (0 : Int32)), (.ref o0)])) rfl (by rw [hml]; rfl) rfl (hb hby d4_28) (by decide) (W := 0) (by show 2 * 0 + _ ≤ _; exact Nat.le_of_eq rfl) (by decide)
  replace V4 : AJ Z h4 b1 .long 16 (cp5_g28 g) := V4
  obtain ⟨Lh4, X4, N4⟩ := hide X4 N4 (C := 1) (S := 16) (by decide) (by decide)
  refine Outs.of st4 ?_
  refine Outs.of (U' := T4.setTop (mkF m 32 #[.val (.ref o0), .val (.int (16 : Int32)), .val (.ref b1)] [(.ref b1)])) (fun t k => ?_) ?_
  · refine XS.aloadN X4.here hx rfl (hb hby d4_31) rfl rfl ?_
    exact k
  exact Outs.retA (w := (.ref b1)) X4 hx hret rfl rfl rfl (hb hby d4_32) hlk (by decide) (by decide) e4 ⟨b1, g_b1, sz_b1, rfl, N4, (((Keep.refl h0 []).ext E1).trans K4 (allS (Or.inr sz_b1) all0)), V4⟩
def ct5_g25  : Nat → Int64 := (upv (fun _ => (0 : Int64)) 0 ((F_f3 (5 : Int32) (0 : Int32)) + (1 : Int64)))
def ct5_g25a  : Nat → Int64 := (upv ct5_g25 1 ((F_f3 (5 : Int32) (1 : Int32)) + (1 : Int64)))
def ct5_g25b  : Nat → Int64 := (upv ct5_g25a 2 ((F_f3 (5 : Int32) (2 : Int32)) + (1 : Int64)))
def ct5_g25c  : Nat → Int64 := (upv ct5_g25b 3 ((F_f3 (5 : Int32) (3 : Int32)) + (1 : Int64)))
def ct5_g25d  : Nat → Int64 := (upv ct5_g25c 4 ((F_f3 (5 : Int32) (4 : Int32)) + (1 : Int64)))
def ct5_g25e  : Nat → Int64 := (upv ct5_g25d 5 ((F_f3 (5 : Int32) (5 : Int32)) + (1 : Int64)))
def ct5_g25f  : Nat → Int64 := (upv ct5_g25e 6 ((F_f3 (5 : Int32) (6 : Int32)) + (1 : Int64)))
def ct5_g25g  : Nat → Int64 := (upv ct5_g25f 7 ((F_f3 (5 : Int32) (7 : Int32)) + (1 : Int64)))
def ct5_g25h  : Nat → Int64 := (upv ct5_g25g 8 ((F_f3 (5 : Int32) (8 : Int32)) + (1 : Int64)))
def ct5_g25i  : Nat → Int64 := (upv ct5_g25h 9 ((F_f3 (5 : Int32) (9 : Int32)) + (1 : Int64)))
def ct5_g25j  : Nat → Int64 := (upv ct5_g25i 10 ((F_f3 (5 : Int32) (10 : Int32)) + (1 : Int64)))
def ct5_g25k  : Nat → Int64 := (upv ct5_g25j 11 ((F_f3 (5 : Int32) (11 : Int32)) + (1 : Int64)))
def ct5_g25l  : Nat → Int64 := (upv ct5_g25k 12 ((F_f3 (5 : Int32) (12 : Int32)) + (1 : Int64)))
def ct5_g25m  : Nat → Int64 := (upv ct5_g25l 13 ((F_f3 (5 : Int32) (13 : Int32)) + (1 : Int64)))
def ct5_g25n  : Nat → Int64 := (upv ct5_g25m 14 ((F_f3 (5 : Int32) (14 : Int32)) + (1 : Int64)))
def ct5_g25o  : Nat → Int64 := (upv ct5_g25n 15 ((F_f3 (5 : Int32) (15 : Int32)) + (1 : Int64)))
def Q_ct5 (Z : State) (o0 : Addr) (h0 : Heap) (n0 : Nat) (v : Option Value) (h : Heap) (L : List Loc) : Prop := ∃ b38 : Addr, n0 ≤ b38 ∧ h0.size ≤ b38 ∧ v = none ∧ Fr n0 L ∧ Keep h0 h [o0] ∧ Exa Z h o0 "com/example/bitmend/bitmend/PositionalColumns" ∧ Fld Z h o0 "com/example/bitmend/bitmend/PositionalColumns" "checkPositions" "[J" (.ref b38) ∧ AJ Z h b38 .long 16 (cp5_g28 ct5_g25o)
set_option maxRecDepth 65536 in
set_option maxHeartbeats 40000000 in
theorem rmct5 (l : Launch) (Z : State) (a0 : Array Value) (hw : ∀ d ∈ tables_1, d.before a0 Z = true) (ws : List Jvm.Cond) (o0 : Addr)  (h0 : Heap) (n0 : Nat) (Z0 : n0 ≤ h0.size) (E_o0 : Exa Z h0 o0 "com/example/bitmend/bitmend/PositionalColumns") (g_o0 : n0 ≤ o0) (F_o0_fieldSize : Fld Z h0 o0 "com/example/bitmend/bitmend/PositionalColumns" "fieldSize" "I" (.int (0 : Int32))) (F_o0_checkPositions : Fld Z h0 o0 "com/example/bitmend/bitmend/PositionalColumns" "checkPositions" "[J" .null) :
    MetFree l (⟨"com/example/bitmend/bitmend/PositionalColumns", "<init>", "(I)V"⟩ : MethodName) (head1 (Jvm.Cond.code (⟨"com/example/bitmend/bitmend/PositionalColumns", "<init>", "(I)V"⟩ : MethodName) prog_35_method_1_code 4 none :: ws) ({ frames := 2, cells := 2, slots := 49, locals := 33 } : Room)) (fun a U => a = #[(.ref o0), (.int (5 : Int32))] ∧ Z.Warmed39 U.vm ∧ U.heap = h0) (fun _ _ _ _ _ => True) (fun _ U o U' => ∃ v L, o = .returned v ∧ Q_ct5 Z o0 h0 n0 v U'.heap L ∧ FrameEnd U o U' L ({ frames := 2, cells := 2, slots := 49, locals := 33 } : Room).cells ({ frames := 2, cells := 2, slots := 49, locals := 33 } : Room).slots) := by
  refine MetFree.of_bodySF (plainFor_of_name pn_1) hisR ?_
  intro p e s m args below meth c s₁ Bd hml0 hP hK
  obtain ⟨rfl, hZ, hh⟩ := hP
  have hx := Bd.exec
  have hby := Bd.bytes
  have hml : c.maxLocals = 4 := hml0
  have hown : s.vm.findClass "com/example/bitmend/bitmend/PositionalColumns" = some m.cls := findClass_of_methodNamed Bd.named
  have hnm := (name_of_methodNamed Bd.named Bd.method).1
  have hret := Bd.returns
  have hlk : meth.locks = false := BodyLoose.notSynchronized Bd
  have X0 : Stand p l e ({ frames := 2, cells := 2, slots := 49, locals := 33 } : Room) s m #[(.ref o0), (.int (5 : Int32))] below meth c s₁ [] 0 0 := Stand.of_body Bd
  have e0 : s₁.heap = h0 := by rw [← hh, Bd.state]; rfl
  have N0 := Fr.nil n0
  show Outs p e below s (Q_ct5 Z o0 h0 n0) _ _ _
  refine Outs.of (U' := s₁.setTop (mkF m 0 #[.val (.ref o0), .val (.int (5 : Int32)), .unset, .unset] [])) (fun t k => castTop (ef_1 m o0 (5 : Int32)) k) ?_
  refine Outs.of (U' := s₁.setTop (mkF m 1 #[.val (.ref o0), .val (.int (5 : Int32)), .unset, .unset] [(.ref o0)])) (fun t k => ?_) ?_
  · refine XS.aloadN X0.here hx rfl (hb hby d1_0) rfl rfl ?_
    exact k
  obtain ⟨T1, X1, e1, st1⟩ := initO X0 hx hZ hown (hw _ (List.mem_of_getElem? (i := 6) rfl)) (hw _ (List.mem_of_getElem? (i := 7) rfl)) (hw _ (List.mem_of_getElem? (i := 8) rfl)) e0 (g := (mkF m 1 #[.val (.ref o0), .val (.int (5 : Int32)), .unset, .unset] [(.ref o0)])) rfl (by rw [hml]; rfl) rfl (hb hby d1_1) (by decide) (W := 0) (by show 2 * 0 + _ ≤ _; exact Nat.le_of_eq rfl) (by decide)
  refine Outs.of st1 ?_
  refine Outs.of (U' := T1.setTop (mkF m 6 #[.val (.ref o0), .val (.int (5 : Int32)), .unset, .unset] [(.int (5 : Int32)), (.ref o0)])) (fun t k => ?_) ?_
  · refine XS.aloadN X1.here hx rfl (hb hby d1_4) rfl rfl ?_
    refine XS.iloadN X1.here hx rfl (hb hby d1_5) rfl ?_
    exact k
  obtain ⟨T2, h2, X2, e2, W2, st2⟩ := putF X1 hx hZ hown (host := "") (Or.inl (hw _ (List.mem_of_getElem? (i := 9) rfl))) Via.refl e1 F_o0_fieldSize E_o0 (Or.inr ⟨(hw _ (List.mem_of_getElem? (i := 10) rfl)), rfl, hnm⟩) (hw _ (List.mem_of_getElem? (i := 1) rfl)) (ty := .int) (by decide) rfl rfl (g := (mkF m 6 #[.val (.ref o0), .val (.int (5 : Int32)), .unset, .unset] [(.int (5 : Int32)), (.ref o0)])) rfl rfl (hb hby d1_6)
  have F2 : Fld Z h2 o0 "com/example/bitmend/bitmend/PositionalColumns" "fieldSize" "I" (.int (5 : Int32)) := F_o0_fieldSize.same W2
  have N2 := Fr.snoc X2 N0 g_o0
  obtain ⟨Lh2, X2, N2⟩ := hide X2 N2 (C := 0) (S := 0) (by decide) (by decide)
  refine Outs.of st2 ?_
  refine Outs.of (U' := T2.setTop (mkF m 11 #[.val (.ref o0), .val (.int (5 : Int32)), .unset, .unset] [(.int (33 : Int32))])) (fun t k => ?_) ?_
  · refine XS.bipush X2.here hx rfl (hb hby d1_9) ?_
    exact k
  have f4 : Exa Z h2 o0 "com/example/bitmend/bitmend/PositionalColumns" := (E_o0.wr W2)
  obtain ⟨T3, h3, X3, e3, E3, A3, st3⟩ := newAF X2 hx hZ (aty := .long) (hw _ (List.mem_of_getElem? (i := 11) rfl)) e2 (f := (mkF m 11 #[.val (.ref o0), .val (.int (5 : Int32)), .unset, .unset] [(.int (33 : Int32))])) rfl (hb hby d1_11) rfl (k := 33) rfl (cap := 33) (by decide) (by decide) (by decide) (by decide)
  obtain ⟨b3, g3⟩ : ∃ z, z = h2.size := ⟨_, rfl⟩
  rw [← g3] at A3 st3
  have g_b3 : n0 ≤ b3 := Nat.le_trans (Nat.le_trans Z0 (Keep.of_wr W2).1) (Nat.le_of_eq g3.symm)
  have sz_b3 : h0.size ≤ b3 := Nat.le_trans ((Keep.refl h0 [o0]).wr W2 (Or.inl (List.mem_of_getElem? (i := 0) rfl))).1 (Nat.le_of_eq g3.symm)
  have ne_o0_b3 : o0 ≠ b3 := Nat.ne_of_lt (Nat.lt_of_lt_of_eq f4.lt g3.symm)
  have V3 : AJ Z h3 b3 .long 33 (fun _ => (0 : Int64)) := A3
  refine Outs.of st3 ?_
  refine Outs.of (U' := T3.setTop (mkF m 20 #[.val (.ref o0), .val (.int (5 : Int32)), .val (.ref b3), .val (.int (0 : Int32))] [(.int (0 : Int32)), (.int (5 : Int32)), (.int (0 : Int32)), (.ref b3)])) (fun t k => ?_) ?_
  · refine XS.astoreN X3.here hx rfl (hb hby d1_13) rfl rfl (l' := #[.val (.ref o0), .val (.int (5 : Int32)), .val (.ref b3), .unset]) rfl ?_
    refine XS.iconst X3.here hx rfl (hb hby d1_14) ?_
    refine XS.istoreN X3.here hx rfl (hb hby d1_15) rfl (l' := #[.val (.ref o0), .val (.int (5 : Int32)), .val (.ref b3), .val (.int (0 : Int32))]) rfl ?_
    refine XS.aloadN X3.here hx rfl (hb hby d1_16) rfl rfl ?_
    refine XS.iloadN X3.here hx rfl (hb hby d1_17) rfl ?_
    refine XS.iloadN X3.here hx rfl (hb hby d1_18) rfl ?_
    refine XS.iloadN X3.here hx rfl (hb hby d1_19) rfl ?_
    exact k
  obtain ⟨_, _, ⟨T5, L5, k5, n5⟩, -, X5, ⟨Lc5, hQ5, l5, y5, z5⟩, st5⟩ := Jvm.LawKit.callS X3 hx (y := (⟨"com/example/bitmend/bitmend/CodeParameters", "columns", "(II)J"⟩ : MethodName)) hown (mvT hZ (hw _ (List.mem_of_getElem? (i := 12) rfl))) (mvT hZ (hw _ (List.mem_of_getElem? (i := 13) rfl))) (mvT hZ (hw _ (List.mem_of_getElem? (i := 14) rfl))) (mvT hZ (hw _ (List.mem_of_getElem? (i := 15) rfl))) (by decide) (backOf (W := 2) (rm3 l Z a0 hw [] (5 : Int32) (0 : Int32) h3 n0 (by decide)) hZ (hw _ (List.mem_of_getElem? (i := 15) rfl)) (hw _ (List.mem_of_getElem? (i := 14) rfl)) (by decide) (by decide)) (g := (mkF m 20 #[.val (.ref o0), .val (.int (5 : Int32)), .val (.ref b3), .val (.int (0 : Int32))] [(.int (0 : Int32)), (.int (5 : Int32)), (.int (0 : Int32)), (.ref b3)])) rfl (by rw [hml]; rfl) (argsL := [(.int (5 : Int32)), (.int (0 : Int32))]) (rest := [(.int (0 : Int32)), (.ref b3)]) (lenOf pd_2 rfl) rfl (by show 2 * 0 + _ ≤ _; exact Nat.le_of_eq rfl) (hb hby d1_20) (fun _ _ => ⟨rfl, e3, (by decide : 1 + 0 ≤ _), (by decide : 33 + 0 ≤ _)⟩)
  dsimp only [Pt.U, Pt.locs, Pt.cells, Pt.slots] at X5 l5 y5 z5 st5 hQ5
  subst l5 y5 z5
  obtain ⟨rfl, N5q, e5⟩ := hQ5
  have N5 := Fr.app N2 N5q
  obtain ⟨Lh5, X5, N5⟩ := hide X5 N5 (C := 1) (S := 33) (by decide) (by decide)
  refine Outs.of st5 ?_
  refine Outs.of (U' := T5.setTop (mkF m 25 #[.val (.ref o0), .val (.int (5 : Int32)), .val (.ref b3), .val (.int (0 : Int32))] [(.long ((F_f3 (5 : Int32) (0 : Int32)) + (1 : Int64))), (.int (0 : Int32)), (.ref b3)])) (fun t k => ?_) ?_
  · refine XS.lconst X5.here hx rfl (hb hby d1_23) ?_
    refine XS.ladd X5.here hx rfl (hb hby d1_24) rfl ?_
    exact k
  obtain ⟨T6, h6, X6, e6, W6, V6, st6⟩ := puJ X5 hx hZ e5 V3 (j := (0 : Int32)) (x := ((F_f3 (5 : Int32) (0 : Int32)) + (1 : Int64))) (k := 0) rfl (by decide) (f := (mkF m 25 #[.val (.ref o0), .val (.int (5 : Int32)), .val (.ref b3), .val (.int (0 : Int32))] [(.long ((F_f3 (5 : Int32) (0 : Int32)) + (1 : Int64))), (.int (0 : Int32)), (.ref b3)])) rfl rfl (hb hby d1_25)
  replace V6 : AJ Z h6 b3 .long 33 ct5_g25 := V6
  have N6 := Fr.snoc X6 N5 g_b3
  obtain ⟨Lh6, X6, N6⟩ := hide X6 N6 (C := 1) (S := 33) (by decide) (by decide)
  refine Outs.of st6 ?_
  refine Outs.of (U' := T6.setTop (mkF m 33 #[.val (.ref o0), .val (.int (5 : Int32)), .val (.ref b3), .val (.int (1 : Int32))] [(.int (0 : Int32)), (.ref b3)])) (fun t k => ?_) ?_
  · refine XS.iinc X6.here hx rfl (hb hby d1_26) rfl (l' := #[.val (.ref o0), .val (.int (5 : Int32)), .val (.ref b3), .val (.int (1 : Int32))]) rfl ?_
    refine XS.aloadN X6.here hx rfl (hb hby d1_29) rfl rfl ?_
    refine XS.iloadN X6.here hx rfl (hb hby d1_30) rfl ?_
    refine XS.iconst X6.here hx rfl (hb hby d1_31) ?_
    refine XS.isub X6.here hx rfl (hb hby d1_32) rfl ?_
    exact k
  refine Outs.of (ldJ X6 hx hZ e6 V6 (j := (0 : Int32)) (k := 0) rfl (by decide) (f := (mkF m 33 #[.val (.ref o0), .val (.int (5 : Int32)), .val (.ref b3), .val (.int (1 : Int32))] [(.int (0 : Int32)), (.ref b3)])) rfl rfl (hb hby d1_33)) ?_
  refine Outs.of (U' := T6.setTop (mkF m 20 #[.val (.ref o0), .val (.int (5 : Int32)), .val (.ref b3), .val (.int (1 : Int32))] [(.int (1 : Int32)), (.int (5 : Int32)), (.int (1 : Int32)), (.ref b3)])) (fun t k => ?_) ?_
  · refine X6.ldc2Long hx hown (mvT hZ (hw _ (List.mem_of_getElem? (i := 16) rfl))) (g := (mkF m 34 #[.val (.ref o0), .val (.int (5 : Int32)), .val (.ref b3), .val (.int (1 : Int32))] [(.long (ct5_g25 0))])) rfl (hb hby d1_34) _ ?_
    refine XS.lcmp X6.here hx rfl (hb hby d1_37) rfl ?_
    refine XS.ifYes X6.here hx rfl (pc0 := 38) (pc' := 16) rfl (hb hby d1_38) rfl ((if0 _ _).trans (flt (fun q_ => (show ¬ ((2147483647 : Int64) < (ct5_g25 0)) from (by decide +kernel)) ((lw_gt _ _).mp q_))).2.2.2) (by decide) (by decide) ?_
    refine XS.aloadN X6.here hx rfl (hb hby d1_16) rfl rfl ?_
    refine XS.iloadN X6.here hx rfl (hb hby d1_17) rfl ?_
    refine XS.iloadN X6.here hx rfl (hb hby d1_18) rfl ?_
    refine XS.iloadN X6.here hx rfl (hb hby d1_19) rfl ?_
    exact k
  obtain ⟨_, _, ⟨T7, L7, k7, n7⟩, -, X7, ⟨Lc7, hQ7, l7, y7, z7⟩, st7⟩ := Jvm.LawKit.callS X6 hx (y := (⟨"com/example/bitmend/bitmend/CodeParameters", "columns", "(II)J"⟩ : MethodName)) hown (mvT hZ (hw _ (List.mem_of_getElem? (i := 12) rfl))) (mvT hZ (hw _ (List.mem_of_getElem? (i := 13) rfl))) (mvT hZ (hw _ (List.mem_of_getElem? (i := 14) rfl))) (mvT hZ (hw _ (List.mem_of_getElem? (i := 15) rfl))) (by decide) (backOf (W := 2) (rm3 l Z a0 hw [] (5 : Int32) (1 : Int32) h6 n0 (by decide)) hZ (hw _ (List.mem_of_getElem? (i := 15) rfl)) (hw _ (List.mem_of_getElem? (i := 14) rfl)) (by decide) (by decide)) (g := (mkF m 20 #[.val (.ref o0), .val (.int (5 : Int32)), .val (.ref b3), .val (.int (1 : Int32))] [(.int (1 : Int32)), (.int (5 : Int32)), (.int (1 : Int32)), (.ref b3)])) rfl (by rw [hml]; rfl) (argsL := [(.int (5 : Int32)), (.int (1 : Int32))]) (rest := [(.int (1 : Int32)), (.ref b3)]) (lenOf pd_2 rfl) rfl (by show 2 * 0 + _ ≤ _; exact Nat.le_of_eq rfl) (hb hby d1_20) (fun _ _ => ⟨rfl, e6, (by decide : 1 + 0 ≤ _), (by decide : 33 + 0 ≤ _)⟩)
  dsimp only [Pt.U, Pt.locs, Pt.cells, Pt.slots] at X7 l7 y7 z7 st7 hQ7
  subst l7 y7 z7
  obtain ⟨rfl, N7q, e7⟩ := hQ7
  have N7 := Fr.app N6 N7q
  obtain ⟨Lh7, X7, N7⟩ := hide X7 N7 (C := 1) (S := 33) (by decide) (by decide)
  refine Outs.of st7 ?_
  refine Outs.of (U' := T7.setTop (mkF m 25 #[.val (.ref o0), .val (.int (5 : Int32)), .val (.ref b3), .val (.int (1 : Int32))] [(.long ((F_f3 (5 : Int32) (1 : Int32)) + (1 : Int64))), (.int (1 : Int32)), (.ref b3)])) (fun t k => ?_) ?_
  · refine XS.lconst X7.here hx rfl (hb hby d1_23) ?_
    refine XS.ladd X7.here hx rfl (hb hby d1_24) rfl ?_
    exact k
  obtain ⟨T8, h8, X8, e8, W8, V8, st8⟩ := puJ X7 hx hZ e7 V6 (j := (1 : Int32)) (x := ((F_f3 (5 : Int32) (1 : Int32)) + (1 : Int64))) (k := 1) rfl (by decide) (f := (mkF m 25 #[.val (.ref o0), .val (.int (5 : Int32)), .val (.ref b3), .val (.int (1 : Int32))] [(.long ((F_f3 (5 : Int32) (1 : Int32)) + (1 : Int64))), (.int (1 : Int32)), (.ref b3)])) rfl rfl (hb hby d1_25)
  replace V8 : AJ Z h8 b3 .long 33 ct5_g25a := V8
  have N8 := Fr.snoc X8 N7 g_b3
  obtain ⟨Lh8, X8, N8⟩ := hide X8 N8 (C := 1) (S := 33) (by decide) (by decide)
  refine Outs.of st8 ?_
  refine Outs.of (U' := T8.setTop (mkF m 33 #[.val (.ref o0), .val (.int (5 : Int32)), .val (.ref b3), .val (.int (2 : Int32))] [(.int (1 : Int32)), (.ref b3)])) (fun t k => ?_) ?_
  · refine XS.iinc X8.here hx rfl (hb hby d1_26) rfl (l' := #[.val (.ref o0), .val (.int (5 : Int32)), .val (.ref b3), .val (.int (2 : Int32))]) rfl ?_
    refine XS.aloadN X8.here hx rfl (hb hby d1_29) rfl rfl ?_
    refine XS.iloadN X8.here hx rfl (hb hby d1_30) rfl ?_
    refine XS.iconst X8.here hx rfl (hb hby d1_31) ?_
    refine XS.isub X8.here hx rfl (hb hby d1_32) rfl ?_
    exact k
  refine Outs.of (ldJ X8 hx hZ e8 V8 (j := (1 : Int32)) (k := 1) rfl (by decide) (f := (mkF m 33 #[.val (.ref o0), .val (.int (5 : Int32)), .val (.ref b3), .val (.int (2 : Int32))] [(.int (1 : Int32)), (.ref b3)])) rfl rfl (hb hby d1_33)) ?_
  refine Outs.of (U' := T8.setTop (mkF m 20 #[.val (.ref o0), .val (.int (5 : Int32)), .val (.ref b3), .val (.int (2 : Int32))] [(.int (2 : Int32)), (.int (5 : Int32)), (.int (2 : Int32)), (.ref b3)])) (fun t k => ?_) ?_
  · refine X8.ldc2Long hx hown (mvT hZ (hw _ (List.mem_of_getElem? (i := 16) rfl))) (g := (mkF m 34 #[.val (.ref o0), .val (.int (5 : Int32)), .val (.ref b3), .val (.int (2 : Int32))] [(.long (ct5_g25a 1))])) rfl (hb hby d1_34) _ ?_
    refine XS.lcmp X8.here hx rfl (hb hby d1_37) rfl ?_
    refine XS.ifYes X8.here hx rfl (pc0 := 38) (pc' := 16) rfl (hb hby d1_38) rfl ((if0 _ _).trans (flt (fun q_ => (show ¬ ((2147483647 : Int64) < (ct5_g25a 1)) from (by decide +kernel)) ((lw_gt _ _).mp q_))).2.2.2) (by decide) (by decide) ?_
    refine XS.aloadN X8.here hx rfl (hb hby d1_16) rfl rfl ?_
    refine XS.iloadN X8.here hx rfl (hb hby d1_17) rfl ?_
    refine XS.iloadN X8.here hx rfl (hb hby d1_18) rfl ?_
    refine XS.iloadN X8.here hx rfl (hb hby d1_19) rfl ?_
    exact k
  obtain ⟨_, _, ⟨T9, L9, k9, n9⟩, -, X9, ⟨Lc9, hQ9, l9, y9, z9⟩, st9⟩ := Jvm.LawKit.callS X8 hx (y := (⟨"com/example/bitmend/bitmend/CodeParameters", "columns", "(II)J"⟩ : MethodName)) hown (mvT hZ (hw _ (List.mem_of_getElem? (i := 12) rfl))) (mvT hZ (hw _ (List.mem_of_getElem? (i := 13) rfl))) (mvT hZ (hw _ (List.mem_of_getElem? (i := 14) rfl))) (mvT hZ (hw _ (List.mem_of_getElem? (i := 15) rfl))) (by decide) (backOf (W := 2) (rm3 l Z a0 hw [] (5 : Int32) (2 : Int32) h8 n0 (by decide)) hZ (hw _ (List.mem_of_getElem? (i := 15) rfl)) (hw _ (List.mem_of_getElem? (i := 14) rfl)) (by decide) (by decide)) (g := (mkF m 20 #[.val (.ref o0), .val (.int (5 : Int32)), .val (.ref b3), .val (.int (2 : Int32))] [(.int (2 : Int32)), (.int (5 : Int32)), (.int (2 : Int32)), (.ref b3)])) rfl (by rw [hml]; rfl) (argsL := [(.int (5 : Int32)), (.int (2 : Int32))]) (rest := [(.int (2 : Int32)), (.ref b3)]) (lenOf pd_2 rfl) rfl (by show 2 * 0 + _ ≤ _; exact Nat.le_of_eq rfl) (hb hby d1_20) (fun _ _ => ⟨rfl, e8, (by decide : 1 + 0 ≤ _), (by decide : 33 + 0 ≤ _)⟩)
  dsimp only [Pt.U, Pt.locs, Pt.cells, Pt.slots] at X9 l9 y9 z9 st9 hQ9
  subst l9 y9 z9
  obtain ⟨rfl, N9q, e9⟩ := hQ9
  have N9 := Fr.app N8 N9q
  obtain ⟨Lh9, X9, N9⟩ := hide X9 N9 (C := 1) (S := 33) (by decide) (by decide)
  refine Outs.of st9 ?_
  refine Outs.of (U' := T9.setTop (mkF m 25 #[.val (.ref o0), .val (.int (5 : Int32)), .val (.ref b3), .val (.int (2 : Int32))] [(.long ((F_f3 (5 : Int32) (2 : Int32)) + (1 : Int64))), (.int (2 : Int32)), (.ref b3)])) (fun t k => ?_) ?_
  · refine XS.lconst X9.here hx rfl (hb hby d1_23) ?_
    refine XS.ladd X9.here hx rfl (hb hby d1_24) rfl ?_
    exact k
  obtain ⟨T10, h10, X10, e10, W10, V10, st10⟩ := puJ X9 hx hZ e9 V8 (j := (2 : Int32)) (x := ((F_f3 (5 : Int32) (2 : Int32)) + (1 : Int64))) (k := 2) rfl (by decide) (f := (mkF m 25 #[.val (.ref o0), .val (.int (5 : Int32)), .val (.ref b3), .val (.int (2 : Int32))] [(.long ((F_f3 (5 : Int32) (2 : Int32)) + (1 : Int64))), (.int (2 : Int32)), (.ref b3)])) rfl rfl (hb hby d1_25)
  replace V10 : AJ Z h10 b3 .long 33 ct5_g25b := V10
  have N10 := Fr.snoc X10 N9 g_b3
  obtain ⟨Lh10, X10, N10⟩ := hide X10 N10 (C := 1) (S := 33) (by decide) (by decide)
  refine Outs.of st10 ?_
  refine Outs.of (U' := T10.setTop (mkF m 33 #[.val (.ref o0), .val (.int (5 : Int32)), .val (.ref b3), .val (.int (3 : Int32))] [(.int (2 : Int32)), (.ref b3)])) (fun t k => ?_) ?_
  · refine XS.iinc X10.here hx rfl (hb hby d1_26) rfl (l' := #[.val (.ref o0), .val (.int (5 : Int32)), .val (.ref b3), .val (.int (3 : Int32))]) rfl ?_
    refine XS.aloadN X10.here hx rfl (hb hby d1_29) rfl rfl ?_
    refine XS.iloadN X10.here hx rfl (hb hby d1_30) rfl ?_
    refine XS.iconst X10.here hx rfl (hb hby d1_31) ?_
    refine XS.isub X10.here hx rfl (hb hby d1_32) rfl ?_
    exact k
  refine Outs.of (ldJ X10 hx hZ e10 V10 (j := (2 : Int32)) (k := 2) rfl (by decide) (f := (mkF m 33 #[.val (.ref o0), .val (.int (5 : Int32)), .val (.ref b3), .val (.int (3 : Int32))] [(.int (2 : Int32)), (.ref b3)])) rfl rfl (hb hby d1_33)) ?_
  refine Outs.of (U' := T10.setTop (mkF m 20 #[.val (.ref o0), .val (.int (5 : Int32)), .val (.ref b3), .val (.int (3 : Int32))] [(.int (3 : Int32)), (.int (5 : Int32)), (.int (3 : Int32)), (.ref b3)])) (fun t k => ?_) ?_
  · refine X10.ldc2Long hx hown (mvT hZ (hw _ (List.mem_of_getElem? (i := 16) rfl))) (g := (mkF m 34 #[.val (.ref o0), .val (.int (5 : Int32)), .val (.ref b3), .val (.int (3 : Int32))] [(.long (ct5_g25b 2))])) rfl (hb hby d1_34) _ ?_
    refine XS.lcmp X10.here hx rfl (hb hby d1_37) rfl ?_
    refine XS.ifYes X10.here hx rfl (pc0 := 38) (pc' := 16) rfl (hb hby d1_38) rfl ((if0 _ _).trans (flt (fun q_ => (show ¬ ((2147483647 : Int64) < (ct5_g25b 2)) from (by decide +kernel)) ((lw_gt _ _).mp q_))).2.2.2) (by decide) (by decide) ?_
    refine XS.aloadN X10.here hx rfl (hb hby d1_16) rfl rfl ?_
    refine XS.iloadN X10.here hx rfl (hb hby d1_17) rfl ?_
    refine XS.iloadN X10.here hx rfl (hb hby d1_18) rfl ?_
    refine XS.iloadN X10.here hx rfl (hb hby d1_19) rfl ?_
    exact k
  obtain ⟨_, _, ⟨T11, L11, k11, n11⟩, -, X11, ⟨Lc11, hQ11, l11, y11, z11⟩, st11⟩ := Jvm.LawKit.callS X10 hx (y := (⟨"com/example/bitmend/bitmend/CodeParameters", "columns", "(II)J"⟩ : MethodName)) hown (mvT hZ (hw _ (List.mem_of_getElem? (i := 12) rfl))) (mvT hZ (hw _ (List.mem_of_getElem? (i := 13) rfl))) (mvT hZ (hw _ (List.mem_of_getElem? (i := 14) rfl))) (mvT hZ (hw _ (List.mem_of_getElem? (i := 15) rfl))) (by decide) (backOf (W := 2) (rm3 l Z a0 hw [] (5 : Int32) (3 : Int32) h10 n0 (by decide)) hZ (hw _ (List.mem_of_getElem? (i := 15) rfl)) (hw _ (List.mem_of_getElem? (i := 14) rfl)) (by decide) (by decide)) (g := (mkF m 20 #[.val (.ref o0), .val (.int (5 : Int32)), .val (.ref b3), .val (.int (3 : Int32))] [(.int (3 : Int32)), (.int (5 : Int32)), (.int (3 : Int32)), (.ref b3)])) rfl (by rw [hml]; rfl) (argsL := [(.int (5 : Int32)), (.int (3 : Int32))]) (rest := [(.int (3 : Int32)), (.ref b3)]) (lenOf pd_2 rfl) rfl (by show 2 * 0 + _ ≤ _; exact Nat.le_of_eq rfl) (hb hby d1_20) (fun _ _ => ⟨rfl, e10, (by decide : 1 + 0 ≤ _), (by decide : 33 + 0 ≤ _)⟩)
  dsimp only [Pt.U, Pt.locs, Pt.cells, Pt.slots] at X11 l11 y11 z11 st11 hQ11
  subst l11 y11 z11
  obtain ⟨rfl, N11q, e11⟩ := hQ11
  have N11 := Fr.app N10 N11q
  obtain ⟨Lh11, X11, N11⟩ := hide X11 N11 (C := 1) (S := 33) (by decide) (by decide)
  refine Outs.of st11 ?_
  refine Outs.of (U' := T11.setTop (mkF m 25 #[.val (.ref o0), .val (.int (5 : Int32)), .val (.ref b3), .val (.int (3 : Int32))] [(.long ((F_f3 (5 : Int32) (3 : Int32)) + (1 : Int64))), (.int (3 : Int32)), (.ref b3)])) (fun t k => ?_) ?_
  · refine XS.lconst X11.here hx rfl (hb hby d1_23) ?_
    refine XS.ladd X11.here hx rfl (hb hby d1_24) rfl ?_
    exact k
  obtain ⟨T12, h12, X12, e12, W12, V12, st12⟩ := puJ X11 hx hZ e11 V10 (j := (3 : Int32)) (x := ((F_f3 (5 : Int32) (3 : Int32)) + (1 : Int64))) (k := 3) rfl (by decide) (f := (mkF m 25 #[.val (.ref o0), .val (.int (5 : Int32)), .val (.ref b3), .val (.int (3 : Int32))] [(.long ((F_f3 (5 : Int32) (3 : Int32)) + (1 : Int64))), (.int (3 : Int32)), (.ref b3)])) rfl rfl (hb hby d1_25)
  replace V12 : AJ Z h12 b3 .long 33 ct5_g25c := V12
  have N12 := Fr.snoc X12 N11 g_b3
  obtain ⟨Lh12, X12, N12⟩ := hide X12 N12 (C := 1) (S := 33) (by decide) (by decide)
  refine Outs.of st12 ?_
  refine Outs.of (U' := T12.setTop (mkF m 33 #[.val (.ref o0), .val (.int (5 : Int32)), .val (.ref b3), .val (.int (4 : Int32))] [(.int (3 : Int32)), (.ref b3)])) (fun t k => ?_) ?_
  · refine XS.iinc X12.here hx rfl (hb hby d1_26) rfl (l' := #[.val (.ref o0), .val (.int (5 : Int32)), .val (.ref b3), .val (.int (4 : Int32))]) rfl ?_
    refine XS.aloadN X12.here hx rfl (hb hby d1_29) rfl rfl ?_
    refine XS.iloadN X12.here hx rfl (hb hby d1_30) rfl ?_
    refine XS.iconst X12.here hx rfl (hb hby d1_31) ?_
    refine XS.isub X12.here hx rfl (hb hby d1_32) rfl ?_
    exact k
  refine Outs.of (ldJ X12 hx hZ e12 V12 (j := (3 : Int32)) (k := 3) rfl (by decide) (f := (mkF m 33 #[.val (.ref o0), .val (.int (5 : Int32)), .val (.ref b3), .val (.int (4 : Int32))] [(.int (3 : Int32)), (.ref b3)])) rfl rfl (hb hby d1_33)) ?_
  refine Outs.of (U' := T12.setTop (mkF m 20 #[.val (.ref o0), .val (.int (5 : Int32)), .val (.ref b3), .val (.int (4 : Int32))] [(.int (4 : Int32)), (.int (5 : Int32)), (.int (4 : Int32)), (.ref b3)])) (fun t k => ?_) ?_
  · refine X12.ldc2Long hx hown (mvT hZ (hw _ (List.mem_of_getElem? (i := 16) rfl))) (g := (mkF m 34 #[.val (.ref o0), .val (.int (5 : Int32)), .val (.ref b3), .val (.int (4 : Int32))] [(.long (ct5_g25c 3))])) rfl (hb hby d1_34) _ ?_
    refine XS.lcmp X12.here hx rfl (hb hby d1_37) rfl ?_
    refine XS.ifYes X12.here hx rfl (pc0 := 38) (pc' := 16) rfl (hb hby d1_38) rfl ((if0 _ _).trans (flt (fun q_ => (show ¬ ((2147483647 : Int64) < (ct5_g25c 3)) from (by decide +kernel)) ((lw_gt _ _).mp q_))).2.2.2) (by decide) (by decide) ?_
    refine XS.aloadN X12.here hx rfl (hb hby d1_16) rfl rfl ?_
    refine XS.iloadN X12.here hx rfl (hb hby d1_17) rfl ?_
    refine XS.iloadN X12.here hx rfl (hb hby d1_18) rfl ?_
    refine XS.iloadN X12.here hx rfl (hb hby d1_19) rfl ?_
    exact k
  obtain ⟨_, _, ⟨T13, L13, k13, n13⟩, -, X13, ⟨Lc13, hQ13, l13, y13, z13⟩, st13⟩ := Jvm.LawKit.callS X12 hx (y := (⟨"com/example/bitmend/bitmend/CodeParameters", "columns", "(II)J"⟩ : MethodName)) hown (mvT hZ (hw _ (List.mem_of_getElem? (i := 12) rfl))) (mvT hZ (hw _ (List.mem_of_getElem? (i := 13) rfl))) (mvT hZ (hw _ (List.mem_of_getElem? (i := 14) rfl))) (mvT hZ (hw _ (List.mem_of_getElem? (i := 15) rfl))) (by decide) (backOf (W := 2) (rm3 l Z a0 hw [] (5 : Int32) (4 : Int32) h12 n0 (by decide)) hZ (hw _ (List.mem_of_getElem? (i := 15) rfl)) (hw _ (List.mem_of_getElem? (i := 14) rfl)) (by decide) (by decide)) (g := (mkF m 20 #[.val (.ref o0), .val (.int (5 : Int32)), .val (.ref b3), .val (.int (4 : Int32))] [(.int (4 : Int32)), (.int (5 : Int32)), (.int (4 : Int32)), (.ref b3)])) rfl (by rw [hml]; rfl) (argsL := [(.int (5 : Int32)), (.int (4 : Int32))]) (rest := [(.int (4 : Int32)), (.ref b3)]) (lenOf pd_2 rfl) rfl (by show 2 * 0 + _ ≤ _; exact Nat.le_of_eq rfl) (hb hby d1_20) (fun _ _ => ⟨rfl, e12, (by decide : 1 + 0 ≤ _), (by decide : 33 + 0 ≤ _)⟩)
  dsimp only [Pt.U, Pt.locs, Pt.cells, Pt.slots] at X13 l13 y13 z13 st13 hQ13
  subst l13 y13 z13
  obtain ⟨rfl, N13q, e13⟩ := hQ13
  have N13 := Fr.app N12 N13q
  obtain ⟨Lh13, X13, N13⟩ := hide X13 N13 (C := 1) (S := 33) (by decide) (by decide)
  refine Outs.of st13 ?_
  refine Outs.of (U' := T13.setTop (mkF m 25 #[.val (.ref o0), .val (.int (5 : Int32)), .val (.ref b3), .val (.int (4 : Int32))] [(.long ((F_f3 (5 : Int32) (4 : Int32)) + (1 : Int64))), (.int (4 : Int32)), (.ref b3)])) (fun t k => ?_) ?_
  · refine XS.lconst X13.here hx rfl (hb hby d1_23) ?_
    refine XS.ladd X13.here hx rfl (hb hby d1_24) rfl ?_
    exact k
  obtain ⟨T14, h14, X14, e14, W14, V14, st14⟩ := puJ X13 hx hZ e13 V12 (j := (4 : Int32)) (x := ((F_f3 (5 : Int32) (4 : Int32)) + (1 : Int64))) (k := 4) rfl (by decide) (f := (mkF m 25 #[.val (.ref o0), .val (.int (5 : Int32)), .val (.ref b3), .val (.int (4 : Int32))] [(.long ((F_f3 (5 : Int32) (4 : Int32)) + (1 : Int64))), (.int (4 : Int32)), (.ref b3)])) rfl rfl (hb hby d1_25)
  replace V14 : AJ Z h14 b3 .long 33 ct5_g25d := V14
  have N14 := Fr.snoc X14 N13 g_b3
  obtain ⟨Lh14, X14, N14⟩ := hide X14 N14 (C := 1) (S := 33) (by decide) (by decide)
  refine Outs.of st14 ?_
  refine Outs.of (U' := T14.setTop (mkF m 33 #[.val (.ref o0), .val (.int (5 : Int32)), .val (.ref b3), .val (.int (5 : Int32))] [(.int (4 : Int32)), (.ref b3)])) (fun t k => ?_) ?_
  · refine XS.iinc X14.here hx rfl (hb hby d1_26) rfl (l' := #[.val (.ref o0), .val (.int (5 : Int32)), .val (.ref b3), .val (.int (5 : Int32))]) rfl ?_
    refine XS.aloadN X14.here hx rfl (hb hby d1_29) rfl rfl ?_
    refine XS.iloadN X14.here hx rfl (hb hby d1_30) rfl ?_
    refine XS.iconst X14.here hx rfl (hb hby d1_31) ?_
    refine XS.isub X14.here hx rfl (hb hby d1_32) rfl ?_
    exact k
  refine Outs.of (ldJ X14 hx hZ e14 V14 (j := (4 : Int32)) (k := 4) rfl (by decide) (f := (mkF m 33 #[.val (.ref o0), .val (.int (5 : Int32)), .val (.ref b3), .val (.int (5 : Int32))] [(.int (4 : Int32)), (.ref b3)])) rfl rfl (hb hby d1_33)) ?_
  refine Outs.of (U' := T14.setTop (mkF m 20 #[.val (.ref o0), .val (.int (5 : Int32)), .val (.ref b3), .val (.int (5 : Int32))] [(.int (5 : Int32)), (.int (5 : Int32)), (.int (5 : Int32)), (.ref b3)])) (fun t k => ?_) ?_
  · refine X14.ldc2Long hx hown (mvT hZ (hw _ (List.mem_of_getElem? (i := 16) rfl))) (g := (mkF m 34 #[.val (.ref o0), .val (.int (5 : Int32)), .val (.ref b3), .val (.int (5 : Int32))] [(.long (ct5_g25d 4))])) rfl (hb hby d1_34) _ ?_
    refine XS.lcmp X14.here hx rfl (hb hby d1_37) rfl ?_
    refine XS.ifYes X14.here hx rfl (pc0 := 38) (pc' := 16) rfl (hb hby d1_38) rfl ((if0 _ _).trans (flt (fun q_ => (show ¬ ((2147483647 : Int64) < (ct5_g25d 4)) from (by decide +kernel)) ((lw_gt _ _).mp q_))).2.2.2) (by decide) (by decide) ?_
    refine XS.aloadN X14.here hx rfl (hb hby d1_16) rfl rfl ?_
    refine XS.iloadN X14.here hx rfl (hb hby d1_17) rfl ?_
    refine XS.iloadN X14.here hx rfl (hb hby d1_18) rfl ?_
    refine XS.iloadN X14.here hx rfl (hb hby d1_19) rfl ?_
    exact k
  obtain ⟨_, _, ⟨T15, L15, k15, n15⟩, -, X15, ⟨Lc15, hQ15, l15, y15, z15⟩, st15⟩ := Jvm.LawKit.callS X14 hx (y := (⟨"com/example/bitmend/bitmend/CodeParameters", "columns", "(II)J"⟩ : MethodName)) hown (mvT hZ (hw _ (List.mem_of_getElem? (i := 12) rfl))) (mvT hZ (hw _ (List.mem_of_getElem? (i := 13) rfl))) (mvT hZ (hw _ (List.mem_of_getElem? (i := 14) rfl))) (mvT hZ (hw _ (List.mem_of_getElem? (i := 15) rfl))) (by decide) (backOf (W := 2) (rm3 l Z a0 hw [] (5 : Int32) (5 : Int32) h14 n0 (by decide)) hZ (hw _ (List.mem_of_getElem? (i := 15) rfl)) (hw _ (List.mem_of_getElem? (i := 14) rfl)) (by decide) (by decide)) (g := (mkF m 20 #[.val (.ref o0), .val (.int (5 : Int32)), .val (.ref b3), .val (.int (5 : Int32))] [(.int (5 : Int32)), (.int (5 : Int32)), (.int (5 : Int32)), (.ref b3)])) rfl (by rw [hml]; rfl) (argsL := [(.int (5 : Int32)), (.int (5 : Int32))]) (rest := [(.int (5 : Int32)), (.ref b3)]) (lenOf pd_2 rfl) rfl (by show 2 * 0 + _ ≤ _; exact Nat.le_of_eq rfl) (hb hby d1_20) (fun _ _ => ⟨rfl, e14, (by decide : 1 + 0 ≤ _), (by decide : 33 + 0 ≤ _)⟩)
  dsimp only [Pt.U, Pt.locs, Pt.cells, Pt.slots] at X15 l15 y15 z15 st15 hQ15
  subst l15 y15 z15
  obtain ⟨rfl, N15q, e15⟩ := hQ15
  have N15 := Fr.app N14 N15q
  obtain ⟨Lh15, X15, N15⟩ := hide X15 N15 (C := 1) (S := 33) (by decide) (by decide)
  refine Outs.of st15 ?_
  refine Outs.of (U' := T15.setTop (mkF m 25 #[.val (.ref o0), .val (.int (5 : Int32)), .val (.ref b3), .val (.int (5 : Int32))] [(.long ((F_f3 (5 : Int32) (5 : Int32)) + (1 : Int64))), (.int (5 : Int32)), (.ref b3)])) (fun t k => ?_) ?_
  · refine XS.lconst X15.here hx rfl (hb hby d1_23) ?_
    refine XS.ladd X15.here hx rfl (hb hby d1_24) rfl ?_
    exact k
  obtain ⟨T16, h16, X16, e16, W16, V16, st16⟩ := puJ X15 hx hZ e15 V14 (j := (5 : Int32)) (x := ((F_f3 (5 : Int32) (5 : Int32)) + (1 : Int64))) (k := 5) rfl (by decide) (f := (mkF m 25 #[.val (.ref o0), .val (.int (5 : Int32)), .val (.ref b3), .val (.int (5 : Int32))] [(.long ((F_f3 (5 : Int32) (5 : Int32)) + (1 : Int64))), (.int (5 : Int32)), (.ref b3)])) rfl rfl (hb hby d1_25)
  replace V16 : AJ Z h16 b3 .long 33 ct5_g25e := V16
  have N16 := Fr.snoc X16 N15 g_b3
  obtain ⟨Lh16, X16, N16⟩ := hide X16 N16 (C := 1) (S := 33) (by decide) (by decide)
  refine Outs.of st16 ?_
  refine Outs.of (U' := T16.setTop (mkF m 33 #[.val (.ref o0), .val (.int (5 : Int32)), .val (.ref b3), .val (.int (6 : Int32))] [(.int (5 : Int32)), (.ref b3)])) (fun t k => ?_) ?_
  · refine XS.iinc X16.here hx rfl (hb hby d1_26) rfl (l' := #[.val (.ref o0), .val (.int (5 : Int32)), .val (.ref b3), .val (.int (6 : Int32))]) rfl ?_
    refine XS.aloadN X16.here hx rfl (hb hby d1_29) rfl rfl ?_
    refine XS.iloadN X16.here hx rfl (hb hby d1_30) rfl ?_
    refine XS.iconst X16.here hx rfl (hb hby d1_31) ?_
    refine XS.isub X16.here hx rfl (hb hby d1_32) rfl ?_
    exact k
  refine Outs.of (ldJ X16 hx hZ e16 V16 (j := (5 : Int32)) (k := 5) rfl (by decide) (f := (mkF m 33 #[.val (.ref o0), .val (.int (5 : Int32)), .val (.ref b3), .val (.int (6 : Int32))] [(.int (5 : Int32)), (.ref b3)])) rfl rfl (hb hby d1_33)) ?_
  refine Outs.of (U' := T16.setTop (mkF m 20 #[.val (.ref o0), .val (.int (5 : Int32)), .val (.ref b3), .val (.int (6 : Int32))] [(.int (6 : Int32)), (.int (5 : Int32)), (.int (6 : Int32)), (.ref b3)])) (fun t k => ?_) ?_
  · refine X16.ldc2Long hx hown (mvT hZ (hw _ (List.mem_of_getElem? (i := 16) rfl))) (g := (mkF m 34 #[.val (.ref o0), .val (.int (5 : Int32)), .val (.ref b3), .val (.int (6 : Int32))] [(.long (ct5_g25e 5))])) rfl (hb hby d1_34) _ ?_
    refine XS.lcmp X16.here hx rfl (hb hby d1_37) rfl ?_
    refine XS.ifYes X16.here hx rfl (pc0 := 38) (pc' := 16) rfl (hb hby d1_38) rfl ((if0 _ _).trans (flt (fun q_ => (show ¬ ((2147483647 : Int64) < (ct5_g25e 5)) from (by decide +kernel)) ((lw_gt _ _).mp q_))).2.2.2) (by decide) (by decide) ?_
    refine XS.aloadN X16.here hx rfl (hb hby d1_16) rfl rfl ?_
    refine XS.iloadN X16.here hx rfl (hb hby d1_17) rfl ?_
    refine XS.iloadN X16.here hx rfl (hb hby d1_18) rfl ?_
    refine XS.iloadN X16.here hx rfl (hb hby d1_19) rfl ?_
    exact k
  obtain ⟨_, _, ⟨T17, L17, k17, n17⟩, -, X17, ⟨Lc17, hQ17, l17, y17, z17⟩, st17⟩ := Jvm.LawKit.callS X16 hx (y := (⟨"com/example/bitmend/bitmend/CodeParameters", "columns", "(II)J"⟩ : MethodName)) hown (mvT hZ (hw _ (List.mem_of_getElem? (i := 12) rfl))) (mvT hZ (hw _ (List.mem_of_getElem? (i := 13) rfl))) (mvT hZ (hw _ (List.mem_of_getElem? (i := 14) rfl))) (mvT hZ (hw _ (List.mem_of_getElem? (i := 15) rfl))) (by decide) (backOf (W := 2) (rm3 l Z a0 hw [] (5 : Int32) (6 : Int32) h16 n0 (by decide)) hZ (hw _ (List.mem_of_getElem? (i := 15) rfl)) (hw _ (List.mem_of_getElem? (i := 14) rfl)) (by decide) (by decide)) (g := (mkF m 20 #[.val (.ref o0), .val (.int (5 : Int32)), .val (.ref b3), .val (.int (6 : Int32))] [(.int (6 : Int32)), (.int (5 : Int32)), (.int (6 : Int32)), (.ref b3)])) rfl (by rw [hml]; rfl) (argsL := [(.int (5 : Int32)), (.int (6 : Int32))]) (rest := [(.int (6 : Int32)), (.ref b3)]) (lenOf pd_2 rfl) rfl (by show 2 * 0 + _ ≤ _; exact Nat.le_of_eq rfl) (hb hby d1_20) (fun _ _ => ⟨rfl, e16, (by decide : 1 + 0 ≤ _), (by decide : 33 + 0 ≤ _)⟩)
  dsimp only [Pt.U, Pt.locs, Pt.cells, Pt.slots] at X17 l17 y17 z17 st17 hQ17
  subst l17 y17 z17
  obtain ⟨rfl, N17q, e17⟩ := hQ17
  have N17 := Fr.app N16 N17q
  obtain ⟨Lh17, X17, N17⟩ := hide X17 N17 (C := 1) (S := 33) (by decide) (by decide)
  refine Outs.of st17 ?_
  refine Outs.of (U' := T17.setTop (mkF m 25 #[.val (.ref o0), .val (.int (5 : Int32)), .val (.ref b3), .val (.int (6 : Int32))] [(.long ((F_f3 (5 : Int32) (6 : Int32)) + (1 : Int64))), (.int (6 : Int32)), (.ref b3)])) (fun t k => ?_) ?_
  · refine XS.lconst X17.here hx rfl (hb hby d1_23) ?_
    refine XS.ladd X17.here hx rfl (hb hby d1_24) rfl ?_
    exact k
  obtain ⟨T18, h18, X18, e18, W18, V18, st18⟩ := puJ X17 hx hZ e17 V16 (j := (6 : Int32)) (x := ((F_f3 (5 : Int32) (6 : Int32)) + (1 : Int64))) (k := 6) rfl (by decide) (f := (mkF m 25 #[.val (.ref o0), .val (.int (5 : Int32)), .val (.ref b3), .val (.int (6 : Int32))] [(.long ((F_f3 (5 : Int32) (6 : Int32)) + (1 : Int64))), (.int (6 : Int32)), (.ref b3)])) rfl rfl (hb hby d1_25)
  replace V18 : AJ Z h18 b3 .long 33 ct5_g25f := V18
  have N18 := Fr.snoc X18 N17 g_b3
  obtain ⟨Lh18, X18, N18⟩ := hide X18 N18 (C := 1) (S := 33) (by decide) (by decide)
  refine Outs.of st18 ?_
  refine Outs.of (U' := T18.setTop (mkF m 33 #[.val (.ref o0), .val (.int (5 : Int32)), .val (.ref b3), .val (.int (7 : Int32))] [(.int (6 : Int32)), (.ref b3)])) (fun t k => ?_) ?_
  · refine XS.iinc X18.here hx rfl (hb hby d1_26) rfl (l' := #[.val (.ref o0), .val (.int (5 : Int32)), .val (.ref b3), .val (.int (7 : Int32))]) rfl ?_
    refine XS.aloadN X18.here hx rfl (hb hby d1_29) rfl rfl ?_
    refine XS.iloadN X18.here hx rfl (hb hby d1_30) rfl ?_
    refine XS.iconst X18.here hx rfl (hb hby d1_31) ?_
    refine XS.isub X18.here hx rfl (hb hby d1_32) rfl ?_
    exact k
  refine Outs.of (ldJ X18 hx hZ e18 V18 (j := (6 : Int32)) (k := 6) rfl (by decide) (f := (mkF m 33 #[.val (.ref o0), .val (.int (5 : Int32)), .val (.ref b3), .val (.int (7 : Int32))] [(.int (6 : Int32)), (.ref b3)])) rfl rfl (hb hby d1_33)) ?_
  refine Outs.of (U' := T18.setTop (mkF m 20 #[.val (.ref o0), .val (.int (5 : Int32)), .val (.ref b3), .val (.int (7 : Int32))] [(.int (7 : Int32)), (.int (5 : Int32)), (.int (7 : Int32)), (.ref b3)])) (fun t k => ?_) ?_
  · refine X18.ldc2Long hx hown (mvT hZ (hw _ (List.mem_of_getElem? (i := 16) rfl))) (g := (mkF m 34 #[.val (.ref o0), .val (.int (5 : Int32)), .val (.ref b3), .val (.int (7 : Int32))] [(.long (ct5_g25f 6))])) rfl (hb hby d1_34) _ ?_
    refine XS.lcmp X18.here hx rfl (hb hby d1_37) rfl ?_
    refine XS.ifYes X18.here hx rfl (pc0 := 38) (pc' := 16) rfl (hb hby d1_38) rfl ((if0 _ _).trans (flt (fun q_ => (show ¬ ((2147483647 : Int64) < (ct5_g25f 6)) from (by decide +kernel)) ((lw_gt _ _).mp q_))).2.2.2) (by decide) (by decide) ?_
    refine XS.aloadN X18.here hx rfl (hb hby d1_16) rfl rfl ?_
    refine XS.iloadN X18.here hx rfl (hb hby d1_17) rfl ?_
    refine XS.iloadN X18.here hx rfl (hb hby d1_18) rfl ?_
    refine XS.iloadN X18.here hx rfl (hb hby d1_19) rfl ?_
    exact k
  obtain ⟨_, _, ⟨T19, L19, k19, n19⟩, -, X19, ⟨Lc19, hQ19, l19, y19, z19⟩, st19⟩ := Jvm.LawKit.callS X18 hx (y := (⟨"com/example/bitmend/bitmend/CodeParameters", "columns", "(II)J"⟩ : MethodName)) hown (mvT hZ (hw _ (List.mem_of_getElem? (i := 12) rfl))) (mvT hZ (hw _ (List.mem_of_getElem? (i := 13) rfl))) (mvT hZ (hw _ (List.mem_of_getElem? (i := 14) rfl))) (mvT hZ (hw _ (List.mem_of_getElem? (i := 15) rfl))) (by decide) (backOf (W := 2) (rm3 l Z a0 hw [] (5 : Int32) (7 : Int32) h18 n0 (by decide)) hZ (hw _ (List.mem_of_getElem? (i := 15) rfl)) (hw _ (List.mem_of_getElem? (i := 14) rfl)) (by decide) (by decide)) (g := (mkF m 20 #[.val (.ref o0), .val (.int (5 : Int32)), .val (.ref b3), .val (.int (7 : Int32))] [(.int (7 : Int32)), (.int (5 : Int32)), (.int (7 : Int32)), (.ref b3)])) rfl (by rw [hml]; rfl) (argsL := [(.int (5 : Int32)), (.int (7 : Int32))]) (rest := [(.int (7 : Int32)), (.ref b3)]) (lenOf pd_2 rfl) rfl (by show 2 * 0 + _ ≤ _; exact Nat.le_of_eq rfl) (hb hby d1_20) (fun _ _ => ⟨rfl, e18, (by decide : 1 + 0 ≤ _), (by decide : 33 + 0 ≤ _)⟩)
  dsimp only [Pt.U, Pt.locs, Pt.cells, Pt.slots] at X19 l19 y19 z19 st19 hQ19
  subst l19 y19 z19
  obtain ⟨rfl, N19q, e19⟩ := hQ19
  have N19 := Fr.app N18 N19q
  obtain ⟨Lh19, X19, N19⟩ := hide X19 N19 (C := 1) (S := 33) (by decide) (by decide)
  refine Outs.of st19 ?_
  refine Outs.of (U' := T19.setTop (mkF m 25 #[.val (.ref o0), .val (.int (5 : Int32)), .val (.ref b3), .val (.int (7 : Int32))] [(.long ((F_f3 (5 : Int32) (7 : Int32)) + (1 : Int64))), (.int (7 : Int32)), (.ref b3)])) (fun t k => ?_) ?_
  · refine XS.lconst X19.here hx rfl (hb hby d1_23) ?_
    refine XS.ladd X19.here hx rfl (hb hby d1_24) rfl ?_
    exact k
  obtain ⟨T20, h20, X20, e20, W20, V20, st20⟩ := puJ X19 hx hZ e19 V18 (j := (7 : Int32)) (x := ((F_f3 (5 : Int32) (7 : Int32)) + (1 : Int64))) (k := 7) rfl (by decide) (f := (mkF m 25 #[.val (.ref o0), .val (.int (5 : Int32)), .val (.ref b3), .val (.int (7 : Int32))] [(.long ((F_f3 (5 : Int32) (7 : Int32)) + (1 : Int64))), (.int (7 : Int32)), (.ref b3)])) rfl rfl (hb hby d1_25)
  replace V20 : AJ Z h20 b3 .long 33 ct5_g25g := V20
  have N20 := Fr.snoc X20 N19 g_b3
  obtain ⟨Lh20, X20, N20⟩ := hide X20 N20 (C := 1) (S := 33) (by decide) (by decide)
  refine Outs.of st20 ?_
  refine Outs.of (U' := T20.setTop (mkF m 33 #[.val (.ref o0), .val (.int (5 : Int32)), .val (.ref b3), .val (.int (8 : Int32))] [(.int (7 : Int32)), (.ref b3)])) (fun t k => ?_) ?_
  · refine XS.iinc X20.here hx rfl (hb hby d1_26) rfl (l' := #[.val (.ref o0), .val (.int (5 : Int32)), .val (.ref b3), .val (.int (8 : Int32))]) rfl ?_
    refine XS.aloadN X20.here hx rfl (hb hby d1_29) rfl rfl ?_
    refine XS.iloadN X20.here hx rfl (hb hby d1_30) rfl ?_
    refine XS.iconst X20.here hx rfl (hb hby d1_31) ?_
    refine XS.isub X20.here hx rfl (hb hby d1_32) rfl ?_
    exact k
  refine Outs.of (ldJ X20 hx hZ e20 V20 (j := (7 : Int32)) (k := 7) rfl (by decide) (f := (mkF m 33 #[.val (.ref o0), .val (.int (5 : Int32)), .val (.ref b3), .val (.int (8 : Int32))] [(.int (7 : Int32)), (.ref b3)])) rfl rfl (hb hby d1_33)) ?_
  refine Outs.of (U' := T20.setTop (mkF m 20 #[.val (.ref o0), .val (.int (5 : Int32)), .val (.ref b3), .val (.int (8 : Int32))] [(.int (8 : Int32)), (.int (5 : Int32)), (.int (8 : Int32)), (.ref b3)])) (fun t k => ?_) ?_
  · refine X20.ldc2Long hx hown (mvT hZ (hw _ (List.mem_of_getElem? (i := 16) rfl))) (g := (mkF m 34 #[.val (.ref o0), .val (.int (5 : Int32)), .val (.ref b3), .val (.int (8 : Int32))] [(.long (ct5_g25g 7))])) rfl (hb hby d1_34) _ ?_
    refine XS.lcmp X20.here hx rfl (hb hby d1_37) rfl ?_
    refine XS.ifYes X20.here hx rfl (pc0 := 38) (pc' := 16) rfl (hb hby d1_38) rfl ((if0 _ _).trans (flt (fun q_ => (show ¬ ((2147483647 : Int64) < (ct5_g25g 7)) from (by decide +kernel)) ((lw_gt _ _).mp q_))).2.2.2) (by decide) (by decide) ?_
    refine XS.aloadN X20.here hx rfl (hb hby d1_16) rfl rfl ?_
    refine XS.iloadN X20.here hx rfl (hb hby d1_17) rfl ?_
    refine XS.iloadN X20.here hx rfl (hb hby d1_18) rfl ?_
    refine XS.iloadN X20.here hx rfl (hb hby d1_19) rfl ?_
    exact k
  obtain ⟨_, _, ⟨T21, L21, k21, n21⟩, -, X21, ⟨Lc21, hQ21, l21, y21, z21⟩, st21⟩ := Jvm.LawKit.callS X20 hx (y := (⟨"com/example/bitmend/bitmend/CodeParameters", "columns", "(II)J"⟩ : MethodName)) hown (mvT hZ (hw _ (List.mem_of_getElem? (i := 12) rfl))) (mvT hZ (hw _ (List.mem_of_getElem? (i := 13) rfl))) (mvT hZ (hw _ (List.mem_of_getElem? (i := 14) rfl))) (mvT hZ (hw _ (List.mem_of_getElem? (i := 15) rfl))) (by decide) (backOf (W := 2) (rm3 l Z a0 hw [] (5 : Int32) (8 : Int32) h20 n0 (by decide)) hZ (hw _ (List.mem_of_getElem? (i := 15) rfl)) (hw _ (List.mem_of_getElem? (i := 14) rfl)) (by decide) (by decide)) (g := (mkF m 20 #[.val (.ref o0), .val (.int (5 : Int32)), .val (.ref b3), .val (.int (8 : Int32))] [(.int (8 : Int32)), (.int (5 : Int32)), (.int (8 : Int32)), (.ref b3)])) rfl (by rw [hml]; rfl) (argsL := [(.int (5 : Int32)), (.int (8 : Int32))]) (rest := [(.int (8 : Int32)), (.ref b3)]) (lenOf pd_2 rfl) rfl (by show 2 * 0 + _ ≤ _; exact Nat.le_of_eq rfl) (hb hby d1_20) (fun _ _ => ⟨rfl, e20, (by decide : 1 + 0 ≤ _), (by decide : 33 + 0 ≤ _)⟩)
  dsimp only [Pt.U, Pt.locs, Pt.cells, Pt.slots] at X21 l21 y21 z21 st21 hQ21
  subst l21 y21 z21
  obtain ⟨rfl, N21q, e21⟩ := hQ21
  have N21 := Fr.app N20 N21q
  obtain ⟨Lh21, X21, N21⟩ := hide X21 N21 (C := 1) (S := 33) (by decide) (by decide)
  refine Outs.of st21 ?_
  refine Outs.of (U' := T21.setTop (mkF m 25 #[.val (.ref o0), .val (.int (5 : Int32)), .val (.ref b3), .val (.int (8 : Int32))] [(.long ((F_f3 (5 : Int32) (8 : Int32)) + (1 : Int64))), (.int (8 : Int32)), (.ref b3)])) (fun t k => ?_) ?_
  · refine XS.lconst X21.here hx rfl (hb hby d1_23) ?_
    refine XS.ladd X21.here hx rfl (hb hby d1_24) rfl ?_
    exact k
  obtain ⟨T22, h22, X22, e22, W22, V22, st22⟩ := puJ X21 hx hZ e21 V20 (j := (8 : Int32)) (x := ((F_f3 (5 : Int32) (8 : Int32)) + (1 : Int64))) (k := 8) rfl (by decide) (f := (mkF m 25 #[.val (.ref o0), .val (.int (5 : Int32)), .val (.ref b3), .val (.int (8 : Int32))] [(.long ((F_f3 (5 : Int32) (8 : Int32)) + (1 : Int64))), (.int (8 : Int32)), (.ref b3)])) rfl rfl (hb hby d1_25)
  replace V22 : AJ Z h22 b3 .long 33 ct5_g25h := V22
  have N22 := Fr.snoc X22 N21 g_b3
  obtain ⟨Lh22, X22, N22⟩ := hide X22 N22 (C := 1) (S := 33) (by decide) (by decide)
  refine Outs.of st22 ?_
  refine Outs.of (U' := T22.setTop (mkF m 33 #[.val (.ref o0), .val (.int (5 : Int32)), .val (.ref b3), .val (.int (9 : Int32))] [(.int (8 : Int32)), (.ref b3)])) (fun t k => ?_) ?_
  · refine XS.iinc X22.here hx rfl (hb hby d1_26) rfl (l' := #[.val (.ref o0), .val (.int (5 : Int32)), .val (.ref b3), .val (.int (9 : Int32))]) rfl ?_
    refine XS.aloadN X22.here hx rfl (hb hby d1_29) rfl rfl ?_
    refine XS.iloadN X22.here hx rfl (hb hby d1_30) rfl ?_
    refine XS.iconst X22.here hx rfl (hb hby d1_31) ?_
    refine XS.isub X22.here hx rfl (hb hby d1_32) rfl ?_
    exact k
  refine Outs.of (ldJ X22 hx hZ e22 V22 (j := (8 : Int32)) (k := 8) rfl (by decide) (f := (mkF m 33 #[.val (.ref o0), .val (.int (5 : Int32)), .val (.ref b3), .val (.int (9 : Int32))] [(.int (8 : Int32)), (.ref b3)])) rfl rfl (hb hby d1_33)) ?_
  refine Outs.of (U' := T22.setTop (mkF m 20 #[.val (.ref o0), .val (.int (5 : Int32)), .val (.ref b3), .val (.int (9 : Int32))] [(.int (9 : Int32)), (.int (5 : Int32)), (.int (9 : Int32)), (.ref b3)])) (fun t k => ?_) ?_
  · refine X22.ldc2Long hx hown (mvT hZ (hw _ (List.mem_of_getElem? (i := 16) rfl))) (g := (mkF m 34 #[.val (.ref o0), .val (.int (5 : Int32)), .val (.ref b3), .val (.int (9 : Int32))] [(.long (ct5_g25h 8))])) rfl (hb hby d1_34) _ ?_
    refine XS.lcmp X22.here hx rfl (hb hby d1_37) rfl ?_
    refine XS.ifYes X22.here hx rfl (pc0 := 38) (pc' := 16) rfl (hb hby d1_38) rfl ((if0 _ _).trans (flt (fun q_ => (show ¬ ((2147483647 : Int64) < (ct5_g25h 8)) from (by decide +kernel)) ((lw_gt _ _).mp q_))).2.2.2) (by decide) (by decide) ?_
    refine XS.aloadN X22.here hx rfl (hb hby d1_16) rfl rfl ?_
    refine XS.iloadN X22.here hx rfl (hb hby d1_17) rfl ?_
    refine XS.iloadN X22.here hx rfl (hb hby d1_18) rfl ?_
    refine XS.iloadN X22.here hx rfl (hb hby d1_19) rfl ?_
    exact k
  obtain ⟨_, _, ⟨T23, L23, k23, n23⟩, -, X23, ⟨Lc23, hQ23, l23, y23, z23⟩, st23⟩ := Jvm.LawKit.callS X22 hx (y := (⟨"com/example/bitmend/bitmend/CodeParameters", "columns", "(II)J"⟩ : MethodName)) hown (mvT hZ (hw _ (List.mem_of_getElem? (i := 12) rfl))) (mvT hZ (hw _ (List.mem_of_getElem? (i := 13) rfl))) (mvT hZ (hw _ (List.mem_of_getElem? (i := 14) rfl))) (mvT hZ (hw _ (List.mem_of_getElem? (i := 15) rfl))) (by decide) (backOf (W := 2) (rm3 l Z a0 hw [] (5 : Int32) (9 : Int32) h22 n0 (by decide)) hZ (hw _ (List.mem_of_getElem? (i := 15) rfl)) (hw _ (List.mem_of_getElem? (i := 14) rfl)) (by decide) (by decide)) (g := (mkF m 20 #[.val (.ref o0), .val (.int (5 : Int32)), .val (.ref b3), .val (.int (9 : Int32))] [(.int (9 : Int32)), (.int (5 : Int32)), (.int (9 : Int32)), (.ref b3)])) rfl (by rw [hml]; rfl) (argsL := [(.int (5 : Int32)), (.int (9 : Int32))]) (rest := [(.int (9 : Int32)), (.ref b3)]) (lenOf pd_2 rfl) rfl (by show 2 * 0 + _ ≤ _; exact Nat.le_of_eq rfl) (hb hby d1_20) (fun _ _ => ⟨rfl, e22, (by decide : 1 + 0 ≤ _), (by decide : 33 + 0 ≤ _)⟩)
  dsimp only [Pt.U, Pt.locs, Pt.cells, Pt.slots] at X23 l23 y23 z23 st23 hQ23
  subst l23 y23 z23
  obtain ⟨rfl, N23q, e23⟩ := hQ23
  have N23 := Fr.app N22 N23q
  obtain ⟨Lh23, X23, N23⟩ := hide X23 N23 (C := 1) (S := 33) (by decide) (by decide)
  refine Outs.of st23 ?_
  refine Outs.of (U' := T23.setTop (mkF m 25 #[.val (.ref o0), .val (.int (5 : Int32)), .val (.ref b3), .val (.int (9 : Int32))] [(.long ((F_f3 (5 : Int32) (9 : Int32)) + (1 : Int64))), (.int (9 : Int32)), (.ref b3)])) (fun t k => ?_) ?_
  · refine XS.lconst X23.here hx rfl (hb hby d1_23) ?_
    refine XS.ladd X23.here hx rfl (hb hby d1_24) rfl ?_
    exact k
  obtain ⟨T24, h24, X24, e24, W24, V24, st24⟩ := puJ X23 hx hZ e23 V22 (j := (9 : Int32)) (x := ((F_f3 (5 : Int32) (9 : Int32)) + (1 : Int64))) (k := 9) rfl (by decide) (f := (mkF m 25 #[.val (.ref o0), .val (.int (5 : Int32)), .val (.ref b3), .val (.int (9 : Int32))] [(.long ((F_f3 (5 : Int32) (9 : Int32)) + (1 : Int64))), (.int (9 : Int32)), (.ref b3)])) rfl rfl (hb hby d1_25)
  replace V24 : AJ Z h24 b3 .long 33 ct5_g25i := V24
  have N24 := Fr.snoc X24 N23 g_b3
  obtain ⟨Lh24, X24, N24⟩ := hide X24 N24 (C := 1) (S := 33) (by decide) (by decide)
  refine Outs.of st24 ?_
  refine Outs.of (U' := T24.setTop (mkF m 33 #[.val (.ref o0), .val (.int (5 : Int32)), .val (.ref b3), .val (.int (10 : Int32))] [(.int (9 : Int32)), (.ref b3)])) (fun t k => ?_) ?_
  · refine XS.iinc X24.here hx rfl (hb hby d1_26) rfl (l' := #[.val (.ref o0), .val (.int (5 : Int32)), .val (.ref b3), .val (.int (10 : Int32))]) rfl ?_
    refine XS.aloadN X24.here hx rfl (hb hby d1_29) rfl rfl ?_
    refine XS.iloadN X24.here hx rfl (hb hby d1_30) rfl ?_
    refine XS.iconst X24.here hx rfl (hb hby d1_31) ?_
    refine XS.isub X24.here hx rfl (hb hby d1_32) rfl ?_
    exact k
  refine Outs.of (ldJ X24 hx hZ e24 V24 (j := (9 : Int32)) (k := 9) rfl (by decide) (f := (mkF m 33 #[.val (.ref o0), .val (.int (5 : Int32)), .val (.ref b3), .val (.int (10 : Int32))] [(.int (9 : Int32)), (.ref b3)])) rfl rfl (hb hby d1_33)) ?_
  refine Outs.of (U' := T24.setTop (mkF m 20 #[.val (.ref o0), .val (.int (5 : Int32)), .val (.ref b3), .val (.int (10 : Int32))] [(.int (10 : Int32)), (.int (5 : Int32)), (.int (10 : Int32)), (.ref b3)])) (fun t k => ?_) ?_
  · refine X24.ldc2Long hx hown (mvT hZ (hw _ (List.mem_of_getElem? (i := 16) rfl))) (g := (mkF m 34 #[.val (.ref o0), .val (.int (5 : Int32)), .val (.ref b3), .val (.int (10 : Int32))] [(.long (ct5_g25i 9))])) rfl (hb hby d1_34) _ ?_
    refine XS.lcmp X24.here hx rfl (hb hby d1_37) rfl ?_
    refine XS.ifYes X24.here hx rfl (pc0 := 38) (pc' := 16) rfl (hb hby d1_38) rfl ((if0 _ _).trans (flt (fun q_ => (show ¬ ((2147483647 : Int64) < (ct5_g25i 9)) from (by decide +kernel)) ((lw_gt _ _).mp q_))).2.2.2) (by decide) (by decide) ?_
    refine XS.aloadN X24.here hx rfl (hb hby d1_16) rfl rfl ?_
    refine XS.iloadN X24.here hx rfl (hb hby d1_17) rfl ?_
    refine XS.iloadN X24.here hx rfl (hb hby d1_18) rfl ?_
    refine XS.iloadN X24.here hx rfl (hb hby d1_19) rfl ?_
    exact k
  obtain ⟨_, _, ⟨T25, L25, k25, n25⟩, -, X25, ⟨Lc25, hQ25, l25, y25, z25⟩, st25⟩ := Jvm.LawKit.callS X24 hx (y := (⟨"com/example/bitmend/bitmend/CodeParameters", "columns", "(II)J"⟩ : MethodName)) hown (mvT hZ (hw _ (List.mem_of_getElem? (i := 12) rfl))) (mvT hZ (hw _ (List.mem_of_getElem? (i := 13) rfl))) (mvT hZ (hw _ (List.mem_of_getElem? (i := 14) rfl))) (mvT hZ (hw _ (List.mem_of_getElem? (i := 15) rfl))) (by decide) (backOf (W := 2) (rm3 l Z a0 hw [] (5 : Int32) (10 : Int32) h24 n0 (by decide)) hZ (hw _ (List.mem_of_getElem? (i := 15) rfl)) (hw _ (List.mem_of_getElem? (i := 14) rfl)) (by decide) (by decide)) (g := (mkF m 20 #[.val (.ref o0), .val (.int (5 : Int32)), .val (.ref b3), .val (.int (10 : Int32))] [(.int (10 : Int32)), (.int (5 : Int32)), (.int (10 : Int32)), (.ref b3)])) rfl (by rw [hml]; rfl) (argsL := [(.int (5 : Int32)), (.int (10 : Int32))]) (rest := [(.int (10 : Int32)), (.ref b3)]) (lenOf pd_2 rfl) rfl (by show 2 * 0 + _ ≤ _; exact Nat.le_of_eq rfl) (hb hby d1_20) (fun _ _ => ⟨rfl, e24, (by decide : 1 + 0 ≤ _), (by decide : 33 + 0 ≤ _)⟩)
  dsimp only [Pt.U, Pt.locs, Pt.cells, Pt.slots] at X25 l25 y25 z25 st25 hQ25
  subst l25 y25 z25
  obtain ⟨rfl, N25q, e25⟩ := hQ25
  have N25 := Fr.app N24 N25q
  obtain ⟨Lh25, X25, N25⟩ := hide X25 N25 (C := 1) (S := 33) (by decide) (by decide)
  refine Outs.of st25 ?_
  refine Outs.of (U' := T25.setTop (mkF m 25 #[.val (.ref o0), .val (.int (5 : Int32)), .val (.ref b3), .val (.int (10 : Int32))] [(.long ((F_f3 (5 : Int32) (10 : Int32)) + (1 : Int64))), (.int (10 : Int32)), (.ref b3)])) (fun t k => ?_) ?_
  · refine XS.lconst X25.here hx rfl (hb hby d1_23) ?_
    refine XS.ladd X25.here hx rfl (hb hby d1_24) rfl ?_
    exact k
  obtain ⟨T26, h26, X26, e26, W26, V26, st26⟩ := puJ X25 hx hZ e25 V24 (j := (10 : Int32)) (x := ((F_f3 (5 : Int32) (10 : Int32)) + (1 : Int64))) (k := 10) rfl (by decide) (f := (mkF m 25 #[.val (.ref o0), .val (.int (5 : Int32)), .val (.ref b3), .val (.int (10 : Int32))] [(.long ((F_f3 (5 : Int32) (10 : Int32)) + (1 : Int64))), (.int (10 : Int32)), (.ref b3)])) rfl rfl (hb hby d1_25)
  replace V26 : AJ Z h26 b3 .long 33 ct5_g25j := V26
  have N26 := Fr.snoc X26 N25 g_b3
  obtain ⟨Lh26, X26, N26⟩ := hide X26 N26 (C := 1) (S := 33) (by decide) (by decide)
  refine Outs.of st26 ?_
  refine Outs.of (U' := T26.setTop (mkF m 33 #[.val (.ref o0), .val (.int (5 : Int32)), .val (.ref b3), .val (.int (11 : Int32))] [(.int (10 : Int32)), (.ref b3)])) (fun t k => ?_) ?_
  · refine XS.iinc X26.here hx rfl (hb hby d1_26) rfl (l' := #[.val (.ref o0), .val (.int (5 : Int32)), .val (.ref b3), .val (.int (11 : Int32))]) rfl ?_
    refine XS.aloadN X26.here hx rfl (hb hby d1_29) rfl rfl ?_
    refine XS.iloadN X26.here hx rfl (hb hby d1_30) rfl ?_
    refine XS.iconst X26.here hx rfl (hb hby d1_31) ?_
    refine XS.isub X26.here hx rfl (hb hby d1_32) rfl ?_
    exact k
  refine Outs.of (ldJ X26 hx hZ e26 V26 (j := (10 : Int32)) (k := 10) rfl (by decide) (f := (mkF m 33 #[.val (.ref o0), .val (.int (5 : Int32)), .val (.ref b3), .val (.int (11 : Int32))] [(.int (10 : Int32)), (.ref b3)])) rfl rfl (hb hby d1_33)) ?_
  refine Outs.of (U' := T26.setTop (mkF m 20 #[.val (.ref o0), .val (.int (5 : Int32)), .val (.ref b3), .val (.int (11 : Int32))] [(.int (11 : Int32)), (.int (5 : Int32)), (.int (11 : Int32)), (.ref b3)])) (fun t k => ?_) ?_
  · refine X26.ldc2Long hx hown (mvT hZ (hw _ (List.mem_of_getElem? (i := 16) rfl))) (g := (mkF m 34 #[.val (.ref o0), .val (.int (5 : Int32)), .val (.ref b3), .val (.int (11 : Int32))] [(.long (ct5_g25j 10))])) rfl (hb hby d1_34) _ ?_
    refine XS.lcmp X26.here hx rfl (hb hby d1_37) rfl ?_
    refine XS.ifYes X26.here hx rfl (pc0 := 38) (pc' := 16) rfl (hb hby d1_38) rfl ((if0 _ _).trans (flt (fun q_ => (show ¬ ((2147483647 : Int64) < (ct5_g25j 10)) from (by decide +kernel)) ((lw_gt _ _).mp q_))).2.2.2) (by decide) (by decide) ?_
    refine XS.aloadN X26.here hx rfl (hb hby d1_16) rfl rfl ?_
    refine XS.iloadN X26.here hx rfl (hb hby d1_17) rfl ?_
    refine XS.iloadN X26.here hx rfl (hb hby d1_18) rfl ?_
    refine XS.iloadN X26.here hx rfl (hb hby d1_19) rfl ?_
    exact k
  obtain ⟨_, _, ⟨T27, L27, k27, n27⟩, -, X27, ⟨Lc27, hQ27, l27, y27, z27⟩, st27⟩ := Jvm.LawKit.callS X26 hx (y := (⟨"com/example/bitmend/bitmend/CodeParameters", "columns", "(II)J"⟩ : MethodName)) hown (mvT hZ (hw _ (List.mem_of_getElem? (i := 12) rfl))) (mvT hZ (hw _ (List.mem_of_getElem? (i := 13) rfl))) (mvT hZ (hw _ (List.mem_of_getElem? (i := 14) rfl))) (mvT hZ (hw _ (List.mem_of_getElem? (i := 15) rfl))) (by decide) (backOf (W := 2) (rm3 l Z a0 hw [] (5 : Int32) (11 : Int32) h26 n0 (by decide)) hZ (hw _ (List.mem_of_getElem? (i := 15) rfl)) (hw _ (List.mem_of_getElem? (i := 14) rfl)) (by decide) (by decide)) (g := (mkF m 20 #[.val (.ref o0), .val (.int (5 : Int32)), .val (.ref b3), .val (.int (11 : Int32))] [(.int (11 : Int32)), (.int (5 : Int32)), (.int (11 : Int32)), (.ref b3)])) rfl (by rw [hml]; rfl) (argsL := [(.int (5 : Int32)), (.int (11 : Int32))]) (rest := [(.int (11 : Int32)), (.ref b3)]) (lenOf pd_2 rfl) rfl (by show 2 * 0 + _ ≤ _; exact Nat.le_of_eq rfl) (hb hby d1_20) (fun _ _ => ⟨rfl, e26, (by decide : 1 + 0 ≤ _), (by decide : 33 + 0 ≤ _)⟩)
  dsimp only [Pt.U, Pt.locs, Pt.cells, Pt.slots] at X27 l27 y27 z27 st27 hQ27
  subst l27 y27 z27
  obtain ⟨rfl, N27q, e27⟩ := hQ27
  have N27 := Fr.app N26 N27q
  obtain ⟨Lh27, X27, N27⟩ := hide X27 N27 (C := 1) (S := 33) (by decide) (by decide)
  refine Outs.of st27 ?_
  refine Outs.of (U' := T27.setTop (mkF m 25 #[.val (.ref o0), .val (.int (5 : Int32)), .val (.ref b3), .val (.int (11 : Int32))] [(.long ((F_f3 (5 : Int32) (11 : Int32)) + (1 : Int64))), (.int (11 : Int32)), (.ref b3)])) (fun t k => ?_) ?_
  · refine XS.lconst X27.here hx rfl (hb hby d1_23) ?_
    refine XS.ladd X27.here hx rfl (hb hby d1_24) rfl ?_
    exact k
  obtain ⟨T28, h28, X28, e28, W28, V28, st28⟩ := puJ X27 hx hZ e27 V26 (j := (11 : Int32)) (x := ((F_f3 (5 : Int32) (11 : Int32)) + (1 : Int64))) (k := 11) rfl (by decide) (f := (mkF m 25 #[.val (.ref o0), .val (.int (5 : Int32)), .val (.ref b3), .val (.int (11 : Int32))] [(.long ((F_f3 (5 : Int32) (11 : Int32)) + (1 : Int64))), (.int (11 : Int32)), (.ref b3)])) rfl rfl (hb hby d1_25)
  replace V28 : AJ Z h28 b3 .long 33 ct5_g25k := V28
  have N28 := Fr.snoc X28 N27 g_b3
  obtain ⟨Lh28, X28, N28⟩ := hide X28 N28 (C := 1) (S := 33) (by decide) (by decide)
  refine Outs.of st28 ?_
  refine Outs.of (U' := T28.setTop (mkF m 33 #[.val (.ref o0), .val (.int (5 : Int32)), .val (.ref b3), .val (.int (12 : Int32))] [(.int (11 : Int32)), (.ref b3)])) (fun t k => ?_) ?_
  · refine XS.iinc X28.here hx rfl (hb hby d1_26) rfl (l' := #[.val (.ref o0), .val (.int (5 : Int32)), .val (.ref b3), .val (.int (12 : Int32))]) rfl ?_
    refine XS.aloadN X28.here hx rfl (hb hby d1_29) rfl rfl ?_
    refine XS.iloadN X28.here hx rfl (hb hby d1_30) rfl ?_
    refine XS.iconst X28.here hx rfl (hb hby d1_31) ?_
    refine XS.isub X28.here hx rfl (hb hby d1_32) rfl ?_
    exact k
  refine Outs.of (ldJ X28 hx hZ e28 V28 (j := (11 : Int32)) (k := 11) rfl (by decide) (f := (mkF m 33 #[.val (.ref o0), .val (.int (5 : Int32)), .val (.ref b3), .val (.int (12 : Int32))] [(.int (11 : Int32)), (.ref b3)])) rfl rfl (hb hby d1_33)) ?_
  refine Outs.of (U' := T28.setTop (mkF m 20 #[.val (.ref o0), .val (.int (5 : Int32)), .val (.ref b3), .val (.int (12 : Int32))] [(.int (12 : Int32)), (.int (5 : Int32)), (.int (12 : Int32)), (.ref b3)])) (fun t k => ?_) ?_
  · refine X28.ldc2Long hx hown (mvT hZ (hw _ (List.mem_of_getElem? (i := 16) rfl))) (g := (mkF m 34 #[.val (.ref o0), .val (.int (5 : Int32)), .val (.ref b3), .val (.int (12 : Int32))] [(.long (ct5_g25k 11))])) rfl (hb hby d1_34) _ ?_
    refine XS.lcmp X28.here hx rfl (hb hby d1_37) rfl ?_
    refine XS.ifYes X28.here hx rfl (pc0 := 38) (pc' := 16) rfl (hb hby d1_38) rfl ((if0 _ _).trans (flt (fun q_ => (show ¬ ((2147483647 : Int64) < (ct5_g25k 11)) from (by decide +kernel)) ((lw_gt _ _).mp q_))).2.2.2) (by decide) (by decide) ?_
    refine XS.aloadN X28.here hx rfl (hb hby d1_16) rfl rfl ?_
    refine XS.iloadN X28.here hx rfl (hb hby d1_17) rfl ?_
    refine XS.iloadN X28.here hx rfl (hb hby d1_18) rfl ?_
    refine XS.iloadN X28.here hx rfl (hb hby d1_19) rfl ?_
    exact k
  obtain ⟨_, _, ⟨T29, L29, k29, n29⟩, -, X29, ⟨Lc29, hQ29, l29, y29, z29⟩, st29⟩ := Jvm.LawKit.callS X28 hx (y := (⟨"com/example/bitmend/bitmend/CodeParameters", "columns", "(II)J"⟩ : MethodName)) hown (mvT hZ (hw _ (List.mem_of_getElem? (i := 12) rfl))) (mvT hZ (hw _ (List.mem_of_getElem? (i := 13) rfl))) (mvT hZ (hw _ (List.mem_of_getElem? (i := 14) rfl))) (mvT hZ (hw _ (List.mem_of_getElem? (i := 15) rfl))) (by decide) (backOf (W := 2) (rm3 l Z a0 hw [] (5 : Int32) (12 : Int32) h28 n0 (by decide)) hZ (hw _ (List.mem_of_getElem? (i := 15) rfl)) (hw _ (List.mem_of_getElem? (i := 14) rfl)) (by decide) (by decide)) (g := (mkF m 20 #[.val (.ref o0), .val (.int (5 : Int32)), .val (.ref b3), .val (.int (12 : Int32))] [(.int (12 : Int32)), (.int (5 : Int32)), (.int (12 : Int32)), (.ref b3)])) rfl (by rw [hml]; rfl) (argsL := [(.int (5 : Int32)), (.int (12 : Int32))]) (rest := [(.int (12 : Int32)), (.ref b3)]) (lenOf pd_2 rfl) rfl (by show 2 * 0 + _ ≤ _; exact Nat.le_of_eq rfl) (hb hby d1_20) (fun _ _ => ⟨rfl, e28, (by decide : 1 + 0 ≤ _), (by decide : 33 + 0 ≤ _)⟩)
  dsimp only [Pt.U, Pt.locs, Pt.cells, Pt.slots] at X29 l29 y29 z29 st29 hQ29
  subst l29 y29 z29
  obtain ⟨rfl, N29q, e29⟩ := hQ29
  have N29 := Fr.app N28 N29q
  obtain ⟨Lh29, X29, N29⟩ := hide X29 N29 (C := 1) (S := 33) (by decide) (by decide)
  refine Outs.of st29 ?_
  refine Outs.of (U' := T29.setTop (mkF m 25 #[.val (.ref o0), .val (.int (5 : Int32)), .val (.ref b3), .val (.int (12 : Int32))] [(.long ((F_f3 (5 : Int32) (12 : Int32)) + (1 : Int64))), (.int (12 : Int32)), (.ref b3)])) (fun t k => ?_) ?_
  · refine XS.lconst X29.here hx rfl (hb hby d1_23) ?_
    refine XS.ladd X29.here hx rfl (hb hby d1_24) rfl ?_
    exact k
  obtain ⟨T30, h30, X30, e30, W30, V30, st30⟩ := puJ X29 hx hZ e29 V28 (j := (12 : Int32)) (x := ((F_f3 (5 : Int32) (12 : Int32)) + (1 : Int64))) (k := 12) rfl (by decide) (f := (mkF m 25 #[.val (.ref o0), .val (.int (5 : Int32)), .val (.ref b3), .val (.int (12 : Int32))] [(.long ((F_f3 (5 : Int32) (12 : Int32)) + (1 : Int64))), (.int (12 : Int32)), (.ref b3)])) rfl rfl (hb hby d1_25)
  replace V30 : AJ Z h30 b3 .long 33 ct5_g25l := V30
  have N30 := Fr.snoc X30 N29 g_b3
  obtain ⟨Lh30, X30, N30⟩ := hide X30 N30 (C := 1) (S := 33) (by decide) (by decide)
  refine Outs.of st30 ?_
  refine Outs.of (U' := T30.setTop (mkF m 33 #[.val (.ref o0), .val (.int (5 : Int32)), .val (.ref b3), .val (.int (13 : Int32))] [(.int (12 : Int32)), (.ref b3)])) (fun t k => ?_) ?_
  · refine XS.iinc X30.here hx rfl (hb hby d1_26) rfl (l' := #[.val (.ref o0), .val (.int (5 : Int32)), .val (.ref b3), .val (.int (13 : Int32))]) rfl ?_
    refine XS.aloadN X30.here hx rfl (hb hby d1_29) rfl rfl ?_
    refine XS.iloadN X30.here hx rfl (hb hby d1_30) rfl ?_
    refine XS.iconst X30.here hx rfl (hb hby d1_31) ?_
    refine XS.isub X30.here hx rfl (hb hby d1_32) rfl ?_
    exact k
  refine Outs.of (ldJ X30 hx hZ e30 V30 (j := (12 : Int32)) (k := 12) rfl (by decide) (f := (mkF m 33 #[.val (.ref o0), .val (.int (5 : Int32)), .val (.ref b3), .val (.int (13 : Int32))] [(.int (12 : Int32)), (.ref b3)])) rfl rfl (hb hby d1_33)) ?_
  refine Outs.of (U' := T30.setTop (mkF m 20 #[.val (.ref o0), .val (.int (5 : Int32)), .val (.ref b3), .val (.int (13 : Int32))] [(.int (13 : Int32)), (.int (5 : Int32)), (.int (13 : Int32)), (.ref b3)])) (fun t k => ?_) ?_
  · refine X30.ldc2Long hx hown (mvT hZ (hw _ (List.mem_of_getElem? (i := 16) rfl))) (g := (mkF m 34 #[.val (.ref o0), .val (.int (5 : Int32)), .val (.ref b3), .val (.int (13 : Int32))] [(.long (ct5_g25l 12))])) rfl (hb hby d1_34) _ ?_
    refine XS.lcmp X30.here hx rfl (hb hby d1_37) rfl ?_
    refine XS.ifYes X30.here hx rfl (pc0 := 38) (pc' := 16) rfl (hb hby d1_38) rfl ((if0 _ _).trans (flt (fun q_ => (show ¬ ((2147483647 : Int64) < (ct5_g25l 12)) from (by decide +kernel)) ((lw_gt _ _).mp q_))).2.2.2) (by decide) (by decide) ?_
    refine XS.aloadN X30.here hx rfl (hb hby d1_16) rfl rfl ?_
    refine XS.iloadN X30.here hx rfl (hb hby d1_17) rfl ?_
    refine XS.iloadN X30.here hx rfl (hb hby d1_18) rfl ?_
    refine XS.iloadN X30.here hx rfl (hb hby d1_19) rfl ?_
    exact k
  obtain ⟨_, _, ⟨T31, L31, k31, n31⟩, -, X31, ⟨Lc31, hQ31, l31, y31, z31⟩, st31⟩ := Jvm.LawKit.callS X30 hx (y := (⟨"com/example/bitmend/bitmend/CodeParameters", "columns", "(II)J"⟩ : MethodName)) hown (mvT hZ (hw _ (List.mem_of_getElem? (i := 12) rfl))) (mvT hZ (hw _ (List.mem_of_getElem? (i := 13) rfl))) (mvT hZ (hw _ (List.mem_of_getElem? (i := 14) rfl))) (mvT hZ (hw _ (List.mem_of_getElem? (i := 15) rfl))) (by decide) (backOf (W := 2) (rm3 l Z a0 hw [] (5 : Int32) (13 : Int32) h30 n0 (by decide)) hZ (hw _ (List.mem_of_getElem? (i := 15) rfl)) (hw _ (List.mem_of_getElem? (i := 14) rfl)) (by decide) (by decide)) (g := (mkF m 20 #[.val (.ref o0), .val (.int (5 : Int32)), .val (.ref b3), .val (.int (13 : Int32))] [(.int (13 : Int32)), (.int (5 : Int32)), (.int (13 : Int32)), (.ref b3)])) rfl (by rw [hml]; rfl) (argsL := [(.int (5 : Int32)), (.int (13 : Int32))]) (rest := [(.int (13 : Int32)), (.ref b3)]) (lenOf pd_2 rfl) rfl (by show 2 * 0 + _ ≤ _; exact Nat.le_of_eq rfl) (hb hby d1_20) (fun _ _ => ⟨rfl, e30, (by decide : 1 + 0 ≤ _), (by decide : 33 + 0 ≤ _)⟩)
  dsimp only [Pt.U, Pt.locs, Pt.cells, Pt.slots] at X31 l31 y31 z31 st31 hQ31
  subst l31 y31 z31
  obtain ⟨rfl, N31q, e31⟩ := hQ31
  have N31 := Fr.app N30 N31q
  obtain ⟨Lh31, X31, N31⟩ := hide X31 N31 (C := 1) (S := 33) (by decide) (by decide)
  refine Outs.of st31 ?_
  refine Outs.of (U' := T31.setTop (mkF m 25 #[.val (.ref o0), .val (.int (5 : Int32)), .val (.ref b3), .val (.int (13 : Int32))] [(.long ((F_f3 (5 : Int32) (13 : Int32)) + (1 : Int64))), (.int (13 : Int32)), (.ref b3)])) (fun t k => ?_) ?_
  · refine XS.lconst X31.here hx rfl (hb hby d1_23) ?_
    refine XS.ladd X31.here hx rfl (hb hby d1_24) rfl ?_
    exact k
  obtain ⟨T32, h32, X32, e32, W32, V32, st32⟩ := puJ X31 hx hZ e31 V30 (j := (13 : Int32)) (x := ((F_f3 (5 : Int32) (13 : Int32)) + (1 : Int64))) (k := 13) rfl (by decide) (f := (mkF m 25 #[.val (.ref o0), .val (.int (5 : Int32)), .val (.ref b3), .val (.int (13 : Int32))] [(.long ((F_f3 (5 : Int32) (13 : Int32)) + (1 : Int64))), (.int (13 : Int32)), (.ref b3)])) rfl rfl (hb hby d1_25)
  replace V32 : AJ Z h32 b3 .long 33 ct5_g25m := V32
  have N32 := Fr.snoc X32 N31 g_b3
  obtain ⟨Lh32, X32, N32⟩ := hide X32 N32 (C := 1) (S := 33) (by decide) (by decide)
  refine Outs.of st32 ?_
  refine Outs.of (U' := T32.setTop (mkF m 33 #[.val (.ref o0), .val (.int (5 : Int32)), .val (.ref b3), .val (.int (14 : Int32))] [(.int (13 : Int32)), (.ref b3)])) (fun t k => ?_) ?_
  · refine XS.iinc X32.here hx rfl (hb hby d1_26) rfl (l' := #[.val (.ref o0), .val (.int (5 : Int32)), .val (.ref b3), .val (.int (14 : Int32))]) rfl ?_
    refine XS.aloadN X32.here hx rfl (hb hby d1_29) rfl rfl ?_
    refine XS.iloadN X32.here hx rfl (hb hby d1_30) rfl ?_
    refine XS.iconst X32.here hx rfl (hb hby d1_31) ?_
    refine XS.isub X32.here hx rfl (hb hby d1_32) rfl ?_
    exact k
  refine Outs.of (ldJ X32 hx hZ e32 V32 (j := (13 : Int32)) (k := 13) rfl (by decide) (f := (mkF m 33 #[.val (.ref o0), .val (.int (5 : Int32)), .val (.ref b3), .val (.int (14 : Int32))] [(.int (13 : Int32)), (.ref b3)])) rfl rfl (hb hby d1_33)) ?_
  refine Outs.of (U' := T32.setTop (mkF m 20 #[.val (.ref o0), .val (.int (5 : Int32)), .val (.ref b3), .val (.int (14 : Int32))] [(.int (14 : Int32)), (.int (5 : Int32)), (.int (14 : Int32)), (.ref b3)])) (fun t k => ?_) ?_
  · refine X32.ldc2Long hx hown (mvT hZ (hw _ (List.mem_of_getElem? (i := 16) rfl))) (g := (mkF m 34 #[.val (.ref o0), .val (.int (5 : Int32)), .val (.ref b3), .val (.int (14 : Int32))] [(.long (ct5_g25m 13))])) rfl (hb hby d1_34) _ ?_
    refine XS.lcmp X32.here hx rfl (hb hby d1_37) rfl ?_
    refine XS.ifYes X32.here hx rfl (pc0 := 38) (pc' := 16) rfl (hb hby d1_38) rfl ((if0 _ _).trans (flt (fun q_ => (show ¬ ((2147483647 : Int64) < (ct5_g25m 13)) from (by decide +kernel)) ((lw_gt _ _).mp q_))).2.2.2) (by decide) (by decide) ?_
    refine XS.aloadN X32.here hx rfl (hb hby d1_16) rfl rfl ?_
    refine XS.iloadN X32.here hx rfl (hb hby d1_17) rfl ?_
    refine XS.iloadN X32.here hx rfl (hb hby d1_18) rfl ?_
    refine XS.iloadN X32.here hx rfl (hb hby d1_19) rfl ?_
    exact k
  obtain ⟨_, _, ⟨T33, L33, k33, n33⟩, -, X33, ⟨Lc33, hQ33, l33, y33, z33⟩, st33⟩ := Jvm.LawKit.callS X32 hx (y := (⟨"com/example/bitmend/bitmend/CodeParameters", "columns", "(II)J"⟩ : MethodName)) hown (mvT hZ (hw _ (List.mem_of_getElem? (i := 12) rfl))) (mvT hZ (hw _ (List.mem_of_getElem? (i := 13) rfl))) (mvT hZ (hw _ (List.mem_of_getElem? (i := 14) rfl))) (mvT hZ (hw _ (List.mem_of_getElem? (i := 15) rfl))) (by decide) (backOf (W := 2) (rm3 l Z a0 hw [] (5 : Int32) (14 : Int32) h32 n0 (by decide)) hZ (hw _ (List.mem_of_getElem? (i := 15) rfl)) (hw _ (List.mem_of_getElem? (i := 14) rfl)) (by decide) (by decide)) (g := (mkF m 20 #[.val (.ref o0), .val (.int (5 : Int32)), .val (.ref b3), .val (.int (14 : Int32))] [(.int (14 : Int32)), (.int (5 : Int32)), (.int (14 : Int32)), (.ref b3)])) rfl (by rw [hml]; rfl) (argsL := [(.int (5 : Int32)), (.int (14 : Int32))]) (rest := [(.int (14 : Int32)), (.ref b3)]) (lenOf pd_2 rfl) rfl (by show 2 * 0 + _ ≤ _; exact Nat.le_of_eq rfl) (hb hby d1_20) (fun _ _ => ⟨rfl, e32, (by decide : 1 + 0 ≤ _), (by decide : 33 + 0 ≤ _)⟩)
  dsimp only [Pt.U, Pt.locs, Pt.cells, Pt.slots] at X33 l33 y33 z33 st33 hQ33
  subst l33 y33 z33
  obtain ⟨rfl, N33q, e33⟩ := hQ33
  have N33 := Fr.app N32 N33q
  obtain ⟨Lh33, X33, N33⟩ := hide X33 N33 (C := 1) (S := 33) (by decide) (by decide)
  refine Outs.of st33 ?_
  refine Outs.of (U' := T33.setTop (mkF m 25 #[.val (.ref o0), .val (.int (5 : Int32)), .val (.ref b3), .val (.int (14 : Int32))] [(.long ((F_f3 (5 : Int32) (14 : Int32)) + (1 : Int64))), (.int (14 : Int32)), (.ref b3)])) (fun t k => ?_) ?_
  · refine XS.lconst X33.here hx rfl (hb hby d1_23) ?_
    refine XS.ladd X33.here hx rfl (hb hby d1_24) rfl ?_
    exact k
  obtain ⟨T34, h34, X34, e34, W34, V34, st34⟩ := puJ X33 hx hZ e33 V32 (j := (14 : Int32)) (x := ((F_f3 (5 : Int32) (14 : Int32)) + (1 : Int64))) (k := 14) rfl (by decide) (f := (mkF m 25 #[.val (.ref o0), .val (.int (5 : Int32)), .val (.ref b3), .val (.int (14 : Int32))] [(.long ((F_f3 (5 : Int32) (14 : Int32)) + (1 : Int64))), (.int (14 : Int32)), (.ref b3)])) rfl rfl (hb hby d1_25)
  replace V34 : AJ Z h34 b3 .long 33 ct5_g25n := V34
  have N34 := Fr.snoc X34 N33 g_b3
  obtain ⟨Lh34, X34, N34⟩ := hide X34 N34 (C := 1) (S := 33) (by decide) (by decide)
  refine Outs.of st34 ?_
  refine Outs.of (U' := T34.setTop (mkF m 33 #[.val (.ref o0), .val (.int (5 : Int32)), .val (.ref b3), .val (.int (15 : Int32))] [(.int (14 : Int32)), (.ref b3)])) (fun t k => ?_) ?_
  · refine XS.iinc X34.here hx rfl (hb hby d1_26) rfl (l' := #[.val (.ref o0), .val (.int (5 : Int32)), .val (.ref b3), .val (.int (15 : Int32))]) rfl ?_
    refine XS.aloadN X34.here hx rfl (hb hby d1_29) rfl rfl ?_
    refine XS.iloadN X34.here hx rfl (hb hby d1_30) rfl ?_
    refine XS.iconst X34.here hx rfl (hb hby d1_31) ?_
    refine XS.isub X34.here hx rfl (hb hby d1_32) rfl ?_
    exact k
  refine Outs.of (ldJ X34 hx hZ e34 V34 (j := (14 : Int32)) (k := 14) rfl (by decide) (f := (mkF m 33 #[.val (.ref o0), .val (.int (5 : Int32)), .val (.ref b3), .val (.int (15 : Int32))] [(.int (14 : Int32)), (.ref b3)])) rfl rfl (hb hby d1_33)) ?_
  refine Outs.of (U' := T34.setTop (mkF m 20 #[.val (.ref o0), .val (.int (5 : Int32)), .val (.ref b3), .val (.int (15 : Int32))] [(.int (15 : Int32)), (.int (5 : Int32)), (.int (15 : Int32)), (.ref b3)])) (fun t k => ?_) ?_
  · refine X34.ldc2Long hx hown (mvT hZ (hw _ (List.mem_of_getElem? (i := 16) rfl))) (g := (mkF m 34 #[.val (.ref o0), .val (.int (5 : Int32)), .val (.ref b3), .val (.int (15 : Int32))] [(.long (ct5_g25n 14))])) rfl (hb hby d1_34) _ ?_
    refine XS.lcmp X34.here hx rfl (hb hby d1_37) rfl ?_
    refine XS.ifYes X34.here hx rfl (pc0 := 38) (pc' := 16) rfl (hb hby d1_38) rfl ((if0 _ _).trans (flt (fun q_ => (show ¬ ((2147483647 : Int64) < (ct5_g25n 14)) from (by decide +kernel)) ((lw_gt _ _).mp q_))).2.2.2) (by decide) (by decide) ?_
    refine XS.aloadN X34.here hx rfl (hb hby d1_16) rfl rfl ?_
    refine XS.iloadN X34.here hx rfl (hb hby d1_17) rfl ?_
    refine XS.iloadN X34.here hx rfl (hb hby d1_18) rfl ?_
    refine XS.iloadN X34.here hx rfl (hb hby d1_19) rfl ?_
    exact k
  obtain ⟨_, _, ⟨T35, L35, k35, n35⟩, -, X35, ⟨Lc35, hQ35, l35, y35, z35⟩, st35⟩ := Jvm.LawKit.callS X34 hx (y := (⟨"com/example/bitmend/bitmend/CodeParameters", "columns", "(II)J"⟩ : MethodName)) hown (mvT hZ (hw _ (List.mem_of_getElem? (i := 12) rfl))) (mvT hZ (hw _ (List.mem_of_getElem? (i := 13) rfl))) (mvT hZ (hw _ (List.mem_of_getElem? (i := 14) rfl))) (mvT hZ (hw _ (List.mem_of_getElem? (i := 15) rfl))) (by decide) (backOf (W := 2) (rm3 l Z a0 hw [] (5 : Int32) (15 : Int32) h34 n0 (by decide)) hZ (hw _ (List.mem_of_getElem? (i := 15) rfl)) (hw _ (List.mem_of_getElem? (i := 14) rfl)) (by decide) (by decide)) (g := (mkF m 20 #[.val (.ref o0), .val (.int (5 : Int32)), .val (.ref b3), .val (.int (15 : Int32))] [(.int (15 : Int32)), (.int (5 : Int32)), (.int (15 : Int32)), (.ref b3)])) rfl (by rw [hml]; rfl) (argsL := [(.int (5 : Int32)), (.int (15 : Int32))]) (rest := [(.int (15 : Int32)), (.ref b3)]) (lenOf pd_2 rfl) rfl (by show 2 * 0 + _ ≤ _; exact Nat.le_of_eq rfl) (hb hby d1_20) (fun _ _ => ⟨rfl, e34, (by decide : 1 + 0 ≤ _), (by decide : 33 + 0 ≤ _)⟩)
  dsimp only [Pt.U, Pt.locs, Pt.cells, Pt.slots] at X35 l35 y35 z35 st35 hQ35
  subst l35 y35 z35
  obtain ⟨rfl, N35q, e35⟩ := hQ35
  have N35 := Fr.app N34 N35q
  obtain ⟨Lh35, X35, N35⟩ := hide X35 N35 (C := 1) (S := 33) (by decide) (by decide)
  refine Outs.of st35 ?_
  refine Outs.of (U' := T35.setTop (mkF m 25 #[.val (.ref o0), .val (.int (5 : Int32)), .val (.ref b3), .val (.int (15 : Int32))] [(.long ((F_f3 (5 : Int32) (15 : Int32)) + (1 : Int64))), (.int (15 : Int32)), (.ref b3)])) (fun t k => ?_) ?_
  · refine XS.lconst X35.here hx rfl (hb hby d1_23) ?_
    refine XS.ladd X35.here hx rfl (hb hby d1_24) rfl ?_
    exact k
  obtain ⟨T36, h36, X36, e36, W36, V36, st36⟩ := puJ X35 hx hZ e35 V34 (j := (15 : Int32)) (x := ((F_f3 (5 : Int32) (15 : Int32)) + (1 : Int64))) (k := 15) rfl (by decide) (f := (mkF m 25 #[.val (.ref o0), .val (.int (5 : Int32)), .val (.ref b3), .val (.int (15 : Int32))] [(.long ((F_f3 (5 : Int32) (15 : Int32)) + (1 : Int64))), (.int (15 : Int32)), (.ref b3)])) rfl rfl (hb hby d1_25)
  replace V36 : AJ Z h36 b3 .long 33 ct5_g25o := V36
  have N36 := Fr.snoc X36 N35 g_b3
  obtain ⟨Lh36, X36, N36⟩ := hide X36 N36 (C := 1) (S := 33) (by decide) (by decide)
  refine Outs.of st36 ?_
  refine Outs.of (U' := T36.setTop (mkF m 33 #[.val (.ref o0), .val (.int (5 : Int32)), .val (.ref b3), .val (.int (16 : Int32))] [(.int (15 : Int32)), (.ref b3)])) (fun t k => ?_) ?_
  · refine XS.iinc X36.here hx rfl (hb hby d1_26) rfl (l' := #[.val (.ref o0), .val (.int (5 : Int32)), .val (.ref b3), .val (.int (16 : Int32))]) rfl ?_
    refine XS.aloadN X36.here hx rfl (hb hby d1_29) rfl rfl ?_
    refine XS.iloadN X36.here hx rfl (hb hby d1_30) rfl ?_
    refine XS.iconst X36.here hx rfl (hb hby d1_31) ?_
    refine XS.isub X36.here hx rfl (hb hby d1_32) rfl ?_
    exact k
  refine Outs.of (ldJ X36 hx hZ e36 V36 (j := (15 : Int32)) (k := 15) rfl (by decide) (f := (mkF m 33 #[.val (.ref o0), .val (.int (5 : Int32)), .val (.ref b3), .val (.int (16 : Int32))] [(.int (15 : Int32)), (.ref b3)])) rfl rfl (hb hby d1_33)) ?_
  refine Outs.of (U' := T36.setTop (mkF m 44 #[.val (.ref o0), .val (.int (5 : Int32)), .val (.ref b3), .val (.int (16 : Int32))] [(.int (16 : Int32)), (.ref b3), (.ref o0)])) (fun t k => ?_) ?_
  · refine X36.ldc2Long hx hown (mvT hZ (hw _ (List.mem_of_getElem? (i := 16) rfl))) (g := (mkF m 34 #[.val (.ref o0), .val (.int (5 : Int32)), .val (.ref b3), .val (.int (16 : Int32))] [(.long (ct5_g25o 15))])) rfl (hb hby d1_34) _ ?_
    refine XS.lcmp X36.here hx rfl (hb hby d1_37) rfl ?_
    refine XS.ifNo X36.here hx rfl (hb hby d1_38) rfl ((if0 _ _).trans (tlt ((lw_gt _ _).mpr (show (2147483647 : Int64) < (ct5_g25o 15) from (by decide +kernel)))).2.2.2) ?_
    refine XS.aloadN X36.here hx rfl (hb hby d1_41) rfl rfl ?_
    refine XS.aloadN X36.here hx rfl (hb hby d1_42) rfl rfl ?_
    refine XS.iloadN X36.here hx rfl (hb hby d1_43) rfl ?_
    exact k
  have f37 : Exa Z h36 o0 "com/example/bitmend/bitmend/PositionalColumns" := (((((((((((((((((f4.ext E3).wr W6).wr W8).wr W10).wr W12).wr W14).wr W16).wr W18).wr W20).wr W22).wr W24).wr W26).wr W28).wr W30).wr W32).wr W34).wr W36)
  obtain ⟨_, _, ⟨T38, L38, k38, n38⟩, -, X38, ⟨Lc38, hQ38, l38, y38, z38⟩, st38⟩ := Jvm.LawKit.callS X36 hx (y := (⟨"java/util/Arrays", "copyOf", "([JI)[J"⟩ : MethodName)) hown (mvT hZ (hw _ (List.mem_of_getElem? (i := 17) rfl))) (mvT hZ (hw _ (List.mem_of_getElem? (i := 18) rfl))) (mvT hZ (hw _ (List.mem_of_getElem? (i := 19) rfl))) (mvT hZ (hw _ (List.mem_of_getElem? (i := 20) rfl))) (by decide) (backOf (W := 1) (rmcp5 l Z a0 hw [] b3 ct5_g25o h36 n0 (Nat.le_trans (Nat.le_trans (Nat.le_trans (Nat.le_trans (Nat.le_trans (Nat.le_trans (Nat.le_trans (Nat.le_trans (Nat.le_trans (Nat.le_trans (Nat.le_trans (Nat.le_trans (Nat.le_trans (Nat.le_trans (Nat.le_trans (Nat.le_trans (Nat.le_trans (Nat.le_trans Z0 (Keep.of_wr W2).1) E3.1) (Keep.of_wr W6).1) (Keep.of_wr W8).1) (Keep.of_wr W10).1) (Keep.of_wr W12).1) (Keep.of_wr W14).1) (Keep.of_wr W16).1) (Keep.of_wr W18).1) (Keep.of_wr W20).1) (Keep.of_wr W22).1) (Keep.of_wr W24).1) (Keep.of_wr W26).1) (Keep.of_wr W28).1) (Keep.of_wr W30).1) (Keep.of_wr W32).1) (Keep.of_wr W34).1) (Keep.of_wr W36).1) V36) hZ (hw _ (List.mem_of_getElem? (i := 20) rfl)) (hw _ (List.mem_of_getElem? (i := 19) rfl)) (by decide) (by decide)) (g := (mkF m 44 #[.val (.ref o0), .val (.int (5 : Int32)), .val (.ref b3), .val (.int (16 : Int32))] [(.int (16 : Int32)), (.ref b3), (.ref o0)])) rfl (by rw [hml]; rfl) (argsL := [(.ref b3), (.int (16 : Int32))]) (rest := [(.ref o0)]) (lenOf pd_3 rfl) rfl (by show 2 * 0 + _ ≤ _; exact Nat.le_of_eq rfl) (hb hby d1_44) (fun _ _ => ⟨rfl, e36, (by decide : 1 + 1 ≤ _), (by decide : 33 + 16 ≤ _)⟩)
  dsimp only [Pt.U, Pt.locs, Pt.cells, Pt.slots] at X38 l38 y38 z38 st38 hQ38
  subst l38 y38 z38
  obtain ⟨b38, g_b38, hs_b38, rfl, N38q, K38, u38_0⟩ := hQ38
  have N38 := Fr.app N36 N38q
  have sz_b38 : h0.size ≤ b38 := Nat.le_trans (((((((((((((((((((Keep.refl h0 [o0]).wr W2 (Or.inl (List.mem_of_getElem? (i := 0) rfl))).ext E3).wr W6 (Or.inr sz_b3)).wr W8 (Or.inr sz_b3)).wr W10 (Or.inr sz_b3)).wr W12 (Or.inr sz_b3)).wr W14 (Or.inr sz_b3)).wr W16 (Or.inr sz_b3)).wr W18 (Or.inr sz_b3)).wr W20 (Or.inr sz_b3)).wr W22 (Or.inr sz_b3)).wr W24 (Or.inr sz_b3)).wr W26 (Or.inr sz_b3)).wr W28 (Or.inr sz_b3)).wr W30 (Or.inr sz_b3)).wr W32 (Or.inr sz_b3)).wr W34 (Or.inr sz_b3)).wr W36 (Or.inr sz_b3)).1 hs_b38
  have ne_o0_b38 : o0 ≠ b38 := Nat.ne_of_lt (Nat.lt_of_lt_of_le f37.lt hs_b38)
  have ne_b3_b38 : b3 ≠ b38 := Nat.ne_of_lt (Nat.lt_of_lt_of_le V36.lt hs_b38)
  obtain ⟨Lh38, X38, N38⟩ := hide X38 N38 (C := 2) (S := 49) (by decide) (by decide)
  refine Outs.of st38 ?_
  have f40 : Exa Z T38.heap o0 "com/example/bitmend/bitmend/PositionalColumns" := (f37.keep K38)
  have f41 : Fld Z T38.heap o0 "com/example/bitmend/bitmend/PositionalColumns" "checkPositions" "[J" .null := (((((((((((((((((((F_o0_checkPositions.other W2 (Or.inr (slot_ne (Or.inr (hw _ (List.mem_of_getElem? (i := 30) rfl))) (Or.inr (hw _ (List.mem_of_getElem? (i := 10) rfl))) (by decide) (t := (.array .long)) (t' := .int) (by decide) (by decide)))).ext E3).other W6 (Or.inl ne_o0_b3)).other W8 (Or.inl ne_o0_b3)).other W10 (Or.inl ne_o0_b3)).other W12 (Or.inl ne_o0_b3)).other W14 (Or.inl ne_o0_b3)).other W16 (Or.inl ne_o0_b3)).other W18 (Or.inl ne_o0_b3)).other W20 (Or.inl ne_o0_b3)).other W22 (Or.inl ne_o0_b3)).other W24 (Or.inl ne_o0_b3)).other W26 (Or.inl ne_o0_b3)).other W28 (Or.inl ne_o0_b3)).other W30 (Or.inl ne_o0_b3)).other W32 (Or.inl ne_o0_b3)).other W34 (Or.inl ne_o0_b3)).other W36 (Or.inl ne_o0_b3)).keep K38 nin0)
  obtain ⟨T39, h39, X39, e39, W39, st39⟩ := putF X38 hx hZ hown (host := "") (Or.inl (hw _ (List.mem_of_getElem? (i := 29) rfl))) Via.refl rfl f41 f40 (Or.inr ⟨(hw _ (List.mem_of_getElem? (i := 30) rfl)), rfl, hnm⟩) (hw _ (List.mem_of_getElem? (i := 1) rfl)) (ty := (.array .long)) (by decide) rfl rfl (g := (mkF m 47 #[.val (.ref o0), .val (.int (5 : Int32)), .val (.ref b3), .val (.int (16 : Int32))] [(.ref b38), (.ref o0)])) rfl rfl (hb hby d1_47)
  have F39 : Fld Z h39 o0 "com/example/bitmend/bitmend/PositionalColumns" "checkPositions" "[J" (.ref b38) := f41.same W39
  have N39 := Fr.snoc X39 N38 g_o0
  obtain ⟨Lh39, X39, N39⟩ := hide X39 N39 (C := 2) (S := 49) (by decide) (by decide)
  refine Outs.of st39 ?_
  have f42 : Exa Z h39 o0 "com/example/bitmend/bitmend/PositionalColumns" := (f40.wr W39)
  have f43 : AJ Z h39 b38 .long 16 (cp5_g28 ct5_g25o) := (u38_0.other W39 ne_o0_b38.symm)
  exact Outs.retV X39 hx hret (hb hby d1_50) hlk (by decide) (by decide) e39 ⟨b38, g_b38, sz_b38, rfl, N39, (((((((((((((((((((((Keep.refl h0 [o0]).wr W2 (Or.inl (List.mem_of_getElem? (i := 0) rfl))).ext E3).wr W6 (Or.inr sz_b3)).wr W8 (Or.inr sz_b3)).wr W10 (Or.inr sz_b3)).wr W12 (Or.inr sz_b3)).wr W14 (Or.inr sz_b3)).wr W16 (Or.inr sz_b3)).wr W18 (Or.inr sz_b3)).wr W20 (Or.inr sz_b3)).wr W22 (Or.inr sz_b3)).wr W24 (Or.inr sz_b3)).wr W26 (Or.inr sz_b3)).wr W28 (Or.inr sz_b3)).wr W30 (Or.inr sz_b3)).wr W32 (Or.inr sz_b3)).wr W34 (Or.inr sz_b3)).wr W36 (Or.inr sz_b3)).trans K38 all0).wr W39 (Or.inl (List.mem_of_getElem? (i := 0) rfl))), f42, F39, f43⟩
def cp7_g28 (g : Nat → Int64) : Nat → Int64 := (fun j_ => if j_ < 13 then g j_ else (fun _ => (0 : Int64)) j_)
def Q_cp7 (Z : State) (o0 : Addr) (g : Nat → Int64) (h0 : Heap) (n0 : Nat) (v : Option Value) (h : Heap) (L : List Loc) : Prop := ∃ b1 : Addr, n0 ≤ b1 ∧ h0.size ≤ b1 ∧ v = some (.ref b1) ∧ Fr n0 L ∧ Keep h0 h [] ∧ AJ Z h b1 .long 13 (cp7_g28 g)
set_option maxRecDepth 65536 in
set_option maxHeartbeats 40000000 in
theorem rmcp7 (l : Launch) (Z : State) (a0 : Array Value) (hw : ∀ d ∈ tables_1, d.before a0 Z = true) (ws : List Jvm.Cond) (o0 : Addr) (g : Nat → Int64) (h0 : Heap) (n0 : Nat) (Z0 : n0 ≤ h0.size) (A_o0 : AJ Z h0 o0 .long 33 g) :
    MetFree l (⟨"java/util/Arrays", "copyOf", "([JI)[J"⟩ : MethodName) (head1 (Jvm.Cond.code (⟨"java/util/Arrays", "copyOf", "([JI)[J"⟩ : MethodName) jdk_65_method_124_code 3 (some (.array .long)) :: ws) ({ frames := 1, cells := 1, slots := 13, locals := 18 } : Room)) (fun a U => a = #[(.ref o0), (.int (13 : Int32))] ∧ Z.Warmed39 U.vm ∧ U.heap = h0) (fun _ _ _ _ _ => True) (fun _ U o U' => ∃ v L, o = .returned v ∧ Q_cp7 Z o0 g h0 n0 v U'.heap L ∧ FrameEnd U o U' L ({ frames := 1, cells := 1, slots := 13, locals := 18 } : Room).cells ({ frames := 1, cells := 1, slots := 13, locals := 18 } : Room).slots) := by
  refine MetFree.of_bodySF (plainFor_of_name pn_4) hisR ?_
  intro p e s m args below meth c s₁ Bd hml0 hP hK
  obtain ⟨rfl, hZ, hh⟩ := hP
  have hx := Bd.exec
  have hby := Bd.bytes
  have hml : c.maxLocals = 3 := hml0
  have hown : s.vm.findClass "java/util/Arrays" = some m.cls := findClass_of_methodNamed Bd.named
  have hnm := (name_of_methodNamed Bd.named Bd.method).1
  have hret := Bd.returns
  have hlk : meth.locks = false := BodyLoose.notSynchronized Bd
  have X0 : Stand p l e ({ frames := 1, cells := 1, slots := 13, locals := 18 } : Room) s m #[(.ref o0), (.int (13 : Int32))] below meth c s₁ [] 0 0 := Stand.of_body Bd
  have e0 : s₁.heap = h0 := by rw [← hh, Bd.state]; rfl
  have N0 := Fr.nil n0
  show Outs p e below s (Q_cp7 Z o0 g h0 n0) _ _ _
  refine Outs.of (U' := s₁.setTop (mkF m 0 #[.val (.ref o0), .val (.int (13 : Int32)), .unset] [])) (fun t k => castTop (ef_4 m o0 (13 : Int32)) k) ?_
  refine Outs.of (U' := s₁.setTop (mkF m 2 #[.val (.ref o0), .val (.int (13 : Int32)), .unset] [(.ref o0), (.int (13 : Int32))])) (fun t k => ?_) ?_
  · refine XS.iloadN X0.here hx rfl (hb hby d4_0) rfl ?_
    refine XS.aloadN X0.here hx rfl (hb hby d4_1) rfl rfl ?_
    exact k
  refine Outs.of (alen X0 hx hZ e0 A_o0 (z := (33 : Int32)) rfl (f := (mkF m 2 #[.val (.ref o0), .val (.int (13 : Int32)), .unset] [(.ref o0), (.int (13 : Int32))])) rfl rfl (hb hby d4_2)) ?_
  refine Outs.of (U' := s₁.setTop (mkF m 15 #[.val (.ref o0), .val (.int (13 : Int32)), .unset] [(.int (13 : Int32))])) (fun t k => ?_) ?_
  · refine XS.icmpYes X0.here hx rfl (pc0 := 3) (pc' := 14) rfl (hb hby d4_3) rfl (feq (show ¬ ((13 : Int32) = (33 : Int32)) from (by decide))).2 (by decide) (by decide) ?_
    refine XS.iloadN X0.here hx rfl (hb hby d4_14) rfl ?_
    exact k
  obtain ⟨T1, h1, X1, e1, E1, A1, st1⟩ := newAF X0 hx hZ (aty := .long) (hw _ (List.mem_of_getElem? (i := 11) rfl)) e0 (f := (mkF m 15 #[.val (.ref o0), .val (.int (13 : Int32)), .unset] [(.int (13 : Int32))])) rfl (hb hby d4_15) rfl (k := 13) rfl (cap := 13) (by decide) (by decide) (by decide) (by decide)
  obtain ⟨b1, g1⟩ : ∃ z, z = h0.size := ⟨_, rfl⟩
  rw [← g1] at A1 st1
  have g_b1 : n0 ≤ b1 := Nat.le_trans Z0 (Nat.le_of_eq g1.symm)
  have sz_b1 : h0.size ≤ b1 := Nat.le_trans (Keep.refl h0 []).1 (Nat.le_of_eq g1.symm)
  have ne_o0_b1 : o0 ≠ b1 := Nat.ne_of_lt (Nat.lt_of_lt_of_eq A_o0.lt g1.symm)
  have V1 : AJ Z h1 b1 .long 13 (fun _ => (0 : Int64)) := A1
  refine Outs.of st1 ?_
  refine Outs.of (U' := T1.setTop (mkF m 23 #[.val (.ref o0), .val (.int (13 : Int32)), .val (.ref b1)] [(.ref o0), (.int (0 : Int32)), (.ref b1), (.int (0 : Int32)), (.ref o0)])) (fun t k => ?_) ?_
  · refine XS.astoreN X1.here hx rfl (hb hby d4_17) rfl rfl (l' := #[.val (.ref o0), .val (.int (13 : Int32)), .val (.ref b1)]) rfl ?_
    refine XS.aloadN X1.here hx rfl (hb hby d4_18) rfl rfl ?_
    refine XS.iconst X1.here hx rfl (hb hby d4_19) ?_
    refine XS.aloadN X1.here hx rfl (hb hby d4_20) rfl rfl ?_
    refine XS.iconst X1.here hx rfl (hb hby d4_21) ?_
    refine XS.aloadN X1.here hx rfl (hb hby d4_22) rfl rfl ?_
    exact k
  have f2 : AJ Z h1 o0 .long 33 g := (A_o0.ext E1)
  refine Outs.of (alen X1 hx hZ e1 f2 (z := (33 : Int32)) rfl (f := (mkF m 23 #[.val (.ref o0), .val (.int (13 : Int32)), .val (.ref b1)] [(.ref o0), (.int (0 : Int32)), (.ref b1), (.int (0 : Int32)), (.ref o0)])) rfl rfl (hb hby d4_23)) ?_
  refine Outs.of (U' := T1.setTop (mkF m 25 #[.val (.ref o0), .val (.int (13 : Int32)), .val (.ref b1)] [(.int (13 : Int32)), (.int (33 : Int32)), (.int (0 : Int32)), (.ref b1), (.int (0 : Int32)), (.ref o0)])) (fun t k => ?_) ?_
  · refine XS.iloadN X1.here hx rfl (hb hby d4_24) rfl ?_
    exact k
  obtain ⟨_, _, ⟨T3, L3, k3, n3⟩, -, X3, ⟨Lc3, hQ3, l3, y3, z3⟩, st3⟩ := Jvm.LawKit.callS X1 hx (y := (⟨"java/lang/Math", "min", "(II)I"⟩ : MethodName)) hown (mvT hZ (hw _ (List.mem_of_getElem? (i := 21) rfl))) (mvT hZ (hw _ (List.mem_of_getElem? (i := 22) rfl))) (mvT hZ (hw _ (List.mem_of_getElem? (i := 23) rfl))) (mvT hZ (hw _ (List.mem_of_getElem? (i := 24) rfl))) (by decide) (backOf (W := 4) (rm5 l Z a0 hw [] (33 : Int32) (13 : Int32) h1 n0 ) hZ (hw _ (List.mem_of_getElem? (i := 24) rfl)) (hw _ (List.mem_of_getElem? (i := 23) rfl)) (by decide) (by decide)) (g := (mkF m 25 #[.val (.ref o0), .val (.int (13 : Int32)), .val (.ref b1)] [(.int (13 : Int32)), (.int (33 : Int32)), (.int (0 : Int32)), (.ref b1), (.int (0 : Int32)), (.ref o0)])) rfl (by rw [hml]; rfl) (argsL := [(.int (33 : Int32)), (.int (13 : Int32))]) (rest := [(.int (0 : Int32)), (.ref b1), (.int (0 : Int32)), (.ref o0)]) (lenOf pd_4 rfl) rfl (by show 2 * 0 + _ ≤ _; exact Nat.le_of_eq rfl) (hb hby d4_25) (fun _ _ => ⟨rfl, e1, (by decide : 1 + 0 ≤ _), (by decide : 13 + 0 ≤ _)⟩)
  dsimp only [Pt.U, Pt.locs, Pt.cells, Pt.slots] at X3 l3 y3 z3 st3 hQ3
  subst l3 y3 z3
  obtain ⟨rfl, N3q, e3⟩ := hQ3
  have N3 := Fr.app N0 N3q
  obtain ⟨Lh3, X3, N3⟩ := hide X3 N3 (C := 1) (S := 13) (by decide) (by decide)
  refine Outs.of st3 ?_
  obtain ⟨T4, h4, Lc4, X4, e4, N4, K4, V4, st4⟩ := cpJ X3 hx hZ hown (hw _ (List.mem_of_getElem? (i := 25) rfl)) (hw _ (List.mem_of_getElem? (i := 28) rfl)) (hw _ (List.mem_of_getElem? (i := 26) rfl)) (hw _ (List.mem_of_getElem? (i := 27) rfl)) e3 f2 V1 (nn := (13 : Int32)) (k := 13) rfl (by decide) (by decide) N3 g_b1 (f := (mkF m 28 #[.val (.ref o0), .val (.int (13 : Int32)), .val (.ref b1)] [(.int (13 : Int32)), (.int (0 : Int32)), (.ref b1), (.int (0 : Int32)), (.ref o0)])) rfl (by rw [hml]; rfl) rfl (hb hby d4_28) (by decide) (W := 0) (by show 2 * 0 + _ ≤ _; exact Nat.le_of_eq rfl) (by decide)
  replace V4 : AJ Z h4 b1 .long 13 (cp7_g28 g) := V4
  obtain ⟨Lh4, X4, N4⟩ := hide X4 N4 (C := 1) (S := 13) (by decide) (by decide)
  refine Outs.of st4 ?_
  refine Outs.of (U' := T4.setTop (mkF m 32 #[.val (.ref o0), .val (.int (13 : Int32)), .val (.ref b1)] [(.ref b1)])) (fun t k => ?_) ?_
  · refine XS.aloadN X4.here hx rfl (hb hby d4_31) rfl rfl ?_
    exact k
  exact Outs.retA (w := (.ref b1)) X4 hx hret rfl rfl rfl (hb hby d4_32) hlk (by decide) (by decide) e4 ⟨b1, g_b1, sz_b1, rfl, N4, (((Keep.refl h0 []).ext E1).trans K4 (allS (Or.inr sz_b1) all0)), V4⟩
def ct7_g25  : Nat → Int64 := (upv (fun _ => (0 : Int64)) 0 ((F_f3 (7 : Int32) (0 : Int32)) + (1 : Int64)))
def ct7_g25a  : Nat → Int64 := (upv ct7_g25 1 ((F_f3 (7 : Int32) (1 : Int32)) + (1 : Int64)))
def ct7_g25b  : Nat → Int64 := (upv ct7_g25a 2 ((F_f3 (7 : Int32) (2 : Int32)) + (1 : Int64)))
def ct7_g25c  : Nat → Int64 := (upv ct7_g25b 3 ((F_f3 (7 : Int32) (3 : Int32)) + (1 : Int64)))
def ct7_g25d  : Nat → Int64 := (upv ct7_g25c 4 ((F_f3 (7 : Int32) (4 : Int32)) + (1 : Int64)))
def ct7_g25e  : Nat → Int64 := (upv ct7_g25d 5 ((F_f3 (7 : Int32) (5 : Int32)) + (1 : Int64)))
def ct7_g25f  : Nat → Int64 := (upv ct7_g25e 6 ((F_f3 (7 : Int32) (6 : Int32)) + (1 : Int64)))
def ct7_g25g  : Nat → Int64 := (upv ct7_g25f 7 ((F_f3 (7 : Int32) (7 : Int32)) + (1 : Int64)))
def ct7_g25h  : Nat → Int64 := (upv ct7_g25g 8 ((F_f3 (7 : Int32) (8 : Int32)) + (1 : Int64)))
def ct7_g25i  : Nat → Int64 := (upv ct7_g25h 9 ((F_f3 (7 : Int32) (9 : Int32)) + (1 : Int64)))
def ct7_g25j  : Nat → Int64 := (upv ct7_g25i 10 ((F_f3 (7 : Int32) (10 : Int32)) + (1 : Int64)))
def ct7_g25k  : Nat → Int64 := (upv ct7_g25j 11 ((F_f3 (7 : Int32) (11 : Int32)) + (1 : Int64)))
def ct7_g25l  : Nat → Int64 := (upv ct7_g25k 12 ((F_f3 (7 : Int32) (12 : Int32)) + (1 : Int64)))
def Q_ct7 (Z : State) (o0 : Addr) (h0 : Heap) (n0 : Nat) (v : Option Value) (h : Heap) (L : List Loc) : Prop := ∃ b32 : Addr, n0 ≤ b32 ∧ h0.size ≤ b32 ∧ v = none ∧ Fr n0 L ∧ Keep h0 h [o0] ∧ Exa Z h o0 "com/example/bitmend/bitmend/PositionalColumns" ∧ Fld Z h o0 "com/example/bitmend/bitmend/PositionalColumns" "checkPositions" "[J" (.ref b32) ∧ AJ Z h b32 .long 13 (cp7_g28 ct7_g25l)
set_option maxRecDepth 65536 in
set_option maxHeartbeats 40000000 in
theorem rmct7 (l : Launch) (Z : State) (a0 : Array Value) (hw : ∀ d ∈ tables_1, d.before a0 Z = true) (ws : List Jvm.Cond) (o0 : Addr)  (h0 : Heap) (n0 : Nat) (Z0 : n0 ≤ h0.size) (E_o0 : Exa Z h0 o0 "com/example/bitmend/bitmend/PositionalColumns") (g_o0 : n0 ≤ o0) (F_o0_fieldSize : Fld Z h0 o0 "com/example/bitmend/bitmend/PositionalColumns" "fieldSize" "I" (.int (0 : Int32))) (F_o0_checkPositions : Fld Z h0 o0 "com/example/bitmend/bitmend/PositionalColumns" "checkPositions" "[J" .null) :
    MetFree l (⟨"com/example/bitmend/bitmend/PositionalColumns", "<init>", "(I)V"⟩ : MethodName) (head1 (Jvm.Cond.code (⟨"com/example/bitmend/bitmend/PositionalColumns", "<init>", "(I)V"⟩ : MethodName) prog_35_method_1_code 4 none :: ws) ({ frames := 2, cells := 2, slots := 46, locals := 33 } : Room)) (fun a U => a = #[(.ref o0), (.int (7 : Int32))] ∧ Z.Warmed39 U.vm ∧ U.heap = h0) (fun _ _ _ _ _ => True) (fun _ U o U' => ∃ v L, o = .returned v ∧ Q_ct7 Z o0 h0 n0 v U'.heap L ∧ FrameEnd U o U' L ({ frames := 2, cells := 2, slots := 46, locals := 33 } : Room).cells ({ frames := 2, cells := 2, slots := 46, locals := 33 } : Room).slots) := by
  refine MetFree.of_bodySF (plainFor_of_name pn_1) hisR ?_
  intro p e s m args below meth c s₁ Bd hml0 hP hK
  obtain ⟨rfl, hZ, hh⟩ := hP
  have hx := Bd.exec
  have hby := Bd.bytes
  have hml : c.maxLocals = 4 := hml0
  have hown : s.vm.findClass "com/example/bitmend/bitmend/PositionalColumns" = some m.cls := findClass_of_methodNamed Bd.named
  have hnm := (name_of_methodNamed Bd.named Bd.method).1
  have hret := Bd.returns
  have hlk : meth.locks = false := BodyLoose.notSynchronized Bd
  have X0 : Stand p l e ({ frames := 2, cells := 2, slots := 46, locals := 33 } : Room) s m #[(.ref o0), (.int (7 : Int32))] below meth c s₁ [] 0 0 := Stand.of_body Bd
  have e0 : s₁.heap = h0 := by rw [← hh, Bd.state]; rfl
  have N0 := Fr.nil n0
  show Outs p e below s (Q_ct7 Z o0 h0 n0) _ _ _
  refine Outs.of (U' := s₁.setTop (mkF m 0 #[.val (.ref o0), .val (.int (7 : Int32)), .unset, .unset] [])) (fun t k => castTop (ef_1 m o0 (7 : Int32)) k) ?_
  refine Outs.of (U' := s₁.setTop (mkF m 1 #[.val (.ref o0), .val (.int (7 : Int32)), .unset, .unset] [(.ref o0)])) (fun t k => ?_) ?_
  · refine XS.aloadN X0.here hx rfl (hb hby d1_0) rfl rfl ?_
    exact k
  obtain ⟨T1, X1, e1, st1⟩ := initO X0 hx hZ hown (hw _ (List.mem_of_getElem? (i := 6) rfl)) (hw _ (List.mem_of_getElem? (i := 7) rfl)) (hw _ (List.mem_of_getElem? (i := 8) rfl)) e0 (g := (mkF m 1 #[.val (.ref o0), .val (.int (7 : Int32)), .unset, .unset] [(.ref o0)])) rfl (by rw [hml]; rfl) rfl (hb hby d1_1) (by decide) (W := 0) (by show 2 * 0 + _ ≤ _; exact Nat.le_of_eq rfl) (by decide)
  refine Outs.of st1 ?_
  refine Outs.of (U' := T1.setTop (mkF m 6 #[.val (.ref o0), .val (.int (7 : Int32)), .unset, .unset] [(.int (7 : Int32)), (.ref o0)])) (fun t k => ?_) ?_
  · refine XS.aloadN X1.here hx rfl (hb hby d1_4) rfl rfl ?_
    refine XS.iloadN X1.here hx rfl (hb hby d1_5) rfl ?_
    exact k
  obtain ⟨T2, h2, X2, e2, W2, st2⟩ := putF X1 hx hZ hown (host := "") (Or.inl (hw _ (List.mem_of_getElem? (i := 9) rfl))) Via.refl e1 F_o0_fieldSize E_o0 (Or.inr ⟨(hw _ (List.mem_of_getElem? (i := 10) rfl)), rfl, hnm⟩) (hw _ (List.mem_of_getElem? (i := 1) rfl)) (ty := .int) (by decide) rfl rfl (g := (mkF m 6 #[.val (.ref o0), .val (.int (7 : Int32)), .unset, .unset] [(.int (7 : Int32)), (.ref o0)])) rfl rfl (hb hby d1_6)
  have F2 : Fld Z h2 o0 "com/example/bitmend/bitmend/PositionalColumns" "fieldSize" "I" (.int (7 : Int32)) := F_o0_fieldSize.same W2
  have N2 := Fr.snoc X2 N0 g_o0
  obtain ⟨Lh2, X2, N2⟩ := hide X2 N2 (C := 0) (S := 0) (by decide) (by decide)
  refine Outs.of st2 ?_
  refine Outs.of (U' := T2.setTop (mkF m 11 #[.val (.ref o0), .val (.int (7 : Int32)), .unset, .unset] [(.int (33 : Int32))])) (fun t k => ?_) ?_
  · refine XS.bipush X2.here hx rfl (hb hby d1_9) ?_
    exact k
  have f4 : Exa Z h2 o0 "com/example/bitmend/bitmend/PositionalColumns" := (E_o0.wr W2)
  obtain ⟨T3, h3, X3, e3, E3, A3, st3⟩ := newAF X2 hx hZ (aty := .long) (hw _ (List.mem_of_getElem? (i := 11) rfl)) e2 (f := (mkF m 11 #[.val (.ref o0), .val (.int (7 : Int32)), .unset, .unset] [(.int (33 : Int32))])) rfl (hb hby d1_11) rfl (k := 33) rfl (cap := 33) (by decide) (by decide) (by decide) (by decide)
  obtain ⟨b3, g3⟩ : ∃ z, z = h2.size := ⟨_, rfl⟩
  rw [← g3] at A3 st3
  have g_b3 : n0 ≤ b3 := Nat.le_trans (Nat.le_trans Z0 (Keep.of_wr W2).1) (Nat.le_of_eq g3.symm)
  have sz_b3 : h0.size ≤ b3 := Nat.le_trans ((Keep.refl h0 [o0]).wr W2 (Or.inl (List.mem_of_getElem? (i := 0) rfl))).1 (Nat.le_of_eq g3.symm)
  have ne_o0_b3 : o0 ≠ b3 := Nat.ne_of_lt (Nat.lt_of_lt_of_eq f4.lt g3.symm)
  have V3 : AJ Z h3 b3 .long 33 (fun _ => (0 : Int64)) := A3
  refine Outs.of st3 ?_
  refine Outs.of (U' := T3.setTop (mkF m 20 #[.val (.ref o0), .val (.int (7 : Int32)), .val (.ref b3), .val (.int (0 : Int32))] [(.int (0 : Int32)), (.int (7 : Int32)), (.int (0 : Int32)), (.ref b3)])) (fun t k => ?_) ?_
  · refine XS.astoreN X3.here hx rfl (hb hby d1_13) rfl rfl (l' := #[.val (.ref o0), .val (.int (7 : Int32)), .val (.ref b3), .unset]) rfl ?_
    refine XS.iconst X3.here hx rfl (hb hby d1_14) ?_
    refine XS.istoreN X3.here hx rfl (hb hby d1_15) rfl (l' := #[.val (.ref o0), .val (.int (7 : Int32)), .val (.ref b3), .val (.int (0 : Int32))]) rfl ?_
    refine XS.aloadN X3.here hx rfl (hb hby d1_16) rfl rfl ?_
    refine XS.iloadN X3.here hx rfl (hb hby d1_17) rfl ?_
    refine XS.iloadN X3.here hx rfl (hb hby d1_18) rfl ?_
    refine XS.iloadN X3.here hx rfl (hb hby d1_19) rfl ?_
    exact k
  obtain ⟨_, _, ⟨T5, L5, k5, n5⟩, -, X5, ⟨Lc5, hQ5, l5, y5, z5⟩, st5⟩ := Jvm.LawKit.callS X3 hx (y := (⟨"com/example/bitmend/bitmend/CodeParameters", "columns", "(II)J"⟩ : MethodName)) hown (mvT hZ (hw _ (List.mem_of_getElem? (i := 12) rfl))) (mvT hZ (hw _ (List.mem_of_getElem? (i := 13) rfl))) (mvT hZ (hw _ (List.mem_of_getElem? (i := 14) rfl))) (mvT hZ (hw _ (List.mem_of_getElem? (i := 15) rfl))) (by decide) (backOf (W := 2) (rm3 l Z a0 hw [] (7 : Int32) (0 : Int32) h3 n0 (by decide)) hZ (hw _ (List.mem_of_getElem? (i := 15) rfl)) (hw _ (List.mem_of_getElem? (i := 14) rfl)) (by decide) (by decide)) (g := (mkF m 20 #[.val (.ref o0), .val (.int (7 : Int32)), .val (.ref b3), .val (.int (0 : Int32))] [(.int (0 : Int32)), (.int (7 : Int32)), (.int (0 : Int32)), (.ref b3)])) rfl (by rw [hml]; rfl) (argsL := [(.int (7 : Int32)), (.int (0 : Int32))]) (rest := [(.int (0 : Int32)), (.ref b3)]) (lenOf pd_2 rfl) rfl (by show 2 * 0 + _ ≤ _; exact Nat.le_of_eq rfl) (hb hby d1_20) (fun _ _ => ⟨rfl, e3, (by decide : 1 + 0 ≤ _), (by decide : 33 + 0 ≤ _)⟩)
  dsimp only [Pt.U, Pt.locs, Pt.cells, Pt.slots] at X5 l5 y5 z5 st5 hQ5
  subst l5 y5 z5
  obtain ⟨rfl, N5q, e5⟩ := hQ5
  have N5 := Fr.app N2 N5q
  obtain ⟨Lh5, X5, N5⟩ := hide X5 N5 (C := 1) (S := 33) (by decide) (by decide)
  refine Outs.of st5 ?_
  refine Outs.of (U' := T5.setTop (mkF m 25 #[.val (.ref o0), .val (.int (7 : Int32)), .val (.ref b3), .val (.int (0 : Int32))] [(.long ((F_f3 (7 : Int32) (0 : Int32)) + (1 : Int64))), (.int (0 : Int32)), (.ref b3)])) (fun t k => ?_) ?_
  · refine XS.lconst X5.here hx rfl (hb hby d1_23) ?_
    refine XS.ladd X5.here hx rfl (hb hby d1_24) rfl ?_
    exact k
  obtain ⟨T6, h6, X6, e6, W6, V6, st6⟩ := puJ X5 hx hZ e5 V3 (j := (0 : Int32)) (x := ((F_f3 (7 : Int32) (0 : Int32)) + (1 : Int64))) (k := 0) rfl (by decide) (f := (mkF m 25 #[.val (.ref o0), .val (.int (7 : Int32)), .val (.ref b3), .val (.int (0 : Int32))] [(.long ((F_f3 (7 : Int32) (0 : Int32)) + (1 : Int64))), (.int (0 : Int32)), (.ref b3)])) rfl rfl (hb hby d1_25)
  replace V6 : AJ Z h6 b3 .long 33 ct7_g25 := V6
  have N6 := Fr.snoc X6 N5 g_b3
  obtain ⟨Lh6, X6, N6⟩ := hide X6 N6 (C := 1) (S := 33) (by decide) (by decide)
  refine Outs.of st6 ?_
  refine Outs.of (U' := T6.setTop (mkF m 33 #[.val (.ref o0), .val (.int (7 : Int32)), .val (.ref b3), .val (.int (1 : Int32))] [(.int (0 : Int32)), (.ref b3)])) (fun t k => ?_) ?_
  · refine XS.iinc X6.here hx rfl (hb hby d1_26) rfl (l' := #[.val (.ref o0), .val (.int (7 : Int32)), .val (.ref b3), .val (.int (1 : Int32))]) rfl ?_
    refine XS.aloadN X6.here hx rfl (hb hby d1_29) rfl rfl ?_
    refine XS.iloadN X6.here hx rfl (hb hby d1_30) rfl ?_
    refine XS.iconst X6.here hx rfl (hb hby d1_31) ?_
    refine XS.isub X6.here hx rfl (hb hby d1_32) rfl ?_
    exact k
  refine Outs.of (ldJ X6 hx hZ e6 V6 (j := (0 : Int32)) (k := 0) rfl (by decide) (f := (mkF m 33 #[.val (.ref o0), .val (.int (7 : Int32)), .val (.ref b3), .val (.int (1 : Int32))] [(.int (0 : Int32)), (.ref b3)])) rfl rfl (hb hby d1_33)) ?_
  refine Outs.of (U' := T6.setTop (mkF m 20 #[.val (.ref o0), .val (.int (7 : Int32)), .val (.ref b3), .val (.int (1 : Int32))] [(.int (1 : Int32)), (.int (7 : Int32)), (.int (1 : Int32)), (.ref b3)])) (fun t k => ?_) ?_
  · refine X6.ldc2Long hx hown (mvT hZ (hw _ (List.mem_of_getElem? (i := 16) rfl))) (g := (mkF m 34 #[.val (.ref o0), .val (.int (7 : Int32)), .val (.ref b3), .val (.int (1 : Int32))] [(.long (ct7_g25 0))])) rfl (hb hby d1_34) _ ?_
    refine XS.lcmp X6.here hx rfl (hb hby d1_37) rfl ?_
    refine XS.ifYes X6.here hx rfl (pc0 := 38) (pc' := 16) rfl (hb hby d1_38) rfl ((if0 _ _).trans (flt (fun q_ => (show ¬ ((2147483647 : Int64) < (ct7_g25 0)) from (by decide +kernel)) ((lw_gt _ _).mp q_))).2.2.2) (by decide) (by decide) ?_
    refine XS.aloadN X6.here hx rfl (hb hby d1_16) rfl rfl ?_
    refine XS.iloadN X6.here hx rfl (hb hby d1_17) rfl ?_
    refine XS.iloadN X6.here hx rfl (hb hby d1_18) rfl ?_
    refine XS.iloadN X6.here hx rfl (hb hby d1_19) rfl ?_
    exact k
  obtain ⟨_, _, ⟨T7, L7, k7, n7⟩, -, X7, ⟨Lc7, hQ7, l7, y7, z7⟩, st7⟩ := Jvm.LawKit.callS X6 hx (y := (⟨"com/example/bitmend/bitmend/CodeParameters", "columns", "(II)J"⟩ : MethodName)) hown (mvT hZ (hw _ (List.mem_of_getElem? (i := 12) rfl))) (mvT hZ (hw _ (List.mem_of_getElem? (i := 13) rfl))) (mvT hZ (hw _ (List.mem_of_getElem? (i := 14) rfl))) (mvT hZ (hw _ (List.mem_of_getElem? (i := 15) rfl))) (by decide) (backOf (W := 2) (rm3 l Z a0 hw [] (7 : Int32) (1 : Int32) h6 n0 (by decide)) hZ (hw _ (List.mem_of_getElem? (i := 15) rfl)) (hw _ (List.mem_of_getElem? (i := 14) rfl)) (by decide) (by decide)) (g := (mkF m 20 #[.val (.ref o0), .val (.int (7 : Int32)), .val (.ref b3), .val (.int (1 : Int32))] [(.int (1 : Int32)), (.int (7 : Int32)), (.int (1 : Int32)), (.ref b3)])) rfl (by rw [hml]; rfl) (argsL := [(.int (7 : Int32)), (.int (1 : Int32))]) (rest := [(.int (1 : Int32)), (.ref b3)]) (lenOf pd_2 rfl) rfl (by show 2 * 0 + _ ≤ _; exact Nat.le_of_eq rfl) (hb hby d1_20) (fun _ _ => ⟨rfl, e6, (by decide : 1 + 0 ≤ _), (by decide : 33 + 0 ≤ _)⟩)
  dsimp only [Pt.U, Pt.locs, Pt.cells, Pt.slots] at X7 l7 y7 z7 st7 hQ7
  subst l7 y7 z7
  obtain ⟨rfl, N7q, e7⟩ := hQ7
  have N7 := Fr.app N6 N7q
  obtain ⟨Lh7, X7, N7⟩ := hide X7 N7 (C := 1) (S := 33) (by decide) (by decide)
  refine Outs.of st7 ?_
  refine Outs.of (U' := T7.setTop (mkF m 25 #[.val (.ref o0), .val (.int (7 : Int32)), .val (.ref b3), .val (.int (1 : Int32))] [(.long ((F_f3 (7 : Int32) (1 : Int32)) + (1 : Int64))), (.int (1 : Int32)), (.ref b3)])) (fun t k => ?_) ?_
  · refine XS.lconst X7.here hx rfl (hb hby d1_23) ?_
    refine XS.ladd X7.here hx rfl (hb hby d1_24) rfl ?_
    exact k
  obtain ⟨T8, h8, X8, e8, W8, V8, st8⟩ := puJ X7 hx hZ e7 V6 (j := (1 : Int32)) (x := ((F_f3 (7 : Int32) (1 : Int32)) + (1 : Int64))) (k := 1) rfl (by decide) (f := (mkF m 25 #[.val (.ref o0), .val (.int (7 : Int32)), .val (.ref b3), .val (.int (1 : Int32))] [(.long ((F_f3 (7 : Int32) (1 : Int32)) + (1 : Int64))), (.int (1 : Int32)), (.ref b3)])) rfl rfl (hb hby d1_25)
  replace V8 : AJ Z h8 b3 .long 33 ct7_g25a := V8
  have N8 := Fr.snoc X8 N7 g_b3
  obtain ⟨Lh8, X8, N8⟩ := hide X8 N8 (C := 1) (S := 33) (by decide) (by decide)
  refine Outs.of st8 ?_
  refine Outs.of (U' := T8.setTop (mkF m 33 #[.val (.ref o0), .val (.int (7 : Int32)), .val (.ref b3), .val (.int (2 : Int32))] [(.int (1 : Int32)), (.ref b3)])) (fun t k => ?_) ?_
  · refine XS.iinc X8.here hx rfl (hb hby d1_26) rfl (l' := #[.val (.ref o0), .val (.int (7 : Int32)), .val (.ref b3), .val (.int (2 : Int32))]) rfl ?_
    refine XS.aloadN X8.here hx rfl (hb hby d1_29) rfl rfl ?_
    refine XS.iloadN X8.here hx rfl (hb hby d1_30) rfl ?_
    refine XS.iconst X8.here hx rfl (hb hby d1_31) ?_
    refine XS.isub X8.here hx rfl (hb hby d1_32) rfl ?_
    exact k
  refine Outs.of (ldJ X8 hx hZ e8 V8 (j := (1 : Int32)) (k := 1) rfl (by decide) (f := (mkF m 33 #[.val (.ref o0), .val (.int (7 : Int32)), .val (.ref b3), .val (.int (2 : Int32))] [(.int (1 : Int32)), (.ref b3)])) rfl rfl (hb hby d1_33)) ?_
  refine Outs.of (U' := T8.setTop (mkF m 20 #[.val (.ref o0), .val (.int (7 : Int32)), .val (.ref b3), .val (.int (2 : Int32))] [(.int (2 : Int32)), (.int (7 : Int32)), (.int (2 : Int32)), (.ref b3)])) (fun t k => ?_) ?_
  · refine X8.ldc2Long hx hown (mvT hZ (hw _ (List.mem_of_getElem? (i := 16) rfl))) (g := (mkF m 34 #[.val (.ref o0), .val (.int (7 : Int32)), .val (.ref b3), .val (.int (2 : Int32))] [(.long (ct7_g25a 1))])) rfl (hb hby d1_34) _ ?_
    refine XS.lcmp X8.here hx rfl (hb hby d1_37) rfl ?_
    refine XS.ifYes X8.here hx rfl (pc0 := 38) (pc' := 16) rfl (hb hby d1_38) rfl ((if0 _ _).trans (flt (fun q_ => (show ¬ ((2147483647 : Int64) < (ct7_g25a 1)) from (by decide +kernel)) ((lw_gt _ _).mp q_))).2.2.2) (by decide) (by decide) ?_
    refine XS.aloadN X8.here hx rfl (hb hby d1_16) rfl rfl ?_
    refine XS.iloadN X8.here hx rfl (hb hby d1_17) rfl ?_
    refine XS.iloadN X8.here hx rfl (hb hby d1_18) rfl ?_
    refine XS.iloadN X8.here hx rfl (hb hby d1_19) rfl ?_
    exact k
  obtain ⟨_, _, ⟨T9, L9, k9, n9⟩, -, X9, ⟨Lc9, hQ9, l9, y9, z9⟩, st9⟩ := Jvm.LawKit.callS X8 hx (y := (⟨"com/example/bitmend/bitmend/CodeParameters", "columns", "(II)J"⟩ : MethodName)) hown (mvT hZ (hw _ (List.mem_of_getElem? (i := 12) rfl))) (mvT hZ (hw _ (List.mem_of_getElem? (i := 13) rfl))) (mvT hZ (hw _ (List.mem_of_getElem? (i := 14) rfl))) (mvT hZ (hw _ (List.mem_of_getElem? (i := 15) rfl))) (by decide) (backOf (W := 2) (rm3 l Z a0 hw [] (7 : Int32) (2 : Int32) h8 n0 (by decide)) hZ (hw _ (List.mem_of_getElem? (i := 15) rfl)) (hw _ (List.mem_of_getElem? (i := 14) rfl)) (by decide) (by decide)) (g := (mkF m 20 #[.val (.ref o0), .val (.int (7 : Int32)), .val (.ref b3), .val (.int (2 : Int32))] [(.int (2 : Int32)), (.int (7 : Int32)), (.int (2 : Int32)), (.ref b3)])) rfl (by rw [hml]; rfl) (argsL := [(.int (7 : Int32)), (.int (2 : Int32))]) (rest := [(.int (2 : Int32)), (.ref b3)]) (lenOf pd_2 rfl) rfl (by show 2 * 0 + _ ≤ _; exact Nat.le_of_eq rfl) (hb hby d1_20) (fun _ _ => ⟨rfl, e8, (by decide : 1 + 0 ≤ _), (by decide : 33 + 0 ≤ _)⟩)
  dsimp only [Pt.U, Pt.locs, Pt.cells, Pt.slots] at X9 l9 y9 z9 st9 hQ9
  subst l9 y9 z9
  obtain ⟨rfl, N9q, e9⟩ := hQ9
  have N9 := Fr.app N8 N9q
  obtain ⟨Lh9, X9, N9⟩ := hide X9 N9 (C := 1) (S := 33) (by decide) (by decide)
  refine Outs.of st9 ?_
  refine Outs.of (U' := T9.setTop (mkF m 25 #[.val (.ref o0), .val (.int (7 : Int32)), .val (.ref b3), .val (.int (2 : Int32))] [(.long ((F_f3 (7 : Int32) (2 : Int32)) + (1 : Int64))), (.int (2 : Int32)), (.ref b3)])) (fun t k => ?_) ?_
  · refine XS.lconst X9.here hx rfl (hb hby d1_23) ?_
    refine XS.ladd X9.here hx rfl (hb hby d1_24) rfl ?_
    exact k
  obtain ⟨T10, h10, X10, e10, W10, V10, st10⟩ := puJ X9 hx hZ e9 V8 (j := (2 : Int32)) (x := ((F_f3 (7 : Int32) (2 : Int32)) + (1 : Int64))) (k := 2) rfl (by decide) (f := (mkF m 25 #[.val (.ref o0), .val (.int (7 : Int32)), .val (.ref b3), .val (.int (2 : Int32))] [(.long ((F_f3 (7 : Int32) (2 : Int32)) + (1 : Int64))), (.int (2 : Int32)), (.ref b3)])) rfl rfl (hb hby d1_25)
  replace V10 : AJ Z h10 b3 .long 33 ct7_g25b := V10
  have N10 := Fr.snoc X10 N9 g_b3
  obtain ⟨Lh10, X10, N10⟩ := hide X10 N10 (C := 1) (S := 33) (by decide) (by decide)
  refine Outs.of st10 ?_
  refine Outs.of (U' := T10.setTop (mkF m 33 #[.val (.ref o0), .val (.int (7 : Int32)), .val (.ref b3), .val (.int (3 : Int32))] [(.int (2 : Int32)), (.ref b3)])) (fun t k => ?_) ?_
  · refine XS.iinc X10.here hx rfl (hb hby d1_26) rfl (l' := #[.val (.ref o0), .val (.int (7 : Int32)), .val (.ref b3), .val (.int (3 : Int32))]) rfl ?_
    refine XS.aloadN X10.here hx rfl (hb hby d1_29) rfl rfl ?_
    refine XS.iloadN X10.here hx rfl (hb hby d1_30) rfl ?_
    refine XS.iconst X10.here hx rfl (hb hby d1_31) ?_
    refine XS.isub X10.here hx rfl (hb hby d1_32) rfl ?_
    exact k
  refine Outs.of (ldJ X10 hx hZ e10 V10 (j := (2 : Int32)) (k := 2) rfl (by decide) (f := (mkF m 33 #[.val (.ref o0), .val (.int (7 : Int32)), .val (.ref b3), .val (.int (3 : Int32))] [(.int (2 : Int32)), (.ref b3)])) rfl rfl (hb hby d1_33)) ?_
  refine Outs.of (U' := T10.setTop (mkF m 20 #[.val (.ref o0), .val (.int (7 : Int32)), .val (.ref b3), .val (.int (3 : Int32))] [(.int (3 : Int32)), (.int (7 : Int32)), (.int (3 : Int32)), (.ref b3)])) (fun t k => ?_) ?_
  · refine X10.ldc2Long hx hown (mvT hZ (hw _ (List.mem_of_getElem? (i := 16) rfl))) (g := (mkF m 34 #[.val (.ref o0), .val (.int (7 : Int32)), .val (.ref b3), .val (.int (3 : Int32))] [(.long (ct7_g25b 2))])) rfl (hb hby d1_34) _ ?_
    refine XS.lcmp X10.here hx rfl (hb hby d1_37) rfl ?_
    refine XS.ifYes X10.here hx rfl (pc0 := 38) (pc' := 16) rfl (hb hby d1_38) rfl ((if0 _ _).trans (flt (fun q_ => (show ¬ ((2147483647 : Int64) < (ct7_g25b 2)) from (by decide +kernel)) ((lw_gt _ _).mp q_))).2.2.2) (by decide) (by decide) ?_
    refine XS.aloadN X10.here hx rfl (hb hby d1_16) rfl rfl ?_
    refine XS.iloadN X10.here hx rfl (hb hby d1_17) rfl ?_
    refine XS.iloadN X10.here hx rfl (hb hby d1_18) rfl ?_
    refine XS.iloadN X10.here hx rfl (hb hby d1_19) rfl ?_
    exact k
  obtain ⟨_, _, ⟨T11, L11, k11, n11⟩, -, X11, ⟨Lc11, hQ11, l11, y11, z11⟩, st11⟩ := Jvm.LawKit.callS X10 hx (y := (⟨"com/example/bitmend/bitmend/CodeParameters", "columns", "(II)J"⟩ : MethodName)) hown (mvT hZ (hw _ (List.mem_of_getElem? (i := 12) rfl))) (mvT hZ (hw _ (List.mem_of_getElem? (i := 13) rfl))) (mvT hZ (hw _ (List.mem_of_getElem? (i := 14) rfl))) (mvT hZ (hw _ (List.mem_of_getElem? (i := 15) rfl))) (by decide) (backOf (W := 2) (rm3 l Z a0 hw [] (7 : Int32) (3 : Int32) h10 n0 (by decide)) hZ (hw _ (List.mem_of_getElem? (i := 15) rfl)) (hw _ (List.mem_of_getElem? (i := 14) rfl)) (by decide) (by decide)) (g := (mkF m 20 #[.val (.ref o0), .val (.int (7 : Int32)), .val (.ref b3), .val (.int (3 : Int32))] [(.int (3 : Int32)), (.int (7 : Int32)), (.int (3 : Int32)), (.ref b3)])) rfl (by rw [hml]; rfl) (argsL := [(.int (7 : Int32)), (.int (3 : Int32))]) (rest := [(.int (3 : Int32)), (.ref b3)]) (lenOf pd_2 rfl) rfl (by show 2 * 0 + _ ≤ _; exact Nat.le_of_eq rfl) (hb hby d1_20) (fun _ _ => ⟨rfl, e10, (by decide : 1 + 0 ≤ _), (by decide : 33 + 0 ≤ _)⟩)
  dsimp only [Pt.U, Pt.locs, Pt.cells, Pt.slots] at X11 l11 y11 z11 st11 hQ11
  subst l11 y11 z11
  obtain ⟨rfl, N11q, e11⟩ := hQ11
  have N11 := Fr.app N10 N11q
  obtain ⟨Lh11, X11, N11⟩ := hide X11 N11 (C := 1) (S := 33) (by decide) (by decide)
  refine Outs.of st11 ?_
  refine Outs.of (U' := T11.setTop (mkF m 25 #[.val (.ref o0), .val (.int (7 : Int32)), .val (.ref b3), .val (.int (3 : Int32))] [(.long ((F_f3 (7 : Int32) (3 : Int32)) + (1 : Int64))), (.int (3 : Int32)), (.ref b3)])) (fun t k => ?_) ?_
  · refine XS.lconst X11.here hx rfl (hb hby d1_23) ?_
    refine XS.ladd X11.here hx rfl (hb hby d1_24) rfl ?_
    exact k
  obtain ⟨T12, h12, X12, e12, W12, V12, st12⟩ := puJ X11 hx hZ e11 V10 (j := (3 : Int32)) (x := ((F_f3 (7 : Int32) (3 : Int32)) + (1 : Int64))) (k := 3) rfl (by decide) (f := (mkF m 25 #[.val (.ref o0), .val (.int (7 : Int32)), .val (.ref b3), .val (.int (3 : Int32))] [(.long ((F_f3 (7 : Int32) (3 : Int32)) + (1 : Int64))), (.int (3 : Int32)), (.ref b3)])) rfl rfl (hb hby d1_25)
  replace V12 : AJ Z h12 b3 .long 33 ct7_g25c := V12
  have N12 := Fr.snoc X12 N11 g_b3
  obtain ⟨Lh12, X12, N12⟩ := hide X12 N12 (C := 1) (S := 33) (by decide) (by decide)
  refine Outs.of st12 ?_
  refine Outs.of (U' := T12.setTop (mkF m 33 #[.val (.ref o0), .val (.int (7 : Int32)), .val (.ref b3), .val (.int (4 : Int32))] [(.int (3 : Int32)), (.ref b3)])) (fun t k => ?_) ?_
  · refine XS.iinc X12.here hx rfl (hb hby d1_26) rfl (l' := #[.val (.ref o0), .val (.int (7 : Int32)), .val (.ref b3), .val (.int (4 : Int32))]) rfl ?_
    refine XS.aloadN X12.here hx rfl (hb hby d1_29) rfl rfl ?_
    refine XS.iloadN X12.here hx rfl (hb hby d1_30) rfl ?_
    refine XS.iconst X12.here hx rfl (hb hby d1_31) ?_
    refine XS.isub X12.here hx rfl (hb hby d1_32) rfl ?_
    exact k
  refine Outs.of (ldJ X12 hx hZ e12 V12 (j := (3 : Int32)) (k := 3) rfl (by decide) (f := (mkF m 33 #[.val (.ref o0), .val (.int (7 : Int32)), .val (.ref b3), .val (.int (4 : Int32))] [(.int (3 : Int32)), (.ref b3)])) rfl rfl (hb hby d1_33)) ?_
  refine Outs.of (U' := T12.setTop (mkF m 20 #[.val (.ref o0), .val (.int (7 : Int32)), .val (.ref b3), .val (.int (4 : Int32))] [(.int (4 : Int32)), (.int (7 : Int32)), (.int (4 : Int32)), (.ref b3)])) (fun t k => ?_) ?_
  · refine X12.ldc2Long hx hown (mvT hZ (hw _ (List.mem_of_getElem? (i := 16) rfl))) (g := (mkF m 34 #[.val (.ref o0), .val (.int (7 : Int32)), .val (.ref b3), .val (.int (4 : Int32))] [(.long (ct7_g25c 3))])) rfl (hb hby d1_34) _ ?_
    refine XS.lcmp X12.here hx rfl (hb hby d1_37) rfl ?_
    refine XS.ifYes X12.here hx rfl (pc0 := 38) (pc' := 16) rfl (hb hby d1_38) rfl ((if0 _ _).trans (flt (fun q_ => (show ¬ ((2147483647 : Int64) < (ct7_g25c 3)) from (by decide +kernel)) ((lw_gt _ _).mp q_))).2.2.2) (by decide) (by decide) ?_
    refine XS.aloadN X12.here hx rfl (hb hby d1_16) rfl rfl ?_
    refine XS.iloadN X12.here hx rfl (hb hby d1_17) rfl ?_
    refine XS.iloadN X12.here hx rfl (hb hby d1_18) rfl ?_
    refine XS.iloadN X12.here hx rfl (hb hby d1_19) rfl ?_
    exact k
  obtain ⟨_, _, ⟨T13, L13, k13, n13⟩, -, X13, ⟨Lc13, hQ13, l13, y13, z13⟩, st13⟩ := Jvm.LawKit.callS X12 hx (y := (⟨"com/example/bitmend/bitmend/CodeParameters", "columns", "(II)J"⟩ : MethodName)) hown (mvT hZ (hw _ (List.mem_of_getElem? (i := 12) rfl))) (mvT hZ (hw _ (List.mem_of_getElem? (i := 13) rfl))) (mvT hZ (hw _ (List.mem_of_getElem? (i := 14) rfl))) (mvT hZ (hw _ (List.mem_of_getElem? (i := 15) rfl))) (by decide) (backOf (W := 2) (rm3 l Z a0 hw [] (7 : Int32) (4 : Int32) h12 n0 (by decide)) hZ (hw _ (List.mem_of_getElem? (i := 15) rfl)) (hw _ (List.mem_of_getElem? (i := 14) rfl)) (by decide) (by decide)) (g := (mkF m 20 #[.val (.ref o0), .val (.int (7 : Int32)), .val (.ref b3), .val (.int (4 : Int32))] [(.int (4 : Int32)), (.int (7 : Int32)), (.int (4 : Int32)), (.ref b3)])) rfl (by rw [hml]; rfl) (argsL := [(.int (7 : Int32)), (.int (4 : Int32))]) (rest := [(.int (4 : Int32)), (.ref b3)]) (lenOf pd_2 rfl) rfl (by show 2 * 0 + _ ≤ _; exact Nat.le_of_eq rfl) (hb hby d1_20) (fun _ _ => ⟨rfl, e12, (by decide : 1 + 0 ≤ _), (by decide : 33 + 0 ≤ _)⟩)
  dsimp only [Pt.U, Pt.locs, Pt.cells, Pt.slots] at X13 l13 y13 z13 st13 hQ13
  subst l13 y13 z13
  obtain ⟨rfl, N13q, e13⟩ := hQ13
  have N13 := Fr.app N12 N13q
  obtain ⟨Lh13, X13, N13⟩ := hide X13 N13 (C := 1) (S := 33) (by decide) (by decide)
  refine Outs.of st13 ?_
  refine Outs.of (U' := T13.setTop (mkF m 25 #[.val (.ref o0), .val (.int (7 : Int32)), .val (.ref b3), .val (.int (4 : Int32))] [(.long ((F_f3 (7 : Int32) (4 : Int32)) + (1 : Int64))), (.int (4 : Int32)), (.ref b3)])) (fun t k => ?_) ?_
  · refine XS.lconst X13.here hx rfl (hb hby d1_23) ?_
    refine XS.ladd X13.here hx rfl (hb hby d1_24) rfl ?_
    exact k
  obtain ⟨T14, h14, X14, e14, W14, V14, st14⟩ := puJ X13 hx hZ e13 V12 (j := (4 : Int32)) (x := ((F_f3 (7 : Int32) (4 : Int32)) + (1 : Int64))) (k := 4) rfl (by decide) (f := (mkF m 25 #[.val (.ref o0), .val (.int (7 : Int32)), .val (.ref b3), .val (.int (4 : Int32))] [(.long ((F_f3 (7 : Int32) (4 : Int32)) + (1 : Int64))), (.int (4 : Int32)), (.ref b3)])) rfl rfl (hb hby d1_25)
  replace V14 : AJ Z h14 b3 .long 33 ct7_g25d := V14
  have N14 := Fr.snoc X14 N13 g_b3
  obtain ⟨Lh14, X14, N14⟩ := hide X14 N14 (C := 1) (S := 33) (by decide) (by decide)
  refine Outs.of st14 ?_
  refine Outs.of (U' := T14.setTop (mkF m 33 #[.val (.ref o0), .val (.int (7 : Int32)), .val (.ref b3), .val (.int (5 : Int32))] [(.int (4 : Int32)), (.ref b3)])) (fun t k => ?_) ?_
  · refine XS.iinc X14.here hx rfl (hb hby d1_26) rfl (l' := #[.val (.ref o0), .val (.int (7 : Int32)), .val (.ref b3), .val (.int (5 : Int32))]) rfl ?_
    refine XS.aloadN X14.here hx rfl (hb hby d1_29) rfl rfl ?_
    refine XS.iloadN X14.here hx rfl (hb hby d1_30) rfl ?_
    refine XS.iconst X14.here hx rfl (hb hby d1_31) ?_
    refine XS.isub X14.here hx rfl (hb hby d1_32) rfl ?_
    exact k
  refine Outs.of (ldJ X14 hx hZ e14 V14 (j := (4 : Int32)) (k := 4) rfl (by decide) (f := (mkF m 33 #[.val (.ref o0), .val (.int (7 : Int32)), .val (.ref b3), .val (.int (5 : Int32))] [(.int (4 : Int32)), (.ref b3)])) rfl rfl (hb hby d1_33)) ?_
  refine Outs.of (U' := T14.setTop (mkF m 20 #[.val (.ref o0), .val (.int (7 : Int32)), .val (.ref b3), .val (.int (5 : Int32))] [(.int (5 : Int32)), (.int (7 : Int32)), (.int (5 : Int32)), (.ref b3)])) (fun t k => ?_) ?_
  · refine X14.ldc2Long hx hown (mvT hZ (hw _ (List.mem_of_getElem? (i := 16) rfl))) (g := (mkF m 34 #[.val (.ref o0), .val (.int (7 : Int32)), .val (.ref b3), .val (.int (5 : Int32))] [(.long (ct7_g25d 4))])) rfl (hb hby d1_34) _ ?_
    refine XS.lcmp X14.here hx rfl (hb hby d1_37) rfl ?_
    refine XS.ifYes X14.here hx rfl (pc0 := 38) (pc' := 16) rfl (hb hby d1_38) rfl ((if0 _ _).trans (flt (fun q_ => (show ¬ ((2147483647 : Int64) < (ct7_g25d 4)) from (by decide +kernel)) ((lw_gt _ _).mp q_))).2.2.2) (by decide) (by decide) ?_
    refine XS.aloadN X14.here hx rfl (hb hby d1_16) rfl rfl ?_
    refine XS.iloadN X14.here hx rfl (hb hby d1_17) rfl ?_
    refine XS.iloadN X14.here hx rfl (hb hby d1_18) rfl ?_
    refine XS.iloadN X14.here hx rfl (hb hby d1_19) rfl ?_
    exact k
  obtain ⟨_, _, ⟨T15, L15, k15, n15⟩, -, X15, ⟨Lc15, hQ15, l15, y15, z15⟩, st15⟩ := Jvm.LawKit.callS X14 hx (y := (⟨"com/example/bitmend/bitmend/CodeParameters", "columns", "(II)J"⟩ : MethodName)) hown (mvT hZ (hw _ (List.mem_of_getElem? (i := 12) rfl))) (mvT hZ (hw _ (List.mem_of_getElem? (i := 13) rfl))) (mvT hZ (hw _ (List.mem_of_getElem? (i := 14) rfl))) (mvT hZ (hw _ (List.mem_of_getElem? (i := 15) rfl))) (by decide) (backOf (W := 2) (rm3 l Z a0 hw [] (7 : Int32) (5 : Int32) h14 n0 (by decide)) hZ (hw _ (List.mem_of_getElem? (i := 15) rfl)) (hw _ (List.mem_of_getElem? (i := 14) rfl)) (by decide) (by decide)) (g := (mkF m 20 #[.val (.ref o0), .val (.int (7 : Int32)), .val (.ref b3), .val (.int (5 : Int32))] [(.int (5 : Int32)), (.int (7 : Int32)), (.int (5 : Int32)), (.ref b3)])) rfl (by rw [hml]; rfl) (argsL := [(.int (7 : Int32)), (.int (5 : Int32))]) (rest := [(.int (5 : Int32)), (.ref b3)]) (lenOf pd_2 rfl) rfl (by show 2 * 0 + _ ≤ _; exact Nat.le_of_eq rfl) (hb hby d1_20) (fun _ _ => ⟨rfl, e14, (by decide : 1 + 0 ≤ _), (by decide : 33 + 0 ≤ _)⟩)
  dsimp only [Pt.U, Pt.locs, Pt.cells, Pt.slots] at X15 l15 y15 z15 st15 hQ15
  subst l15 y15 z15
  obtain ⟨rfl, N15q, e15⟩ := hQ15
  have N15 := Fr.app N14 N15q
  obtain ⟨Lh15, X15, N15⟩ := hide X15 N15 (C := 1) (S := 33) (by decide) (by decide)
  refine Outs.of st15 ?_
  refine Outs.of (U' := T15.setTop (mkF m 25 #[.val (.ref o0), .val (.int (7 : Int32)), .val (.ref b3), .val (.int (5 : Int32))] [(.long ((F_f3 (7 : Int32) (5 : Int32)) + (1 : Int64))), (.int (5 : Int32)), (.ref b3)])) (fun t k => ?_) ?_
  · refine XS.lconst X15.here hx rfl (hb hby d1_23) ?_
    refine XS.ladd X15.here hx rfl (hb hby d1_24) rfl ?_
    exact k
  obtain ⟨T16, h16, X16, e16, W16, V16, st16⟩ := puJ X15 hx hZ e15 V14 (j := (5 : Int32)) (x := ((F_f3 (7 : Int32) (5 : Int32)) + (1 : Int64))) (k := 5) rfl (by decide) (f := (mkF m 25 #[.val (.ref o0), .val (.int (7 : Int32)), .val (.ref b3), .val (.int (5 : Int32))] [(.long ((F_f3 (7 : Int32) (5 : Int32)) + (1 : Int64))), (.int (5 : Int32)), (.ref b3)])) rfl rfl (hb hby d1_25)
  replace V16 : AJ Z h16 b3 .long 33 ct7_g25e := V16
  have N16 := Fr.snoc X16 N15 g_b3
  obtain ⟨Lh16, X16, N16⟩ := hide X16 N16 (C := 1) (S := 33) (by decide) (by decide)
  refine Outs.of st16 ?_
  refine Outs.of (U' := T16.setTop (mkF m 33 #[.val (.ref o0), .val (.int (7 : Int32)), .val (.ref b3), .val (.int (6 : Int32))] [(.int (5 : Int32)), (.ref b3)])) (fun t k => ?_) ?_
  · refine XS.iinc X16.here hx rfl (hb hby d1_26) rfl (l' := #[.val (.ref o0), .val (.int (7 : Int32)), .val (.ref b3), .val (.int (6 : Int32))]) rfl ?_
    refine XS.aloadN X16.here hx rfl (hb hby d1_29) rfl rfl ?_
    refine XS.iloadN X16.here hx rfl (hb hby d1_30) rfl ?_
    refine XS.iconst X16.here hx rfl (hb hby d1_31) ?_
    refine XS.isub X16.here hx rfl (hb hby d1_32) rfl ?_
    exact k
  refine Outs.of (ldJ X16 hx hZ e16 V16 (j := (5 : Int32)) (k := 5) rfl (by decide) (f := (mkF m 33 #[.val (.ref o0), .val (.int (7 : Int32)), .val (.ref b3), .val (.int (6 : Int32))] [(.int (5 : Int32)), (.ref b3)])) rfl rfl (hb hby d1_33)) ?_
  refine Outs.of (U' := T16.setTop (mkF m 20 #[.val (.ref o0), .val (.int (7 : Int32)), .val (.ref b3), .val (.int (6 : Int32))] [(.int (6 : Int32)), (.int (7 : Int32)), (.int (6 : Int32)), (.ref b3)])) (fun t k => ?_) ?_
  · refine X16.ldc2Long hx hown (mvT hZ (hw _ (List.mem_of_getElem? (i := 16) rfl))) (g := (mkF m 34 #[.val (.ref o0), .val (.int (7 : Int32)), .val (.ref b3), .val (.int (6 : Int32))] [(.long (ct7_g25e 5))])) rfl (hb hby d1_34) _ ?_
    refine XS.lcmp X16.here hx rfl (hb hby d1_37) rfl ?_
    refine XS.ifYes X16.here hx rfl (pc0 := 38) (pc' := 16) rfl (hb hby d1_38) rfl ((if0 _ _).trans (flt (fun q_ => (show ¬ ((2147483647 : Int64) < (ct7_g25e 5)) from (by decide +kernel)) ((lw_gt _ _).mp q_))).2.2.2) (by decide) (by decide) ?_
    refine XS.aloadN X16.here hx rfl (hb hby d1_16) rfl rfl ?_
    refine XS.iloadN X16.here hx rfl (hb hby d1_17) rfl ?_
    refine XS.iloadN X16.here hx rfl (hb hby d1_18) rfl ?_
    refine XS.iloadN X16.here hx rfl (hb hby d1_19) rfl ?_
    exact k
  obtain ⟨_, _, ⟨T17, L17, k17, n17⟩, -, X17, ⟨Lc17, hQ17, l17, y17, z17⟩, st17⟩ := Jvm.LawKit.callS X16 hx (y := (⟨"com/example/bitmend/bitmend/CodeParameters", "columns", "(II)J"⟩ : MethodName)) hown (mvT hZ (hw _ (List.mem_of_getElem? (i := 12) rfl))) (mvT hZ (hw _ (List.mem_of_getElem? (i := 13) rfl))) (mvT hZ (hw _ (List.mem_of_getElem? (i := 14) rfl))) (mvT hZ (hw _ (List.mem_of_getElem? (i := 15) rfl))) (by decide) (backOf (W := 2) (rm3 l Z a0 hw [] (7 : Int32) (6 : Int32) h16 n0 (by decide)) hZ (hw _ (List.mem_of_getElem? (i := 15) rfl)) (hw _ (List.mem_of_getElem? (i := 14) rfl)) (by decide) (by decide)) (g := (mkF m 20 #[.val (.ref o0), .val (.int (7 : Int32)), .val (.ref b3), .val (.int (6 : Int32))] [(.int (6 : Int32)), (.int (7 : Int32)), (.int (6 : Int32)), (.ref b3)])) rfl (by rw [hml]; rfl) (argsL := [(.int (7 : Int32)), (.int (6 : Int32))]) (rest := [(.int (6 : Int32)), (.ref b3)]) (lenOf pd_2 rfl) rfl (by show 2 * 0 + _ ≤ _; exact Nat.le_of_eq rfl) (hb hby d1_20) (fun _ _ => ⟨rfl, e16, (by decide : 1 + 0 ≤ _), (by decide : 33 + 0 ≤ _)⟩)
  dsimp only [Pt.U, Pt.locs, Pt.cells, Pt.slots] at X17 l17 y17 z17 st17 hQ17
  subst l17 y17 z17
  obtain ⟨rfl, N17q, e17⟩ := hQ17
  have N17 := Fr.app N16 N17q
  obtain ⟨Lh17, X17, N17⟩ := hide X17 N17 (C := 1) (S := 33) (by decide) (by decide)
  refine Outs.of st17 ?_
  refine Outs.of (U' := T17.setTop (mkF m 25 #[.val (.ref o0), .val (.int (7 : Int32)), .val (.ref b3), .val (.int (6 : Int32))] [(.long ((F_f3 (7 : Int32) (6 : Int32)) + (1 : Int64))), (.int (6 : Int32)), (.ref b3)])) (fun t k => ?_) ?_
  · refine XS.lconst X17.here hx rfl (hb hby d1_23) ?_
    refine XS.ladd X17.here hx rfl (hb hby d1_24) rfl ?_
    exact k
  obtain ⟨T18, h18, X18, e18, W18, V18, st18⟩ := puJ X17 hx hZ e17 V16 (j := (6 : Int32)) (x := ((F_f3 (7 : Int32) (6 : Int32)) + (1 : Int64))) (k := 6) rfl (by decide) (f := (mkF m 25 #[.val (.ref o0), .val (.int (7 : Int32)), .val (.ref b3), .val (.int (6 : Int32))] [(.long ((F_f3 (7 : Int32) (6 : Int32)) + (1 : Int64))), (.int (6 : Int32)), (.ref b3)])) rfl rfl (hb hby d1_25)
  replace V18 : AJ Z h18 b3 .long 33 ct7_g25f := V18
  have N18 := Fr.snoc X18 N17 g_b3
  obtain ⟨Lh18, X18, N18⟩ := hide X18 N18 (C := 1) (S := 33) (by decide) (by decide)
  refine Outs.of st18 ?_
  refine Outs.of (U' := T18.setTop (mkF m 33 #[.val (.ref o0), .val (.int (7 : Int32)), .val (.ref b3), .val (.int (7 : Int32))] [(.int (6 : Int32)), (.ref b3)])) (fun t k => ?_) ?_
  · refine XS.iinc X18.here hx rfl (hb hby d1_26) rfl (l' := #[.val (.ref o0), .val (.int (7 : Int32)), .val (.ref b3), .val (.int (7 : Int32))]) rfl ?_
    refine XS.aloadN X18.here hx rfl (hb hby d1_29) rfl rfl ?_
    refine XS.iloadN X18.here hx rfl (hb hby d1_30) rfl ?_
    refine XS.iconst X18.here hx rfl (hb hby d1_31) ?_
    refine XS.isub X18.here hx rfl (hb hby d1_32) rfl ?_
    exact k
  refine Outs.of (ldJ X18 hx hZ e18 V18 (j := (6 : Int32)) (k := 6) rfl (by decide) (f := (mkF m 33 #[.val (.ref o0), .val (.int (7 : Int32)), .val (.ref b3), .val (.int (7 : Int32))] [(.int (6 : Int32)), (.ref b3)])) rfl rfl (hb hby d1_33)) ?_
  refine Outs.of (U' := T18.setTop (mkF m 20 #[.val (.ref o0), .val (.int (7 : Int32)), .val (.ref b3), .val (.int (7 : Int32))] [(.int (7 : Int32)), (.int (7 : Int32)), (.int (7 : Int32)), (.ref b3)])) (fun t k => ?_) ?_
  · refine X18.ldc2Long hx hown (mvT hZ (hw _ (List.mem_of_getElem? (i := 16) rfl))) (g := (mkF m 34 #[.val (.ref o0), .val (.int (7 : Int32)), .val (.ref b3), .val (.int (7 : Int32))] [(.long (ct7_g25f 6))])) rfl (hb hby d1_34) _ ?_
    refine XS.lcmp X18.here hx rfl (hb hby d1_37) rfl ?_
    refine XS.ifYes X18.here hx rfl (pc0 := 38) (pc' := 16) rfl (hb hby d1_38) rfl ((if0 _ _).trans (flt (fun q_ => (show ¬ ((2147483647 : Int64) < (ct7_g25f 6)) from (by decide +kernel)) ((lw_gt _ _).mp q_))).2.2.2) (by decide) (by decide) ?_
    refine XS.aloadN X18.here hx rfl (hb hby d1_16) rfl rfl ?_
    refine XS.iloadN X18.here hx rfl (hb hby d1_17) rfl ?_
    refine XS.iloadN X18.here hx rfl (hb hby d1_18) rfl ?_
    refine XS.iloadN X18.here hx rfl (hb hby d1_19) rfl ?_
    exact k
  obtain ⟨_, _, ⟨T19, L19, k19, n19⟩, -, X19, ⟨Lc19, hQ19, l19, y19, z19⟩, st19⟩ := Jvm.LawKit.callS X18 hx (y := (⟨"com/example/bitmend/bitmend/CodeParameters", "columns", "(II)J"⟩ : MethodName)) hown (mvT hZ (hw _ (List.mem_of_getElem? (i := 12) rfl))) (mvT hZ (hw _ (List.mem_of_getElem? (i := 13) rfl))) (mvT hZ (hw _ (List.mem_of_getElem? (i := 14) rfl))) (mvT hZ (hw _ (List.mem_of_getElem? (i := 15) rfl))) (by decide) (backOf (W := 2) (rm3 l Z a0 hw [] (7 : Int32) (7 : Int32) h18 n0 (by decide)) hZ (hw _ (List.mem_of_getElem? (i := 15) rfl)) (hw _ (List.mem_of_getElem? (i := 14) rfl)) (by decide) (by decide)) (g := (mkF m 20 #[.val (.ref o0), .val (.int (7 : Int32)), .val (.ref b3), .val (.int (7 : Int32))] [(.int (7 : Int32)), (.int (7 : Int32)), (.int (7 : Int32)), (.ref b3)])) rfl (by rw [hml]; rfl) (argsL := [(.int (7 : Int32)), (.int (7 : Int32))]) (rest := [(.int (7 : Int32)), (.ref b3)]) (lenOf pd_2 rfl) rfl (by show 2 * 0 + _ ≤ _; exact Nat.le_of_eq rfl) (hb hby d1_20) (fun _ _ => ⟨rfl, e18, (by decide : 1 + 0 ≤ _), (by decide : 33 + 0 ≤ _)⟩)
  dsimp only [Pt.U, Pt.locs, Pt.cells, Pt.slots] at X19 l19 y19 z19 st19 hQ19
  subst l19 y19 z19
  obtain ⟨rfl, N19q, e19⟩ := hQ19
  have N19 := Fr.app N18 N19q
  obtain ⟨Lh19, X19, N19⟩ := hide X19 N19 (C := 1) (S := 33) (by decide) (by decide)
  refine Outs.of st19 ?_
  refine Outs.of (U' := T19.setTop (mkF m 25 #[.val (.ref o0), .val (.int (7 : Int32)), .val (.ref b3), .val (.int (7 : Int32))] [(.long ((F_f3 (7 : Int32) (7 : Int32)) + (1 : Int64))), (.int (7 : Int32)), (.ref b3)])) (fun t k => ?_) ?_
  · refine XS.lconst X19.here hx rfl (hb hby d1_23) ?_
    refine XS.ladd X19.here hx rfl (hb hby d1_24) rfl ?_
    exact k
  obtain ⟨T20, h20, X20, e20, W20, V20, st20⟩ := puJ X19 hx hZ e19 V18 (j := (7 : Int32)) (x := ((F_f3 (7 : Int32) (7 : Int32)) + (1 : Int64))) (k := 7) rfl (by decide) (f := (mkF m 25 #[.val (.ref o0), .val (.int (7 : Int32)), .val (.ref b3), .val (.int (7 : Int32))] [(.long ((F_f3 (7 : Int32) (7 : Int32)) + (1 : Int64))), (.int (7 : Int32)), (.ref b3)])) rfl rfl (hb hby d1_25)
  replace V20 : AJ Z h20 b3 .long 33 ct7_g25g := V20
  have N20 := Fr.snoc X20 N19 g_b3
  obtain ⟨Lh20, X20, N20⟩ := hide X20 N20 (C := 1) (S := 33) (by decide) (by decide)
  refine Outs.of st20 ?_
  refine Outs.of (U' := T20.setTop (mkF m 33 #[.val (.ref o0), .val (.int (7 : Int32)), .val (.ref b3), .val (.int (8 : Int32))] [(.int (7 : Int32)), (.ref b3)])) (fun t k => ?_) ?_
  · refine XS.iinc X20.here hx rfl (hb hby d1_26) rfl (l' := #[.val (.ref o0), .val (.int (7 : Int32)), .val (.ref b3), .val (.int (8 : Int32))]) rfl ?_
    refine XS.aloadN X20.here hx rfl (hb hby d1_29) rfl rfl ?_
    refine XS.iloadN X20.here hx rfl (hb hby d1_30) rfl ?_
    refine XS.iconst X20.here hx rfl (hb hby d1_31) ?_
    refine XS.isub X20.here hx rfl (hb hby d1_32) rfl ?_
    exact k
  refine Outs.of (ldJ X20 hx hZ e20 V20 (j := (7 : Int32)) (k := 7) rfl (by decide) (f := (mkF m 33 #[.val (.ref o0), .val (.int (7 : Int32)), .val (.ref b3), .val (.int (8 : Int32))] [(.int (7 : Int32)), (.ref b3)])) rfl rfl (hb hby d1_33)) ?_
  refine Outs.of (U' := T20.setTop (mkF m 20 #[.val (.ref o0), .val (.int (7 : Int32)), .val (.ref b3), .val (.int (8 : Int32))] [(.int (8 : Int32)), (.int (7 : Int32)), (.int (8 : Int32)), (.ref b3)])) (fun t k => ?_) ?_
  · refine X20.ldc2Long hx hown (mvT hZ (hw _ (List.mem_of_getElem? (i := 16) rfl))) (g := (mkF m 34 #[.val (.ref o0), .val (.int (7 : Int32)), .val (.ref b3), .val (.int (8 : Int32))] [(.long (ct7_g25g 7))])) rfl (hb hby d1_34) _ ?_
    refine XS.lcmp X20.here hx rfl (hb hby d1_37) rfl ?_
    refine XS.ifYes X20.here hx rfl (pc0 := 38) (pc' := 16) rfl (hb hby d1_38) rfl ((if0 _ _).trans (flt (fun q_ => (show ¬ ((2147483647 : Int64) < (ct7_g25g 7)) from (by decide +kernel)) ((lw_gt _ _).mp q_))).2.2.2) (by decide) (by decide) ?_
    refine XS.aloadN X20.here hx rfl (hb hby d1_16) rfl rfl ?_
    refine XS.iloadN X20.here hx rfl (hb hby d1_17) rfl ?_
    refine XS.iloadN X20.here hx rfl (hb hby d1_18) rfl ?_
    refine XS.iloadN X20.here hx rfl (hb hby d1_19) rfl ?_
    exact k
  obtain ⟨_, _, ⟨T21, L21, k21, n21⟩, -, X21, ⟨Lc21, hQ21, l21, y21, z21⟩, st21⟩ := Jvm.LawKit.callS X20 hx (y := (⟨"com/example/bitmend/bitmend/CodeParameters", "columns", "(II)J"⟩ : MethodName)) hown (mvT hZ (hw _ (List.mem_of_getElem? (i := 12) rfl))) (mvT hZ (hw _ (List.mem_of_getElem? (i := 13) rfl))) (mvT hZ (hw _ (List.mem_of_getElem? (i := 14) rfl))) (mvT hZ (hw _ (List.mem_of_getElem? (i := 15) rfl))) (by decide) (backOf (W := 2) (rm3 l Z a0 hw [] (7 : Int32) (8 : Int32) h20 n0 (by decide)) hZ (hw _ (List.mem_of_getElem? (i := 15) rfl)) (hw _ (List.mem_of_getElem? (i := 14) rfl)) (by decide) (by decide)) (g := (mkF m 20 #[.val (.ref o0), .val (.int (7 : Int32)), .val (.ref b3), .val (.int (8 : Int32))] [(.int (8 : Int32)), (.int (7 : Int32)), (.int (8 : Int32)), (.ref b3)])) rfl (by rw [hml]; rfl) (argsL := [(.int (7 : Int32)), (.int (8 : Int32))]) (rest := [(.int (8 : Int32)), (.ref b3)]) (lenOf pd_2 rfl) rfl (by show 2 * 0 + _ ≤ _; exact Nat.le_of_eq rfl) (hb hby d1_20) (fun _ _ => ⟨rfl, e20, (by decide : 1 + 0 ≤ _), (by decide : 33 + 0 ≤ _)⟩)
  dsimp only [Pt.U, Pt.locs, Pt.cells, Pt.slots] at X21 l21 y21 z21 st21 hQ21
  subst l21 y21 z21
  obtain ⟨rfl, N21q, e21⟩ := hQ21
  have N21 := Fr.app N20 N21q
  obtain ⟨Lh21, X21, N21⟩ := hide X21 N21 (C := 1) (S := 33) (by decide) (by decide)
  refine Outs.of st21 ?_
  refine Outs.of (U' := T21.setTop (mkF m 25 #[.val (.ref o0), .val (.int (7 : Int32)), .val (.ref b3), .val (.int (8 : Int32))] [(.long ((F_f3 (7 : Int32) (8 : Int32)) + (1 : Int64))), (.int (8 : Int32)), (.ref b3)])) (fun t k => ?_) ?_
  · refine XS.lconst X21.here hx rfl (hb hby d1_23) ?_
    refine XS.ladd X21.here hx rfl (hb hby d1_24) rfl ?_
    exact k
  obtain ⟨T22, h22, X22, e22, W22, V22, st22⟩ := puJ X21 hx hZ e21 V20 (j := (8 : Int32)) (x := ((F_f3 (7 : Int32) (8 : Int32)) + (1 : Int64))) (k := 8) rfl (by decide) (f := (mkF m 25 #[.val (.ref o0), .val (.int (7 : Int32)), .val (.ref b3), .val (.int (8 : Int32))] [(.long ((F_f3 (7 : Int32) (8 : Int32)) + (1 : Int64))), (.int (8 : Int32)), (.ref b3)])) rfl rfl (hb hby d1_25)
  replace V22 : AJ Z h22 b3 .long 33 ct7_g25h := V22
  have N22 := Fr.snoc X22 N21 g_b3
  obtain ⟨Lh22, X22, N22⟩ := hide X22 N22 (C := 1) (S := 33) (by decide) (by decide)
  refine Outs.of st22 ?_
  refine Outs.of (U' := T22.setTop (mkF m 33 #[.val (.ref o0), .val (.int (7 : Int32)), .val (.ref b3), .val (.int (9 : Int32))] [(.int (8 : Int32)), (.ref b3)])) (fun t k => ?_) ?_
  · refine XS.iinc X22.here hx rfl (hb hby d1_26) rfl (l' := #[.val (.ref o0), .val (.int (7 : Int32)), .val (.ref b3), .val (.int (9 : Int32))]) rfl ?_
    refine XS.aloadN X22.here hx rfl (hb hby d1_29) rfl rfl ?_
    refine XS.iloadN X22.here hx rfl (hb hby d1_30) rfl ?_
    refine XS.iconst X22.here hx rfl (hb hby d1_31) ?_
    refine XS.isub X22.here hx rfl (hb hby d1_32) rfl ?_
    exact k
  refine Outs.of (ldJ X22 hx hZ e22 V22 (j := (8 : Int32)) (k := 8) rfl (by decide) (f := (mkF m 33 #[.val (.ref o0), .val (.int (7 : Int32)), .val (.ref b3), .val (.int (9 : Int32))] [(.int (8 : Int32)), (.ref b3)])) rfl rfl (hb hby d1_33)) ?_
  refine Outs.of (U' := T22.setTop (mkF m 20 #[.val (.ref o0), .val (.int (7 : Int32)), .val (.ref b3), .val (.int (9 : Int32))] [(.int (9 : Int32)), (.int (7 : Int32)), (.int (9 : Int32)), (.ref b3)])) (fun t k => ?_) ?_
  · refine X22.ldc2Long hx hown (mvT hZ (hw _ (List.mem_of_getElem? (i := 16) rfl))) (g := (mkF m 34 #[.val (.ref o0), .val (.int (7 : Int32)), .val (.ref b3), .val (.int (9 : Int32))] [(.long (ct7_g25h 8))])) rfl (hb hby d1_34) _ ?_
    refine XS.lcmp X22.here hx rfl (hb hby d1_37) rfl ?_
    refine XS.ifYes X22.here hx rfl (pc0 := 38) (pc' := 16) rfl (hb hby d1_38) rfl ((if0 _ _).trans (flt (fun q_ => (show ¬ ((2147483647 : Int64) < (ct7_g25h 8)) from (by decide +kernel)) ((lw_gt _ _).mp q_))).2.2.2) (by decide) (by decide) ?_
    refine XS.aloadN X22.here hx rfl (hb hby d1_16) rfl rfl ?_
    refine XS.iloadN X22.here hx rfl (hb hby d1_17) rfl ?_
    refine XS.iloadN X22.here hx rfl (hb hby d1_18) rfl ?_
    refine XS.iloadN X22.here hx rfl (hb hby d1_19) rfl ?_
    exact k
  obtain ⟨_, _, ⟨T23, L23, k23, n23⟩, -, X23, ⟨Lc23, hQ23, l23, y23, z23⟩, st23⟩ := Jvm.LawKit.callS X22 hx (y := (⟨"com/example/bitmend/bitmend/CodeParameters", "columns", "(II)J"⟩ : MethodName)) hown (mvT hZ (hw _ (List.mem_of_getElem? (i := 12) rfl))) (mvT hZ (hw _ (List.mem_of_getElem? (i := 13) rfl))) (mvT hZ (hw _ (List.mem_of_getElem? (i := 14) rfl))) (mvT hZ (hw _ (List.mem_of_getElem? (i := 15) rfl))) (by decide) (backOf (W := 2) (rm3 l Z a0 hw [] (7 : Int32) (9 : Int32) h22 n0 (by decide)) hZ (hw _ (List.mem_of_getElem? (i := 15) rfl)) (hw _ (List.mem_of_getElem? (i := 14) rfl)) (by decide) (by decide)) (g := (mkF m 20 #[.val (.ref o0), .val (.int (7 : Int32)), .val (.ref b3), .val (.int (9 : Int32))] [(.int (9 : Int32)), (.int (7 : Int32)), (.int (9 : Int32)), (.ref b3)])) rfl (by rw [hml]; rfl) (argsL := [(.int (7 : Int32)), (.int (9 : Int32))]) (rest := [(.int (9 : Int32)), (.ref b3)]) (lenOf pd_2 rfl) rfl (by show 2 * 0 + _ ≤ _; exact Nat.le_of_eq rfl) (hb hby d1_20) (fun _ _ => ⟨rfl, e22, (by decide : 1 + 0 ≤ _), (by decide : 33 + 0 ≤ _)⟩)
  dsimp only [Pt.U, Pt.locs, Pt.cells, Pt.slots] at X23 l23 y23 z23 st23 hQ23
  subst l23 y23 z23
  obtain ⟨rfl, N23q, e23⟩ := hQ23
  have N23 := Fr.app N22 N23q
  obtain ⟨Lh23, X23, N23⟩ := hide X23 N23 (C := 1) (S := 33) (by decide) (by decide)
  refine Outs.of st23 ?_
  refine Outs.of (U' := T23.setTop (mkF m 25 #[.val (.ref o0), .val (.int (7 : Int32)), .val (.ref b3), .val (.int (9 : Int32))] [(.long ((F_f3 (7 : Int32) (9 : Int32)) + (1 : Int64))), (.int (9 : Int32)), (.ref b3)])) (fun t k => ?_) ?_
  · refine XS.lconst X23.here hx rfl (hb hby d1_23) ?_
    refine XS.ladd X23.here hx rfl (hb hby d1_24) rfl ?_
    exact k
  obtain ⟨T24, h24, X24, e24, W24, V24, st24⟩ := puJ X23 hx hZ e23 V22 (j := (9 : Int32)) (x := ((F_f3 (7 : Int32) (9 : Int32)) + (1 : Int64))) (k := 9) rfl (by decide) (f := (mkF m 25 #[.val (.ref o0), .val (.int (7 : Int32)), .val (.ref b3), .val (.int (9 : Int32))] [(.long ((F_f3 (7 : Int32) (9 : Int32)) + (1 : Int64))), (.int (9 : Int32)), (.ref b3)])) rfl rfl (hb hby d1_25)
  replace V24 : AJ Z h24 b3 .long 33 ct7_g25i := V24
  have N24 := Fr.snoc X24 N23 g_b3
  obtain ⟨Lh24, X24, N24⟩ := hide X24 N24 (C := 1) (S := 33) (by decide) (by decide)
  refine Outs.of st24 ?_
  refine Outs.of (U' := T24.setTop (mkF m 33 #[.val (.ref o0), .val (.int (7 : Int32)), .val (.ref b3), .val (.int (10 : Int32))] [(.int (9 : Int32)), (.ref b3)])) (fun t k => ?_) ?_
  · refine XS.iinc X24.here hx rfl (hb hby d1_26) rfl (l' := #[.val (.ref o0), .val (.int (7 : Int32)), .val (.ref b3), .val (.int (10 : Int32))]) rfl ?_
    refine XS.aloadN X24.here hx rfl (hb hby d1_29) rfl rfl ?_
    refine XS.iloadN X24.here hx rfl (hb hby d1_30) rfl ?_
    refine XS.iconst X24.here hx rfl (hb hby d1_31) ?_
    refine XS.isub X24.here hx rfl (hb hby d1_32) rfl ?_
    exact k
  refine Outs.of (ldJ X24 hx hZ e24 V24 (j := (9 : Int32)) (k := 9) rfl (by decide) (f := (mkF m 33 #[.val (.ref o0), .val (.int (7 : Int32)), .val (.ref b3), .val (.int (10 : Int32))] [(.int (9 : Int32)), (.ref b3)])) rfl rfl (hb hby d1_33)) ?_
  refine Outs.of (U' := T24.setTop (mkF m 20 #[.val (.ref o0), .val (.int (7 : Int32)), .val (.ref b3), .val (.int (10 : Int32))] [(.int (10 : Int32)), (.int (7 : Int32)), (.int (10 : Int32)), (.ref b3)])) (fun t k => ?_) ?_
  · refine X24.ldc2Long hx hown (mvT hZ (hw _ (List.mem_of_getElem? (i := 16) rfl))) (g := (mkF m 34 #[.val (.ref o0), .val (.int (7 : Int32)), .val (.ref b3), .val (.int (10 : Int32))] [(.long (ct7_g25i 9))])) rfl (hb hby d1_34) _ ?_
    refine XS.lcmp X24.here hx rfl (hb hby d1_37) rfl ?_
    refine XS.ifYes X24.here hx rfl (pc0 := 38) (pc' := 16) rfl (hb hby d1_38) rfl ((if0 _ _).trans (flt (fun q_ => (show ¬ ((2147483647 : Int64) < (ct7_g25i 9)) from (by decide +kernel)) ((lw_gt _ _).mp q_))).2.2.2) (by decide) (by decide) ?_
    refine XS.aloadN X24.here hx rfl (hb hby d1_16) rfl rfl ?_
    refine XS.iloadN X24.here hx rfl (hb hby d1_17) rfl ?_
    refine XS.iloadN X24.here hx rfl (hb hby d1_18) rfl ?_
    refine XS.iloadN X24.here hx rfl (hb hby d1_19) rfl ?_
    exact k
  obtain ⟨_, _, ⟨T25, L25, k25, n25⟩, -, X25, ⟨Lc25, hQ25, l25, y25, z25⟩, st25⟩ := Jvm.LawKit.callS X24 hx (y := (⟨"com/example/bitmend/bitmend/CodeParameters", "columns", "(II)J"⟩ : MethodName)) hown (mvT hZ (hw _ (List.mem_of_getElem? (i := 12) rfl))) (mvT hZ (hw _ (List.mem_of_getElem? (i := 13) rfl))) (mvT hZ (hw _ (List.mem_of_getElem? (i := 14) rfl))) (mvT hZ (hw _ (List.mem_of_getElem? (i := 15) rfl))) (by decide) (backOf (W := 2) (rm3 l Z a0 hw [] (7 : Int32) (10 : Int32) h24 n0 (by decide)) hZ (hw _ (List.mem_of_getElem? (i := 15) rfl)) (hw _ (List.mem_of_getElem? (i := 14) rfl)) (by decide) (by decide)) (g := (mkF m 20 #[.val (.ref o0), .val (.int (7 : Int32)), .val (.ref b3), .val (.int (10 : Int32))] [(.int (10 : Int32)), (.int (7 : Int32)), (.int (10 : Int32)), (.ref b3)])) rfl (by rw [hml]; rfl) (argsL := [(.int (7 : Int32)), (.int (10 : Int32))]) (rest := [(.int (10 : Int32)), (.ref b3)]) (lenOf pd_2 rfl) rfl (by show 2 * 0 + _ ≤ _; exact Nat.le_of_eq rfl) (hb hby d1_20) (fun _ _ => ⟨rfl, e24, (by decide : 1 + 0 ≤ _), (by decide : 33 + 0 ≤ _)⟩)
  dsimp only [Pt.U, Pt.locs, Pt.cells, Pt.slots] at X25 l25 y25 z25 st25 hQ25
  subst l25 y25 z25
  obtain ⟨rfl, N25q, e25⟩ := hQ25
  have N25 := Fr.app N24 N25q
  obtain ⟨Lh25, X25, N25⟩ := hide X25 N25 (C := 1) (S := 33) (by decide) (by decide)
  refine Outs.of st25 ?_
  refine Outs.of (U' := T25.setTop (mkF m 25 #[.val (.ref o0), .val (.int (7 : Int32)), .val (.ref b3), .val (.int (10 : Int32))] [(.long ((F_f3 (7 : Int32) (10 : Int32)) + (1 : Int64))), (.int (10 : Int32)), (.ref b3)])) (fun t k => ?_) ?_
  · refine XS.lconst X25.here hx rfl (hb hby d1_23) ?_
    refine XS.ladd X25.here hx rfl (hb hby d1_24) rfl ?_
    exact k
  obtain ⟨T26, h26, X26, e26, W26, V26, st26⟩ := puJ X25 hx hZ e25 V24 (j := (10 : Int32)) (x := ((F_f3 (7 : Int32) (10 : Int32)) + (1 : Int64))) (k := 10) rfl (by decide) (f := (mkF m 25 #[.val (.ref o0), .val (.int (7 : Int32)), .val (.ref b3), .val (.int (10 : Int32))] [(.long ((F_f3 (7 : Int32) (10 : Int32)) + (1 : Int64))), (.int (10 : Int32)), (.ref b3)])) rfl rfl (hb hby d1_25)
  replace V26 : AJ Z h26 b3 .long 33 ct7_g25j := V26
  have N26 := Fr.snoc X26 N25 g_b3
  obtain ⟨Lh26, X26, N26⟩ := hide X26 N26 (C := 1) (S := 33) (by decide) (by decide)
  refine Outs.of st26 ?_
  refine Outs.of (U' := T26.setTop (mkF m 33 #[.val (.ref o0), .val (.int (7 : Int32)), .val (.ref b3), .val (.int (11 : Int32))] [(.int (10 : Int32)), (.ref b3)])) (fun t k => ?_) ?_
  · refine XS.iinc X26.here hx rfl (hb hby d1_26) rfl (l' := #[.val (.ref o0), .val (.int (7 : Int32)), .val (.ref b3), .val (.int (11 : Int32))]) rfl ?_
    refine XS.aloadN X26.here hx rfl (hb hby d1_29) rfl rfl ?_
    refine XS.iloadN X26.here hx rfl (hb hby d1_30) rfl ?_
    refine XS.iconst X26.here hx rfl (hb hby d1_31) ?_
    refine XS.isub X26.here hx rfl (hb hby d1_32) rfl ?_
    exact k
  refine Outs.of (ldJ X26 hx hZ e26 V26 (j := (10 : Int32)) (k := 10) rfl (by decide) (f := (mkF m 33 #[.val (.ref o0), .val (.int (7 : Int32)), .val (.ref b3), .val (.int (11 : Int32))] [(.int (10 : Int32)), (.ref b3)])) rfl rfl (hb hby d1_33)) ?_
  refine Outs.of (U' := T26.setTop (mkF m 20 #[.val (.ref o0), .val (.int (7 : Int32)), .val (.ref b3), .val (.int (11 : Int32))] [(.int (11 : Int32)), (.int (7 : Int32)), (.int (11 : Int32)), (.ref b3)])) (fun t k => ?_) ?_
  · refine X26.ldc2Long hx hown (mvT hZ (hw _ (List.mem_of_getElem? (i := 16) rfl))) (g := (mkF m 34 #[.val (.ref o0), .val (.int (7 : Int32)), .val (.ref b3), .val (.int (11 : Int32))] [(.long (ct7_g25j 10))])) rfl (hb hby d1_34) _ ?_
    refine XS.lcmp X26.here hx rfl (hb hby d1_37) rfl ?_
    refine XS.ifYes X26.here hx rfl (pc0 := 38) (pc' := 16) rfl (hb hby d1_38) rfl ((if0 _ _).trans (flt (fun q_ => (show ¬ ((2147483647 : Int64) < (ct7_g25j 10)) from (by decide +kernel)) ((lw_gt _ _).mp q_))).2.2.2) (by decide) (by decide) ?_
    refine XS.aloadN X26.here hx rfl (hb hby d1_16) rfl rfl ?_
    refine XS.iloadN X26.here hx rfl (hb hby d1_17) rfl ?_
    refine XS.iloadN X26.here hx rfl (hb hby d1_18) rfl ?_
    refine XS.iloadN X26.here hx rfl (hb hby d1_19) rfl ?_
    exact k
  obtain ⟨_, _, ⟨T27, L27, k27, n27⟩, -, X27, ⟨Lc27, hQ27, l27, y27, z27⟩, st27⟩ := Jvm.LawKit.callS X26 hx (y := (⟨"com/example/bitmend/bitmend/CodeParameters", "columns", "(II)J"⟩ : MethodName)) hown (mvT hZ (hw _ (List.mem_of_getElem? (i := 12) rfl))) (mvT hZ (hw _ (List.mem_of_getElem? (i := 13) rfl))) (mvT hZ (hw _ (List.mem_of_getElem? (i := 14) rfl))) (mvT hZ (hw _ (List.mem_of_getElem? (i := 15) rfl))) (by decide) (backOf (W := 2) (rm3 l Z a0 hw [] (7 : Int32) (11 : Int32) h26 n0 (by decide)) hZ (hw _ (List.mem_of_getElem? (i := 15) rfl)) (hw _ (List.mem_of_getElem? (i := 14) rfl)) (by decide) (by decide)) (g := (mkF m 20 #[.val (.ref o0), .val (.int (7 : Int32)), .val (.ref b3), .val (.int (11 : Int32))] [(.int (11 : Int32)), (.int (7 : Int32)), (.int (11 : Int32)), (.ref b3)])) rfl (by rw [hml]; rfl) (argsL := [(.int (7 : Int32)), (.int (11 : Int32))]) (rest := [(.int (11 : Int32)), (.ref b3)]) (lenOf pd_2 rfl) rfl (by show 2 * 0 + _ ≤ _; exact Nat.le_of_eq rfl) (hb hby d1_20) (fun _ _ => ⟨rfl, e26, (by decide : 1 + 0 ≤ _), (by decide : 33 + 0 ≤ _)⟩)
  dsimp only [Pt.U, Pt.locs, Pt.cells, Pt.slots] at X27 l27 y27 z27 st27 hQ27
  subst l27 y27 z27
  obtain ⟨rfl, N27q, e27⟩ := hQ27
  have N27 := Fr.app N26 N27q
  obtain ⟨Lh27, X27, N27⟩ := hide X27 N27 (C := 1) (S := 33) (by decide) (by decide)
  refine Outs.of st27 ?_
  refine Outs.of (U' := T27.setTop (mkF m 25 #[.val (.ref o0), .val (.int (7 : Int32)), .val (.ref b3), .val (.int (11 : Int32))] [(.long ((F_f3 (7 : Int32) (11 : Int32)) + (1 : Int64))), (.int (11 : Int32)), (.ref b3)])) (fun t k => ?_) ?_
  · refine XS.lconst X27.here hx rfl (hb hby d1_23) ?_
    refine XS.ladd X27.here hx rfl (hb hby d1_24) rfl ?_
    exact k
  obtain ⟨T28, h28, X28, e28, W28, V28, st28⟩ := puJ X27 hx hZ e27 V26 (j := (11 : Int32)) (x := ((F_f3 (7 : Int32) (11 : Int32)) + (1 : Int64))) (k := 11) rfl (by decide) (f := (mkF m 25 #[.val (.ref o0), .val (.int (7 : Int32)), .val (.ref b3), .val (.int (11 : Int32))] [(.long ((F_f3 (7 : Int32) (11 : Int32)) + (1 : Int64))), (.int (11 : Int32)), (.ref b3)])) rfl rfl (hb hby d1_25)
  replace V28 : AJ Z h28 b3 .long 33 ct7_g25k := V28
  have N28 := Fr.snoc X28 N27 g_b3
  obtain ⟨Lh28, X28, N28⟩ := hide X28 N28 (C := 1) (S := 33) (by decide) (by decide)
  refine Outs.of st28 ?_
  refine Outs.of (U' := T28.setTop (mkF m 33 #[.val (.ref o0), .val (.int (7 : Int32)), .val (.ref b3), .val (.int (12 : Int32))] [(.int (11 : Int32)), (.ref b3)])) (fun t k => ?_) ?_
  · refine XS.iinc X28.here hx rfl (hb hby d1_26) rfl (l' := #[.val (.ref o0), .val (.int (7 : Int32)), .val (.ref b3), .val (.int (12 : Int32))]) rfl ?_
    refine XS.aloadN X28.here hx rfl (hb hby d1_29) rfl rfl ?_
    refine XS.iloadN X28.here hx rfl (hb hby d1_30) rfl ?_
    refine XS.iconst X28.here hx rfl (hb hby d1_31) ?_
    refine XS.isub X28.here hx rfl (hb hby d1_32) rfl ?_
    exact k
  refine Outs.of (ldJ X28 hx hZ e28 V28 (j := (11 : Int32)) (k := 11) rfl (by decide) (f := (mkF m 33 #[.val (.ref o0), .val (.int (7 : Int32)), .val (.ref b3), .val (.int (12 : Int32))] [(.int (11 : Int32)), (.ref b3)])) rfl rfl (hb hby d1_33)) ?_
  refine Outs.of (U' := T28.setTop (mkF m 20 #[.val (.ref o0), .val (.int (7 : Int32)), .val (.ref b3), .val (.int (12 : Int32))] [(.int (12 : Int32)), (.int (7 : Int32)), (.int (12 : Int32)), (.ref b3)])) (fun t k => ?_) ?_
  · refine X28.ldc2Long hx hown (mvT hZ (hw _ (List.mem_of_getElem? (i := 16) rfl))) (g := (mkF m 34 #[.val (.ref o0), .val (.int (7 : Int32)), .val (.ref b3), .val (.int (12 : Int32))] [(.long (ct7_g25k 11))])) rfl (hb hby d1_34) _ ?_
    refine XS.lcmp X28.here hx rfl (hb hby d1_37) rfl ?_
    refine XS.ifYes X28.here hx rfl (pc0 := 38) (pc' := 16) rfl (hb hby d1_38) rfl ((if0 _ _).trans (flt (fun q_ => (show ¬ ((2147483647 : Int64) < (ct7_g25k 11)) from (by decide +kernel)) ((lw_gt _ _).mp q_))).2.2.2) (by decide) (by decide) ?_
    refine XS.aloadN X28.here hx rfl (hb hby d1_16) rfl rfl ?_
    refine XS.iloadN X28.here hx rfl (hb hby d1_17) rfl ?_
    refine XS.iloadN X28.here hx rfl (hb hby d1_18) rfl ?_
    refine XS.iloadN X28.here hx rfl (hb hby d1_19) rfl ?_
    exact k
  obtain ⟨_, _, ⟨T29, L29, k29, n29⟩, -, X29, ⟨Lc29, hQ29, l29, y29, z29⟩, st29⟩ := Jvm.LawKit.callS X28 hx (y := (⟨"com/example/bitmend/bitmend/CodeParameters", "columns", "(II)J"⟩ : MethodName)) hown (mvT hZ (hw _ (List.mem_of_getElem? (i := 12) rfl))) (mvT hZ (hw _ (List.mem_of_getElem? (i := 13) rfl))) (mvT hZ (hw _ (List.mem_of_getElem? (i := 14) rfl))) (mvT hZ (hw _ (List.mem_of_getElem? (i := 15) rfl))) (by decide) (backOf (W := 2) (rm3 l Z a0 hw [] (7 : Int32) (12 : Int32) h28 n0 (by decide)) hZ (hw _ (List.mem_of_getElem? (i := 15) rfl)) (hw _ (List.mem_of_getElem? (i := 14) rfl)) (by decide) (by decide)) (g := (mkF m 20 #[.val (.ref o0), .val (.int (7 : Int32)), .val (.ref b3), .val (.int (12 : Int32))] [(.int (12 : Int32)), (.int (7 : Int32)), (.int (12 : Int32)), (.ref b3)])) rfl (by rw [hml]; rfl) (argsL := [(.int (7 : Int32)), (.int (12 : Int32))]) (rest := [(.int (12 : Int32)), (.ref b3)]) (lenOf pd_2 rfl) rfl (by show 2 * 0 + _ ≤ _; exact Nat.le_of_eq rfl) (hb hby d1_20) (fun _ _ => ⟨rfl, e28, (by decide : 1 + 0 ≤ _), (by decide : 33 + 0 ≤ _)⟩)
  dsimp only [Pt.U, Pt.locs, Pt.cells, Pt.slots] at X29 l29 y29 z29 st29 hQ29
  subst l29 y29 z29
  obtain ⟨rfl, N29q, e29⟩ := hQ29
  have N29 := Fr.app N28 N29q
  obtain ⟨Lh29, X29, N29⟩ := hide X29 N29 (C := 1) (S := 33) (by decide) (by decide)
  refine Outs.of st29 ?_
  refine Outs.of (U' := T29.setTop (mkF m 25 #[.val (.ref o0), .val (.int (7 : Int32)), .val (.ref b3), .val (.int (12 : Int32))] [(.long ((F_f3 (7 : Int32) (12 : Int32)) + (1 : Int64))), (.int (12 : Int32)), (.ref b3)])) (fun t k => ?_) ?_
  · refine XS.lconst X29.here hx rfl (hb hby d1_23) ?_
    refine XS.ladd X29.here hx rfl (hb hby d1_24) rfl ?_
    exact k
  obtain ⟨T30, h30, X30, e30, W30, V30, st30⟩ := puJ X29 hx hZ e29 V28 (j := (12 : Int32)) (x := ((F_f3 (7 : Int32) (12 : Int32)) + (1 : Int64))) (k := 12) rfl (by decide) (f := (mkF m 25 #[.val (.ref o0), .val (.int (7 : Int32)), .val (.ref b3), .val (.int (12 : Int32))] [(.long ((F_f3 (7 : Int32) (12 : Int32)) + (1 : Int64))), (.int (12 : Int32)), (.ref b3)])) rfl rfl (hb hby d1_25)
  replace V30 : AJ Z h30 b3 .long 33 ct7_g25l := V30
  have N30 := Fr.snoc X30 N29 g_b3
  obtain ⟨Lh30, X30, N30⟩ := hide X30 N30 (C := 1) (S := 33) (by decide) (by decide)
  refine Outs.of st30 ?_
  refine Outs.of (U' := T30.setTop (mkF m 33 #[.val (.ref o0), .val (.int (7 : Int32)), .val (.ref b3), .val (.int (13 : Int32))] [(.int (12 : Int32)), (.ref b3)])) (fun t k => ?_) ?_
  · refine XS.iinc X30.here hx rfl (hb hby d1_26) rfl (l' := #[.val (.ref o0), .val (.int (7 : Int32)), .val (.ref b3), .val (.int (13 : Int32))]) rfl ?_
    refine XS.aloadN X30.here hx rfl (hb hby d1_29) rfl rfl ?_
    refine XS.iloadN X30.here hx rfl (hb hby d1_30) rfl ?_
    refine XS.iconst X30.here hx rfl (hb hby d1_31) ?_
    refine XS.isub X30.here hx rfl (hb hby d1_32) rfl ?_
    exact k
  refine Outs.of (ldJ X30 hx hZ e30 V30 (j := (12 : Int32)) (k := 12) rfl (by decide) (f := (mkF m 33 #[.val (.ref o0), .val (.int (7 : Int32)), .val (.ref b3), .val (.int (13 : Int32))] [(.int (12 : Int32)), (.ref b3)])) rfl rfl (hb hby d1_33)) ?_
  refine Outs.of (U' := T30.setTop (mkF m 44 #[.val (.ref o0), .val (.int (7 : Int32)), .val (.ref b3), .val (.int (13 : Int32))] [(.int (13 : Int32)), (.ref b3), (.ref o0)])) (fun t k => ?_) ?_
  · refine X30.ldc2Long hx hown (mvT hZ (hw _ (List.mem_of_getElem? (i := 16) rfl))) (g := (mkF m 34 #[.val (.ref o0), .val (.int (7 : Int32)), .val (.ref b3), .val (.int (13 : Int32))] [(.long (ct7_g25l 12))])) rfl (hb hby d1_34) _ ?_
    refine XS.lcmp X30.here hx rfl (hb hby d1_37) rfl ?_
    refine XS.ifNo X30.here hx rfl (hb hby d1_38) rfl ((if0 _ _).trans (tlt ((lw_gt _ _).mpr (show (2147483647 : Int64) < (ct7_g25l 12) from (by decide +kernel)))).2.2.2) ?_
    refine XS.aloadN X30.here hx rfl (hb hby d1_41) rfl rfl ?_
    refine XS.aloadN X30.here hx rfl (hb hby d1_42) rfl rfl ?_
    refine XS.iloadN X30.here hx rfl (hb hby d1_43) rfl ?_
    exact k
  have f31 : Exa Z h30 o0 "com/example/bitmend/bitmend/PositionalColumns" := ((((((((((((((f4.ext E3).wr W6).wr W8).wr W10).wr W12).wr W14).wr W16).wr W18).wr W20).wr W22).wr W24).wr W26).wr W28).wr W30)
  obtain ⟨_, _, ⟨T32, L32, k32, n32⟩, -, X32, ⟨Lc32, hQ32, l32, y32, z32⟩, st32⟩ := Jvm.LawKit.callS X30 hx (y := (⟨"java/util/Arrays", "copyOf", "([JI)[J"⟩ : MethodName)) hown (mvT hZ (hw _ (List.mem_of_getElem? (i := 17) rfl))) (mvT hZ (hw _ (List.mem_of_getElem? (i := 18) rfl))) (mvT hZ (hw _ (List.mem_of_getElem? (i := 19) rfl))) (mvT hZ (hw _ (List.mem_of_getElem? (i := 20) rfl))) (by decide) (backOf (W := 1) (rmcp7 l Z a0 hw [] b3 ct7_g25l h30 n0 (Nat.le_trans (Nat.le_trans (Nat.le_trans (Nat.le_trans (Nat.le_trans (Nat.le_trans (Nat.le_trans (Nat.le_trans (Nat.le_trans (Nat.le_trans (Nat.le_trans (Nat.le_trans (Nat.le_trans (Nat.le_trans (Nat.le_trans Z0 (Keep.of_wr W2).1) E3.1) (Keep.of_wr W6).1) (Keep.of_wr W8).1) (Keep.of_wr W10).1) (Keep.of_wr W12).1) (Keep.of_wr W14).1) (Keep.of_wr W16).1) (Keep.of_wr W18).1) (Keep.of_wr W20).1) (Keep.of_wr W22).1) (Keep.of_wr W24).1) (Keep.of_wr W26).1) (Keep.of_wr W28).1) (Keep.of_wr W30).1) V30) hZ (hw _ (List.mem_of_getElem? (i := 20) rfl)) (hw _ (List.mem_of_getElem? (i := 19) rfl)) (by decide) (by decide)) (g := (mkF m 44 #[.val (.ref o0), .val (.int (7 : Int32)), .val (.ref b3), .val (.int (13 : Int32))] [(.int (13 : Int32)), (.ref b3), (.ref o0)])) rfl (by rw [hml]; rfl) (argsL := [(.ref b3), (.int (13 : Int32))]) (rest := [(.ref o0)]) (lenOf pd_3 rfl) rfl (by show 2 * 0 + _ ≤ _; exact Nat.le_of_eq rfl) (hb hby d1_44) (fun _ _ => ⟨rfl, e30, (by decide : 1 + 1 ≤ _), (by decide : 33 + 13 ≤ _)⟩)
  dsimp only [Pt.U, Pt.locs, Pt.cells, Pt.slots] at X32 l32 y32 z32 st32 hQ32
  subst l32 y32 z32
  obtain ⟨b32, g_b32, hs_b32, rfl, N32q, K32, u32_0⟩ := hQ32
  have N32 := Fr.app N30 N32q
  have sz_b32 : h0.size ≤ b32 := Nat.le_trans ((((((((((((((((Keep.refl h0 [o0]).wr W2 (Or.inl (List.mem_of_getElem? (i := 0) rfl))).ext E3).wr W6 (Or.inr sz_b3)).wr W8 (Or.inr sz_b3)).wr W10 (Or.inr sz_b3)).wr W12 (Or.inr sz_b3)).wr W14 (Or.inr sz_b3)).wr W16 (Or.inr sz_b3)).wr W18 (Or.inr sz_b3)).wr W20 (Or.inr sz_b3)).wr W22 (Or.inr sz_b3)).wr W24 (Or.inr sz_b3)).wr W26 (Or.inr sz_b3)).wr W28 (Or.inr sz_b3)).wr W30 (Or.inr sz_b3)).1 hs_b32
  have ne_o0_b32 : o0 ≠ b32 := Nat.ne_of_lt (Nat.lt_of_lt_of_le f31.lt hs_b32)
  have ne_b3_b32 : b3 ≠ b32 := Nat.ne_of_lt (Nat.lt_of_lt_of_le V30.lt hs_b32)
  obtain ⟨Lh32, X32, N32⟩ := hide X32 N32 (C := 2) (S := 46) (by decide) (by decide)
  refine Outs.of st32 ?_
  have f34 : Exa Z T32.heap o0 "com/example/bitmend/bitmend/PositionalColumns" := (f31.keep K32)
  have f35 : Fld Z T32.heap o0 "com/example/bitmend/bitmend/PositionalColumns" "checkPositions" "[J" .null := ((((((((((((((((F_o0_checkPositions.other W2 (Or.inr (slot_ne (Or.inr (hw _ (List.mem_of_getElem? (i := 30) rfl))) (Or.inr (hw _ (List.mem_of_getElem? (i := 10) rfl))) (by decide) (t := (.array .long)) (t' := .int) (by decide) (by decide)))).ext E3).other W6 (Or.inl ne_o0_b3)).other W8 (Or.inl ne_o0_b3)).other W10 (Or.inl ne_o0_b3)).other W12 (Or.inl ne_o0_b3)).other W14 (Or.inl ne_o0_b3)).other W16 (Or.inl ne_o0_b3)).other W18 (Or.inl ne_o0_b3)).other W20 (Or.inl ne_o0_b3)).other W22 (Or.inl ne_o0_b3)).other W24 (Or.inl ne_o0_b3)).other W26 (Or.inl ne_o0_b3)).other W28 (Or.inl ne_o0_b3)).other W30 (Or.inl ne_o0_b3)).keep K32 nin0)
  obtain ⟨T33, h33, X33, e33, W33, st33⟩ := putF X32 hx hZ hown (host := "") (Or.inl (hw _ (List.mem_of_getElem? (i := 29) rfl))) Via.refl rfl f35 f34 (Or.inr ⟨(hw _ (List.mem_of_getElem? (i := 30) rfl)), rfl, hnm⟩) (hw _ (List.mem_of_getElem? (i := 1) rfl)) (ty := (.array .long)) (by decide) rfl rfl (g := (mkF m 47 #[.val (.ref o0), .val (.int (7 : Int32)), .val (.ref b3), .val (.int (13 : Int32))] [(.ref b32), (.ref o0)])) rfl rfl (hb hby d1_47)
  have F33 : Fld Z h33 o0 "com/example/bitmend/bitmend/PositionalColumns" "checkPositions" "[J" (.ref b32) := f35.same W33
  have N33 := Fr.snoc X33 N32 g_o0
  obtain ⟨Lh33, X33, N33⟩ := hide X33 N33 (C := 2) (S := 46) (by decide) (by decide)
  refine Outs.of st33 ?_
  have f36 : Exa Z h33 o0 "com/example/bitmend/bitmend/PositionalColumns" := (f34.wr W33)
  have f37 : AJ Z h33 b32 .long 13 (cp7_g28 ct7_g25l) := (u32_0.other W33 ne_o0_b32.symm)
  exact Outs.retV X33 hx hret (hb hby d1_50) hlk (by decide) (by decide) e33 ⟨b32, g_b32, sz_b32, rfl, N33, ((((((((((((((((((Keep.refl h0 [o0]).wr W2 (Or.inl (List.mem_of_getElem? (i := 0) rfl))).ext E3).wr W6 (Or.inr sz_b3)).wr W8 (Or.inr sz_b3)).wr W10 (Or.inr sz_b3)).wr W12 (Or.inr sz_b3)).wr W14 (Or.inr sz_b3)).wr W16 (Or.inr sz_b3)).wr W18 (Or.inr sz_b3)).wr W20 (Or.inr sz_b3)).wr W22 (Or.inr sz_b3)).wr W24 (Or.inr sz_b3)).wr W26 (Or.inr sz_b3)).wr W28 (Or.inr sz_b3)).wr W30 (Or.inr sz_b3)).trans K32 all0).wr W33 (Or.inl (List.mem_of_getElem? (i := 0) rfl))), f36, F33, f37⟩
theorem ef_6 (m : MethodId) (x0 : Addr) : entryFrame m #[(.ref x0)] 1 = mkF m 0 #[.val (.ref x0)] [] := by first | (simp [entryFrame, mkF, argsToLocals, Value.category]; done) | rfl
theorem d6_0 : decode jdk_31_method_10_code 0 = .ok (.aload_n 0, 1) := by decide +kernel
theorem d6_1 : decode jdk_31_method_10_code 1 = .ok (.ifnonnull 11, 3) := by decide +kernel
theorem d6_12 : decode jdk_31_method_10_code 12 = .ok (.aload_n 0, 1) := by decide +kernel
theorem d6_13 : decode jdk_31_method_10_code 13 = .ok (.areturn, 1) := by decide +kernel
theorem pn_6 : plainName "java/util/Objects" = true := by first | (simp [plainName, overriddenIn]; done) | decide +kernel
set_option maxRecDepth 65536 in
set_option maxHeartbeats 40000000 in
theorem rm6 (l : Launch) (Z : State) (a0 : Array Value) (hw : ∀ d ∈ tables_1, d.before a0 Z = true) (ws : List Jvm.Cond) (o0 : Addr)  (h0 : Heap) (n0 : Nat)  :
    MetFree l (⟨"java/util/Objects", "requireNonNull", "(Ljava/lang/Object;)Ljava/lang/Object;"⟩ : MethodName) (head1 (Jvm.Cond.code (⟨"java/util/Objects", "requireNonNull", "(Ljava/lang/Object;)Ljava/lang/Object;"⟩ : MethodName) jdk_31_method_10_code 1 (some (.object "java/lang/Object")) :: ws) ({ frames := 0, cells := 0, slots := 0, locals := 0 } : Room)) (fun a U => a = #[(.ref o0)] ∧ Z.Warmed39 U.vm ∧ U.heap = h0) (fun _ _ _ _ _ => True) (fun _ U o U' => ∃ v L, o = .returned v ∧ QR (some (.ref o0)) h0 n0 v U'.heap L ∧ FrameEnd U o U' L ({ frames := 0, cells := 0, slots := 0, locals := 0 } : Room).cells ({ frames := 0, cells := 0, slots := 0, locals := 0 } : Room).slots) := by
  refine MetFree.of_bodySF (plainFor_of_name pn_6) hisR ?_
  intro p e s m args below meth c s₁ Bd hml0 hP hK
  obtain ⟨rfl, hZ, hh⟩ := hP
  have hx := Bd.exec
  have hby := Bd.bytes
  have hml : c.maxLocals = 1 := hml0
  have hown : s.vm.findClass "java/util/Objects" = some m.cls := findClass_of_methodNamed Bd.named
  have hnm := (name_of_methodNamed Bd.named Bd.method).1
  have hret := Bd.returns
  have hlk : meth.locks = false := BodyLoose.notSynchronized Bd
  have X0 : Stand p l e ({ frames := 0, cells := 0, slots := 0, locals := 0 } : Room) s m #[(.ref o0)] below meth c s₁ [] 0 0 := Stand.of_body Bd
  have e0 : s₁.heap = h0 := by rw [← hh, Bd.state]; rfl
  have N0 := Fr.nil n0
  show Outs p e below s (QR (some (.ref o0)) h0 n0) _ _ _
  refine Outs.of (U' := s₁.setTop (mkF m 0 #[.val (.ref o0)] [])) (fun t k => castTop (ef_6 m o0) k) ?_
  refine Outs.of (U' := s₁.setTop (mkF m 13 #[.val (.ref o0)] [(.ref o0)])) (fun t k => ?_) ?_
  · refine XS.aloadN X0.here hx rfl (hb hby d6_0) rfl rfl ?_
    refine XS.ifnonnullYes X0.here hx rfl (pc0 := 1) (pc' := 12) rfl (hb hby d6_1) rfl (by decide) (by decide) ?_
    refine XS.aloadN X0.here hx rfl (hb hby d6_12) rfl rfl ?_
    exact k
  exact Outs.retA (w := (.ref o0)) X0 hx hret rfl rfl rfl (hb hby d6_13) hlk (by decide) (by decide) e0 ⟨rfl, N0, rfl⟩
theorem ef_7 (m : MethodId) (x0 : Addr) (x1 : Addr) : entryFrame m #[(.ref x0), (.ref x1)] 2 = mkF m 0 #[.val (.ref x0), .val (.ref x1)] [] := by first | (simp [entryFrame, mkF, argsToLocals, Value.category]; done) | rfl
theorem d7_0 : decode prog_36_method_1_code 0 = .ok (.aload_n 0, 1) := by decide +kernel
theorem d7_1 : decode prog_36_method_1_code 1 = .ok (.aload_n 1, 1) := by decide +kernel
theorem d7_2 : decode prog_36_method_1_code 2 = .ok (.putfield 1, 3) := by decide +kernel
theorem d7_5 : decode prog_36_method_1_code 5 = .ok (.aload_n 0, 1) := by decide +kernel
theorem d7_6 : decode prog_36_method_1_code 6 = .ok (.invokespecial 7, 3) := by decide +kernel
theorem d7_9 : decode prog_36_method_1_code 9 = .ok (.aload_n 0, 1) := by decide +kernel
theorem d7_10 : decode prog_36_method_1_code 10 = .ok (.aload_n 0, 1) := by decide +kernel
theorem d7_11 : decode prog_36_method_1_code 11 = .ok (.getfield 1, 3) := by decide +kernel
theorem d7_14 : decode prog_36_method_1_code 14 = .ok (.getfield 13, 3) := by decide +kernel
theorem d7_17 : decode prog_36_method_1_code 17 = .ok (.iconst 0, 1) := by decide +kernel
theorem d7_18 : decode prog_36_method_1_code 18 = .ok (.laload, 1) := by decide +kernel
theorem d7_19 : decode prog_36_method_1_code 19 = .ok (.putfield 19, 3) := by decide +kernel
theorem d7_22 : decode prog_36_method_1_code 22 = .ok (.return_, 1) := by decide +kernel
theorem pn_7 : plainName "com/example/bitmend/bitmend/PositionalColumns$DataPositions" = true := by first | (simp [plainName, overriddenIn]; done) | decide +kernel
def Q_f7 (Z : State) (o0 : Addr) (o1 : Addr) (a2 : Addr) (n : Nat) (g : Nat → Int64) (h0 : Heap) (n0 : Nat) (v : Option Value) (h : Heap) (L : List Loc) : Prop := v = none ∧ Fr n0 L ∧ Keep h0 h [o0] ∧ Exa Z h o0 "com/example/bitmend/bitmend/PositionalColumns$DataPositions" ∧ Fld Z h o0 "com/example/bitmend/bitmend/PositionalColumns$DataPositions" "this$0" "Lcom/example/bitmend/bitmend/PositionalColumns;" (.ref o1) ∧ Fld Z h o0 "com/example/bitmend/bitmend/PositionalColumns$DataPositions" "checkPosition" "J" (.long (g 0)) ∧ Fld Z h o0 "com/example/bitmend/bitmend/PositionalColumns$DataPositions" "position" "I" (.int (0 : Int32)) ∧ Fld Z h o0 "com/example/bitmend/bitmend/PositionalColumns$DataPositions" "check" "I" (.int (0 : Int32))
set_option maxRecDepth 65536 in
set_option maxHeartbeats 40000000 in
theorem rm7 (l : Launch) (Z : State) (a0 : Array Value) (hw : ∀ d ∈ tables_1, d.before a0 Z = true) (ws : List Jvm.Cond) (o0 : Addr) (o1 : Addr) (a2 : Addr) (n : Nat) (g : Nat → Int64) (h0 : Heap) (n0 : Nat) (E_o0 : Exa Z h0 o0 "com/example/bitmend/bitmend/PositionalColumns$DataPositions") (g_o0 : n0 ≤ o0) (F_o0_this_0 : Fld Z h0 o0 "com/example/bitmend/bitmend/PositionalColumns$DataPositions" "this$0" "Lcom/example/bitmend/bitmend/PositionalColumns;" .null) (F_o0_checkPosition : Fld Z h0 o0 "com/example/bitmend/bitmend/PositionalColumns$DataPositions" "checkPosition" "J" (.long (0 : Int64))) (F_o0_position : Fld Z h0 o0 "com/example/bitmend/bitmend/PositionalColumns$DataPositions" "position" "I" (.int (0 : Int32))) (F_o0_check : Fld Z h0 o0 "com/example/bitmend/bitmend/PositionalColumns$DataPositions" "check" "I" (.int (0 : Int32))) (F_o1_checkPositions : Fld Z h0 o1 "com/example/bitmend/bitmend/PositionalColumns" "checkPositions" "[J" (.ref a2)) (A_a2 : AJ Z h0 a2 .long n g) (ne_o1_o0 : o1 ≠ o0) (ne_a2_o0 : a2 ≠ o0) (hn0 : 0 < n) :
    MetFree l (⟨"com/example/bitmend/bitmend/PositionalColumns$DataPositions", "<init>", "(Lcom/example/bitmend/bitmend/PositionalColumns;)V"⟩ : MethodName) (head1 (Jvm.Cond.code (⟨"com/example/bitmend/bitmend/PositionalColumns$DataPositions", "<init>", "(Lcom/example/bitmend/bitmend/PositionalColumns;)V"⟩ : MethodName) prog_36_method_1_code 2 none :: ws) ({ frames := 1, cells := 0, slots := 0, locals := 12 } : Room)) (fun a U => a = #[(.ref o0), (.ref o1)] ∧ Z.Warmed39 U.vm ∧ U.heap = h0) (fun _ _ _ _ _ => True) (fun _ U o U' => ∃ v L, o = .returned v ∧ Q_f7 Z o0 o1 a2 n g h0 n0 v U'.heap L ∧ FrameEnd U o U' L ({ frames := 1, cells := 0, slots := 0, locals := 12 } : Room).cells ({ frames := 1, cells := 0, slots := 0, locals := 12 } : Room).slots) := by
  refine MetFree.of_bodySF (plainFor_of_name pn_7) hisR ?_
  intro p e s m args below meth c s₁ Bd hml0 hP hK
  obtain ⟨rfl, hZ, hh⟩ := hP
  have hx := Bd.exec
  have hby := Bd.bytes
  have hml : c.maxLocals = 2 := hml0
  have hown : s.vm.findClass "com/example/bitmend/bitmend/PositionalColumns$DataPositions" = some m.cls := findClass_of_methodNamed Bd.named
  have hnm := (name_of_methodNamed Bd.named Bd.method).1
  have hret := Bd.returns
  have hlk : meth.locks = false := BodyLoose.notSynchronized Bd
  have X0 : Stand p l e ({ frames := 1, cells := 0, slots := 0, locals := 12 } : Room) s m #[(.ref o0), (.ref o1)] below meth c s₁ [] 0 0 := Stand.of_body Bd
  have e0 : s₁.heap = h0 := by rw [← hh, Bd.state]; rfl
  have N0 := Fr.nil n0
  show Outs p e below s (Q_f7 Z o0 o1 a2 n g h0 n0) _ _ _
  refine Outs.of (U' := s₁.setTop (mkF m 0 #[.val (.ref o0), .val (.ref o1)] [])) (fun t k => castTop (ef_7 m o0 o1) k) ?_
  refine Outs.of (U' := s₁.setTop (mkF m 2 #[.val (.ref o0), .val (.ref o1)] [(.ref o1), (.ref o0)])) (fun t k => ?_) ?_
  · refine XS.aloadN X0.here hx rfl (hb hby d7_0) rfl rfl ?_
    refine XS.aloadN X0.here hx rfl (hb hby d7_1) rfl rfl ?_
    exact k
  obtain ⟨T1, h1, X1, e1, W1, st1⟩ := putF X0 hx hZ hown (host := "") (Or.inl (hw _ (List.mem_of_getElem? (i := 41) rfl))) Via.refl e0 F_o0_this_0 E_o0 (Or.inr ⟨(hw _ (List.mem_of_getElem? (i := 42) rfl)), rfl, hnm⟩) (hw _ (List.mem_of_getElem? (i := 32) rfl)) (ty := (.object "com/example/bitmend/bitmend/PositionalColumns")) (by decide) rfl rfl (g := (mkF m 2 #[.val (.ref o0), .val (.ref o1)] [(.ref o1), (.ref o0)])) rfl rfl (hb hby d7_2)
  have F1 : Fld Z h1 o0 "com/example/bitmend/bitmend/PositionalColumns$DataPositions" "this$0" "Lcom/example/bitmend/bitmend/PositionalColumns;" (.ref o1) := F_o0_this_0.same W1
  have N1 := Fr.snoc X1 N0 g_o0
  obtain ⟨Lh1, X1, N1⟩ := hide X1 N1 (C := 0) (S := 0) (by decide) (by decide)
  refine Outs.of st1 ?_
  refine Outs.of (U' := T1.setTop (mkF m 6 #[.val (.ref o0), .val (.ref o1)] [(.ref o0)])) (fun t k => ?_) ?_
  · refine XS.aloadN X1.here hx rfl (hb hby d7_5) rfl rfl ?_
    exact k
  obtain ⟨T2, X2, e2, st2⟩ := initO X1 hx hZ hown (hw _ (List.mem_of_getElem? (i := 43) rfl)) (hw _ (List.mem_of_getElem? (i := 7) rfl)) (hw _ (List.mem_of_getElem? (i := 8) rfl)) e1 (g := (mkF m 6 #[.val (.ref o0), .val (.ref o1)] [(.ref o0)])) rfl (by rw [hml]; rfl) rfl (hb hby d7_6) (by decide) (W := 0) (by show 2 * 0 + _ ≤ _; exact Nat.le_of_eq rfl) (by decide)
  refine Outs.of st2 ?_
  refine Outs.of (U' := T2.setTop (mkF m 11 #[.val (.ref o0), .val (.ref o1)] [(.ref o0), (.ref o0)])) (fun t k => ?_) ?_
  · refine XS.aloadN X2.here hx rfl (hb hby d7_9) rfl rfl ?_
    refine XS.aloadN X2.here hx rfl (hb hby d7_10) rfl rfl ?_
    exact k
  obtain ⟨T3, X3, e3, st3⟩ := getF X2 hx hZ hown (host := "") (Or.inl (hw _ (List.mem_of_getElem? (i := 41) rfl))) Via.refl e2 F1 (g := (mkF m 11 #[.val (.ref o0), .val (.ref o1)] [(.ref o0), (.ref o0)])) rfl rfl (hb hby d7_11)
  refine Outs.of st3 ?_
  have f5 : Fld Z h1 o1 "com/example/bitmend/bitmend/PositionalColumns" "checkPositions" "[J" (.ref a2) := (F_o1_checkPositions.other W1 (Or.inl ne_o1_o0))
  obtain ⟨T4, X4, e4, st4⟩ := getF X3 hx hZ hown (Or.inr (hw _ (List.mem_of_getElem? (i := 44) rfl))) Via.refl e3 f5 (g := (mkF m 14 #[.val (.ref o0), .val (.ref o1)] [(.ref o1), (.ref o0)])) rfl rfl (hb hby d7_14)
  refine Outs.of st4 ?_
  refine Outs.of (U' := T4.setTop (mkF m 18 #[.val (.ref o0), .val (.ref o1)] [(.int (0 : Int32)), (.ref a2), (.ref o0)])) (fun t k => ?_) ?_
  · refine XS.iconst X4.here hx rfl (hb hby d7_17) ?_
    exact k
  have f6 : AJ Z h1 a2 .long n g := (A_a2.other W1 ne_a2_o0)
  refine Outs.of (ldJ X4 hx hZ e4 f6 (j := (0 : Int32)) (k := 0) rfl hn0 (f := (mkF m 18 #[.val (.ref o0), .val (.ref o1)] [(.int (0 : Int32)), (.ref a2), (.ref o0)])) rfl rfl (hb hby d7_18)) ?_
  have f8 : Exa Z h1 o0 "com/example/bitmend/bitmend/PositionalColumns$DataPositions" := (E_o0.wr W1)
  have f9 : Fld Z h1 o0 "com/example/bitmend/bitmend/PositionalColumns$DataPositions" "checkPosition" "J" (.long (0 : Int64)) := (F_o0_checkPosition.other W1 (Or.inr (slot_ne (Or.inl (hw _ (List.mem_of_getElem? (i := 46) rfl))) (Or.inr (hw _ (List.mem_of_getElem? (i := 42) rfl))) (by decide) (t := .long) (t' := (.object "com/example/bitmend/bitmend/PositionalColumns")) (by decide) (by decide))))
  obtain ⟨T7, h7, X7, e7, W7, st7⟩ := putF X4 hx hZ hown (host := "") (Or.inl (hw _ (List.mem_of_getElem? (i := 45) rfl))) Via.refl e4 f9 f8 (Or.inl (hw _ (List.mem_of_getElem? (i := 46) rfl))) (hw _ (List.mem_of_getElem? (i := 32) rfl)) (ty := .long) (by decide) rfl rfl (g := (mkF m 19 #[.val (.ref o0), .val (.ref o1)] [(.long (g 0)), (.ref o0)])) rfl rfl (hb hby d7_19)
  have F7 : Fld Z h7 o0 "com/example/bitmend/bitmend/PositionalColumns$DataPositions" "checkPosition" "J" (.long (g 0)) := f9.same W7
  have N7 := Fr.snoc X7 N1 g_o0
  obtain ⟨Lh7, X7, N7⟩ := hide X7 N7 (C := 0) (S := 0) (by decide) (by decide)
  refine Outs.of st7 ?_
  have f10 : Exa Z h7 o0 "com/example/bitmend/bitmend/PositionalColumns$DataPositions" := (f8.wr W7)
  have f11 : Fld Z h7 o0 "com/example/bitmend/bitmend/PositionalColumns$DataPositions" "this$0" "Lcom/example/bitmend/bitmend/PositionalColumns;" (.ref o1) := (F1.other W7 (Or.inr (slot_ne (Or.inr (hw _ (List.mem_of_getElem? (i := 42) rfl))) (Or.inl (hw _ (List.mem_of_getElem? (i := 46) rfl))) (by decide) (t := (.object "com/example/bitmend/bitmend/PositionalColumns")) (t' := .long) (by decide) (by decide))))
  have f12 : Fld Z h7 o0 "com/example/bitmend/bitmend/PositionalColumns$DataPositions" "position" "I" (.int (0 : Int32)) := ((F_o0_position.other W1 (Or.inr (slot_ne (Or.inl (hw _ (List.mem_of_getElem? (i := 53) rfl))) (Or.inr (hw _ (List.mem_of_getElem? (i := 42) rfl))) (by decide) (t := .int) (t' := (.object "com/example/bitmend/bitmend/PositionalColumns")) (by decide) (by decide)))).other W7 (Or.inr (slot_ne (Or.inl (hw _ (List.mem_of_getElem? (i := 53) rfl))) (Or.inl (hw _ (List.mem_of_getElem? (i := 46) rfl))) (by decide) (t := .int) (t' := .long) (by decide) (by decide))))
  have f13 : Fld Z h7 o0 "com/example/bitmend/bitmend/PositionalColumns$DataPositions" "check" "I" (.int (0 : Int32)) := ((F_o0_check.other W1 (Or.inr (slot_ne (Or.inl (hw _ (List.mem_of_getElem? (i := 55) rfl))) (Or.inr (hw _ (List.mem_of_getElem? (i := 42) rfl))) (by decide) (t := .int) (t' := (.object "com/example/bitmend/bitmend/PositionalColumns")) (by decide) (by decide)))).other W7 (Or.inr (slot_ne (Or.inl (hw _ (List.mem_of_getElem? (i := 55) rfl))) (Or.inl (hw _ (List.mem_of_getElem? (i := 46) rfl))) (by decide) (t := .int) (t' := .long) (by decide) (by decide))))
  exact Outs.retV X7 hx hret (hb hby d7_22) hlk (by decide) (by decide) e7 ⟨rfl, N7, (((Keep.refl h0 [o0]).wr W1 (Or.inl (List.mem_of_getElem? (i := 0) rfl))).wr W7 (Or.inl (List.mem_of_getElem? (i := 0) rfl))), f10, f11, F7, f12, f13⟩
theorem ef_8 (m : MethodId) (x0 : Addr) : entryFrame m #[(.ref x0)] 1 = mkF m 0 #[.val (.ref x0)] [] := by first | (simp [entryFrame, mkF, argsToLocals, Value.category]; done) | rfl
theorem d8_0 : decode prog_36_method_2_code 0 = .ok (.aload_n 0, 1) := by decide +kernel
theorem d8_1 : decode prog_36_method_2_code 1 = .ok (.dup, 1) := by decide +kernel
theorem d8_2 : decode prog_36_method_2_code 2 = .ok (.getfield 23, 3) := by decide +kernel
theorem d8_5 : decode prog_36_method_2_code 5 = .ok (.iconst 1, 1) := by decide +kernel
theorem d8_6 : decode prog_36_method_2_code 6 = .ok (.iadd, 1) := by decide +kernel
theorem d8_7 : decode prog_36_method_2_code 7 = .ok (.putfield 23, 3) := by decide +kernel
theorem d8_10 : decode prog_36_method_2_code 10 = .ok (.aload_n 0, 1) := by decide +kernel
theorem d8_11 : decode prog_36_method_2_code 11 = .ok (.getfield 23, 3) := by decide +kernel
theorem d8_14 : decode prog_36_method_2_code 14 = .ok (.i2l, 1) := by decide +kernel
theorem d8_15 : decode prog_36_method_2_code 15 = .ok (.aload_n 0, 1) := by decide +kernel
theorem d8_16 : decode prog_36_method_2_code 16 = .ok (.getfield 19, 3) := by decide +kernel
theorem d8_19 : decode prog_36_method_2_code 19 = .ok (.lcmp, 1) := by decide +kernel
theorem d8_20 : decode prog_36_method_2_code 20 = .ok (.ifCond .ne 42, 3) := by decide +kernel
theorem d8_62 : decode prog_36_method_2_code 62 = .ok (.aload_n 0, 1) := by decide +kernel
theorem d8_63 : decode prog_36_method_2_code 63 = .ok (.getfield 23, 3) := by decide +kernel
theorem d8_66 : decode prog_36_method_2_code 66 = .ok (.ireturn, 1) := by decide +kernel
def F_nx0 (pv : Int32) (cv : Int32) (cp : Int64) (n : Nat) (g : Nat → Int64) : Int32 := (pv + (1 : Int32))
def Q_nx0 (Z : State) (o0 : Addr) (pv : Int32) (cv : Int32) (cp : Int64) (a1 : Addr) (a2 : Addr) (n : Nat) (g : Nat → Int64) (h0 : Heap) (n0 : Nat) (v : Option Value) (h : Heap) (L : List Loc) : Prop := v = some (.int (F_nx0 pv cv cp n g)) ∧ Fr n0 L ∧ Keep h0 h [o0] ∧ Exa Z h o0 "com/example/bitmend/bitmend/PositionalColumns$DataPositions" ∧ Fld Z h o0 "com/example/bitmend/bitmend/PositionalColumns$DataPositions" "this$0" "Lcom/example/bitmend/bitmend/PositionalColumns;" (.ref a1) ∧ Fld Z h o0 "com/example/bitmend/bitmend/PositionalColumns$DataPositions" "position" "I" (.int (pv + (1 : Int32))) ∧ Fld Z h o0 "com/example/bitmend/bitmend/PositionalColumns$DataPositions" "check" "I" (.int cv) ∧ Fld Z h o0 "com/example/bitmend/bitmend/PositionalColumns$DataPositions" "checkPosition" "J" (.long cp)
set_option maxRecDepth 65536 in
set_option maxHeartbeats 40000000 in
theorem rmnx0 (l : Launch) (Z : State) (a0 : Array Value) (hw : ∀ d ∈ tables_1, d.before a0 Z = true) (ws : List Jvm.Cond) (o0 : Addr) (pv : Int32) (cv : Int32) (cp : Int64) (a1 : Addr) (a2 : Addr) (n : Nat) (g : Nat → Int64) (h0 : Heap) (n0 : Nat) (E_o0 : Exa Z h0 o0 "com/example/bitmend/bitmend/PositionalColumns$DataPositions") (g_o0 : n0 ≤ o0) (F_o0_position : Fld Z h0 o0 "com/example/bitmend/bitmend/PositionalColumns$DataPositions" "position" "I" (.int pv)) (F_o0_check : Fld Z h0 o0 "com/example/bitmend/bitmend/PositionalColumns$DataPositions" "check" "I" (.int cv)) (F_o0_checkPosition : Fld Z h0 o0 "com/example/bitmend/bitmend/PositionalColumns$DataPositions" "checkPosition" "J" (.long cp)) (F_o0_this_0 : Fld Z h0 o0 "com/example/bitmend/bitmend/PositionalColumns$DataPositions" "this$0" "Lcom/example/bitmend/bitmend/PositionalColumns;" (.ref a1)) (F_a1_checkPositions : Fld Z h0 a1 "com/example/bitmend/bitmend/PositionalColumns" "checkPositions" "[J" (.ref a2)) (A_a2 : AJ Z h0 a2 .long n g) (ne_a1_o0 : a1 ≠ o0) (ne_a2_o0 : a2 ≠ o0) (c0 : ¬ (((pv + (1 : Int32)).toInt64) = cp)) :
    MetFree l (⟨"com/example/bitmend/bitmend/PositionalColumns$DataPositions", "next", "()I"⟩ : MethodName) (head1 (Jvm.Cond.code (⟨"com/example/bitmend/bitmend/PositionalColumns$DataPositions", "next", "()I"⟩ : MethodName) prog_36_method_2_code 1 (some .int) :: ws) ({ frames := 0, cells := 0, slots := 0, locals := 0 } : Room)) (fun a U => a = #[(.ref o0)] ∧ Z.Warmed39 U.vm ∧ U.heap = h0) (fun _ _ _ _ _ => True) (fun _ U o U' => ∃ v L, o = .returned v ∧ Q_nx0 Z o0 pv cv cp a1 a2 n g h0 n0 v U'.heap L ∧ FrameEnd U o U' L ({ frames := 0, cells := 0, slots := 0, locals := 0 } : Room).cells ({ frames := 0, cells := 0, slots := 0, locals := 0 } : Room).slots) := by
  refine MetFree.of_bodySF (plainFor_of_name pn_7) hisR ?_
  intro p e s m args below meth c s₁ Bd hml0 hP hK
  obtain ⟨rfl, hZ, hh⟩ := hP
  have hx := Bd.exec
  have hby := Bd.bytes
  have hml : c.maxLocals = 1 := hml0
  have hown : s.vm.findClass "com/example/bitmend/bitmend/PositionalColumns$DataPositions" = some m.cls := findClass_of_methodNamed Bd.named
  have hnm := (name_of_methodNamed Bd.named Bd.method).1
  have hret := Bd.returns
  have hlk : meth.locks = false := BodyLoose.notSynchronized Bd
  have X0 : Stand p l e ({ frames := 0, cells := 0, slots := 0, locals := 0 } : Room) s m #[(.ref o0)] below meth c s₁ [] 0 0 := Stand.of_body Bd
  have e0 : s₁.heap = h0 := by rw [← hh, Bd.state]; rfl
  have N0 := Fr.nil n0
  show Outs p e below s (Q_nx0 Z o0 pv cv cp a1 a2 n g h0 n0) _ _ _
  refine Outs.of (U' := s₁.setTop (mkF m 0 #[.val (.ref o0)] [])) (fun t k => castTop (ef_8 m o0) k) ?_
  refine Outs.of (U' := s₁.setTop (mkF m 2 #[.val (.ref o0)] [(.ref o0), (.ref o0)])) (fun t k => ?_) ?_
  · refine XS.aloadN X0.here hx rfl (hb hby d8_0) rfl rfl ?_
    refine XS.dup X0.here hx rfl (hb hby d8_1) rfl rfl ?_
    exact k
  obtain ⟨T1, X1, e1, st1⟩ := getF X0 hx hZ hown (host := "") (Or.inl (hw _ (List.mem_of_getElem? (i := 52) rfl))) Via.refl e0 F_o0_position (g := (mkF m 2 #[.val (.ref o0)] [(.ref o0), (.ref o0)])) rfl rfl (hb hby d8_2)
  refine Outs.of st1 ?_
  refine Outs.of (U' := T1.setTop (mkF m 7 #[.val (.ref o0)] [(.int (pv + (1 : Int32))), (.ref o0)])) (fun t k => ?_) ?_
  · refine XS.iconst X1.here hx rfl (hb hby d8_5) ?_
    refine XS.iadd X1.here hx rfl (hb hby d8_6) rfl ?_
    exact k
  obtain ⟨T2, h2, X2, e2, W2, st2⟩ := putF X1 hx hZ hown (host := "") (Or.inl (hw _ (List.mem_of_getElem? (i := 52) rfl))) Via.refl e1 F_o0_position E_o0 (Or.inl (hw _ (List.mem_of_getElem? (i := 53) rfl))) (hw _ (List.mem_of_getElem? (i := 32) rfl)) (ty := .int) (by decide) rfl rfl (g := (mkF m 7 #[.val (.ref o0)] [(.int (pv + (1 : Int32))), (.ref o0)])) rfl rfl (hb hby d8_7)
  have F2 : Fld Z h2 o0 "com/example/bitmend/bitmend/PositionalColumns$DataPositions" "position" "I" (.int (pv + (1 : Int32))) := F_o0_position.same W2
  have N2 := Fr.snoc X2 N0 g_o0
  obtain ⟨Lh2, X2, N2⟩ := hide X2 N2 (C := 0) (S := 0) (by decide) (by decide)
  refine Outs.of st2 ?_
  refine Outs.of (U' := T2.setTop (mkF m 11 #[.val (.ref o0)] [(.ref o0)])) (fun t k => ?_) ?_
  · refine XS.aloadN X2.here hx rfl (hb hby d8_10) rfl rfl ?_
    exact k
  obtain ⟨T3, X3, e3, st3⟩ := getF X2 hx hZ hown (host := "") (Or.inl (hw _ (List.mem_of_getElem? (i := 52) rfl))) Via.refl e2 F2 (g := (mkF m 11 #[.val (.ref o0)] [(.ref o0)])) rfl rfl (hb hby d8_11)
  refine Outs.of st3 ?_
  refine Outs.of (U' := T3.setTop (mkF m 16 #[.val (.ref o0)] [(.ref o0), (.long ((pv + (1 : Int32)).toInt64))])) (fun t k => ?_) ?_
  · refine XS.i2l X3.here hx rfl (hb hby d8_14) rfl ?_
    refine XS.aloadN X3.here hx rfl (hb hby d8_15) rfl rfl ?_
    exact k
  have f5 : Fld Z h2 o0 "com/example/bitmend/bitmend/PositionalColumns$DataPositions" "checkPosition" "J" (.long cp) := (F_o0_checkPosition.other W2 (Or.inr (slot_ne (Or.inl (hw _ (List.mem_of_getElem? (i := 46) rfl))) (Or.inl (hw _ (List.mem_of_getElem? (i := 53) rfl))) (by decide) (t := .long) (t' := .int) (by decide) (by decide))))
  obtain ⟨T4, X4, e4, st4⟩ := getF X3 hx hZ hown (host := "") (Or.inl (hw _ (List.mem_of_getElem? (i := 45) rfl))) Via.refl e3 f5 (g := (mkF m 16 #[.val (.ref o0)] [(.ref o0), (.long ((pv + (1 : Int32)).toInt64))])) rfl rfl (hb hby d8_16)
  refine Outs.of st4 ?_
  refine Outs.of (U' := T4.setTop (mkF m 63 #[.val (.ref o0)] [(.ref o0)])) (fun t k => ?_) ?_
  · refine XS.lcmp X4.here hx rfl (hb hby d8_19) rfl ?_
    refine XS.ifYes X4.here hx rfl (pc0 := 20) (pc' := 62) rfl (hb hby d8_20) rfl ((if0 _ _).trans (feq (fun q_ => c0 ((lw_eq _ _).mp q_))).2) (by decide) (by decide) ?_
    refine XS.aloadN X4.here hx rfl (hb hby d8_62) rfl rfl ?_
    exact k
  obtain ⟨T6, X6, e6, st6⟩ := getF X4 hx hZ hown (host := "") (Or.inl (hw _ (List.mem_of_getElem? (i := 52) rfl))) Via.refl e4 F2 (g := (mkF m 63 #[.val (.ref o0)] [(.ref o0)])) rfl rfl (hb hby d8_63)
  refine Outs.of st6 ?_
  have f7 : Exa Z h2 o0 "com/example/bitmend/bitmend/PositionalColumns$DataPositions" := (E_o0.wr W2)
  have f8 : Fld Z h2 o0 "com/example/bitmend/bitmend/PositionalColumns$DataPositions" "this$0" "Lcom/example/bitmend/bitmend/PositionalColumns;" (.ref a1) := (F_o0_this_0.other W2 (Or.inr (slot_ne (Or.inr (hw _ (List.mem_of_getElem? (i := 42) rfl))) (Or.inl (hw _ (List.mem_of_getElem? (i := 53) rfl))) (by decide) (t := (.object "com/example/bitmend/bitmend/PositionalColumns")) (t' := .int) (by decide) (by decide))))
  have f9 : Fld Z h2 o0 "com/example/bitmend/bitmend/PositionalColumns$DataPositions" "check" "I" (.int cv) := (F_o0_check.other W2 (Or.inr (slot_ne (Or.inl (hw _ (List.mem_of_getElem? (i := 55) rfl))) (Or.inl (hw _ (List.mem_of_getElem? (i := 53) rfl))) (by decide) (t := .int) (t' := .int) (by decide) (by decide))))
  exact Outs.retI X6 hx hret (hb hby d8_66) hlk (by decide) (by decide) e6 ⟨congrArg (fun z_ => some (Value.int z_)) (show (F_nx0 pv cv cp n g) = (pv + (1 : Int32)) from rfl).symm, N2, ((Keep.refl h0 [o0]).wr W2 (Or.inl (List.mem_of_getElem? (i := 0) rfl))), f7, f8, F2, f9, f5⟩
theorem d8_23 : decode prog_36_method_2_code 23 = .ok (.aload_n 0, 1) := by decide +kernel
theorem d8_24 : decode prog_36_method_2_code 24 = .ok (.dup, 1) := by decide +kernel
theorem d8_25 : decode prog_36_method_2_code 25 = .ok (.getfield 27, 3) := by decide +kernel
theorem d8_28 : decode prog_36_method_2_code 28 = .ok (.iconst 1, 1) := by decide +kernel
theorem d8_29 : decode prog_36_method_2_code 29 = .ok (.iadd, 1) := by decide +kernel
theorem d8_30 : decode prog_36_method_2_code 30 = .ok (.putfield 27, 3) := by decide +kernel
theorem d8_33 : decode prog_36_method_2_code 33 = .ok (.aload_n 0, 1) := by decide +kernel
theorem d8_34 : decode prog_36_method_2_code 34 = .ok (.aload_n 0, 1) := by decide +kernel
theorem d8_35 : decode prog_36_method_2_code 35 = .ok (.getfield 1, 3) := by decide +kernel
theorem d8_38 : decode prog_36_method_2_code 38 = .ok (.getfield 13, 3) := by decide +kernel
theorem d8_41 : decode prog_36_method_2_code 41 = .ok (.aload_n 0, 1) := by decide +kernel
theorem d8_42 : decode prog_36_method_2_code 42 = .ok (.getfield 27, 3) := by decide +kernel
theorem d8_45 : decode prog_36_method_2_code 45 = .ok (.laload, 1) := by decide +kernel
theorem d8_46 : decode prog_36_method_2_code 46 = .ok (.putfield 19, 3) := by decide +kernel
theorem d8_49 : decode prog_36_method_2_code 49 = .ok (.aload_n 0, 1) := by decide +kernel
theorem d8_50 : decode prog_36_method_2_code 50 = .ok (.dup, 1) := by decide +kernel
theorem d8_51 : decode prog_36_method_2_code 51 = .ok (.getfield 23, 3) := by decide +kernel
theorem d8_54 : decode prog_36_method_2_code 54 = .ok (.iconst 1, 1) := by decide +kernel
theorem d8_55 : decode prog_36_method_2_code 55 = .ok (.iadd, 1) := by decide +kernel
theorem d8_56 : decode prog_36_method_2_code 56 = .ok (.putfield 23, 3) := by decide +kernel
theorem d8_59 : decode prog_36_method_2_code 59 = .ok (.goto (-49), 3) := by decide +kernel
def F_nx1 (pv : Int32) (cv : Int32) (cp : Int64) (n : Nat) (g : Nat → Int64) (k0 : Nat) : Int32 := ((pv + (1 : Int32)) + (1 : Int32))
def Q_nx1 (Z : State) (o0 : Addr) (pv : Int32) (cv : Int32) (cp : Int64) (a1 : Addr) (a2 : Addr) (n : Nat) (g : Nat → Int64) (k0 : Nat) (h0 : Heap) (n0 : Nat) (v : Option Value) (h : Heap) (L : List Loc) : Prop := v = some (.int (F_nx1 pv cv cp n g k0)) ∧ Fr n0 L ∧ Keep h0 h [o0] ∧ Exa Z h o0 "com/example/bitmend/bitmend/PositionalColumns$DataPositions" ∧ Fld Z h o0 "com/example/bitmend/bitmend/PositionalColumns$DataPositions" "this$0" "Lcom/example/bitmend/bitmend/PositionalColumns;" (.ref a1) ∧ Fld Z h o0 "com/example/bitmend/bitmend/PositionalColumns$DataPositions" "position" "I" (.int ((pv + (1 : Int32)) + (1 : Int32))) ∧ Fld Z h o0 "com/example/bitmend/bitmend/PositionalColumns$DataPositions" "check" "I" (.int (cv + (1 : Int32))) ∧ Fld Z h o0 "com/example/bitmend/bitmend/PositionalColumns$DataPositions" "checkPosition" "J" (.long (g k0))
set_option maxRecDepth 65536 in
set_option maxHeartbeats 40000000 in
theorem rmnx1 (l : Launch) (Z : State) (a0 : Array Value) (hw : ∀ d ∈ tables_1, d.before a0 Z = true) (ws : List Jvm.Cond) (o0 : Addr) (pv : Int32) (cv : Int32) (cp : Int64) (a1 : Addr) (a2 : Addr) (n : Nat) (g : Nat → Int64) (k0 : Nat) (h0 : Heap) (n0 : Nat) (E_o0 : Exa Z h0 o0 "com/example/bitmend/bitmend/PositionalColumns$DataPositions") (g_o0 : n0 ≤ o0) (F_o0_position : Fld Z h0 o0 "com/example/bitmend/bitmend/PositionalColumns$DataPositions" "position" "I" (.int pv)) (F_o0_check : Fld Z h0 o0 "com/example/bitmend/bitmend/PositionalColumns$DataPositions" "check" "I" (.int cv)) (F_o0_checkPosition : Fld Z h0 o0 "com/example/bitmend/bitmend/PositionalColumns$DataPositions" "checkPosition" "J" (.long cp)) (F_o0_this_0 : Fld Z h0 o0 "com/example/bitmend/bitmend/PositionalColumns$DataPositions" "this$0" "Lcom/example/bitmend/bitmend/PositionalColumns;" (.ref a1)) (F_a1_checkPositions : Fld Z h0 a1 "com/example/bitmend/bitmend/PositionalColumns" "checkPositions" "[J" (.ref a2)) (A_a2 : AJ Z h0 a2 .long n g) (ne_a1_o0 : a1 ≠ o0) (ne_a2_o0 : a2 ≠ o0) (c0 : ((pv + (1 : Int32)).toInt64) = cp) (ix0 : (cv + (1 : Int32)).toInt = (k0 : Int) ∧ k0 < n) (c1 : ¬ ((((pv + (1 : Int32)) + (1 : Int32)).toInt64) = (g k0))) :
    MetFree l (⟨"com/example/bitmend/bitmend/PositionalColumns$DataPositions", "next", "()I"⟩ : MethodName) (head1 (Jvm.Cond.code (⟨"com/example/bitmend/bitmend/PositionalColumns$DataPositions", "next", "()I"⟩ : MethodName) prog_36_method_2_code 1 (some .int) :: ws) ({ frames := 0, cells := 0, slots := 0, locals := 0 } : Room)) (fun a U => a = #[(.ref o0)] ∧ Z.Warmed39 U.vm ∧ U.heap = h0) (fun _ _ _ _ _ => True) (fun _ U o U' => ∃ v L, o = .returned v ∧ Q_nx1 Z o0 pv cv cp a1 a2 n g k0 h0 n0 v U'.heap L ∧ FrameEnd U o U' L ({ frames := 0, cells := 0, slots := 0, locals := 0 } : Room).cells ({ frames := 0, cells := 0, slots := 0, locals := 0 } : Room).slots) := by
  refine MetFree.of_bodySF (plainFor_of_name pn_7) hisR ?_
  intro p e s m args below meth c s₁ Bd hml0 hP hK
  obtain ⟨rfl, hZ, hh⟩ := hP
  have hx := Bd.exec
  have hby := Bd.bytes
  have hml : c.maxLocals = 1 := hml0
  have hown : s.vm.findClass "com/example/bitmend/bitmend/PositionalColumns$DataPositions" = some m.cls := findClass_of_methodNamed Bd.named
  have hnm := (name_of_methodNamed Bd.named Bd.method).1
  have hret := Bd.returns
  have hlk : meth.locks = false := BodyLoose.notSynchronized Bd
  have X0 : Stand p l e ({ frames := 0, cells := 0, slots := 0, locals := 0 } : Room) s m #[(.ref o0)] below meth c s₁ [] 0 0 := Stand.of_body Bd
  have e0 : s₁.heap = h0 := by rw [← hh, Bd.state]; rfl
  have N0 := Fr.nil n0
  show Outs p e below s (Q_nx1 Z o0 pv cv cp a1 a2 n g k0 h0 n0) _ _ _
  refine Outs.of (U' := s₁.setTop (mkF m 0 #[.val (.ref o0)] [])) (fun t k => castTop (ef_8 m o0) k) ?_
  refine Outs.of (U' := s₁.setTop (mkF m 2 #[.val (.ref o0)] [(.ref o0), (.ref o0)])) (fun t k => ?_) ?_
  · refine XS.aloadN X0.here hx rfl (hb hby d8_0) rfl rfl ?_
    refine XS.dup X0.here hx rfl (hb hby d8_1) rfl rfl ?_
    exact k
  obtain ⟨T1, X1, e1, st1⟩ := getF X0 hx hZ hown (host := "") (Or.inl (hw _ (List.mem_of_getElem? (i := 52) rfl))) Via.refl e0 F_o0_position (g := (mkF m 2 #[.val (.ref o0)] [(.ref o0), (.ref o0)])) rfl rfl (hb hby d8_2)
  refine Outs.of st1 ?_
  refine Outs.of (U' := T1.setTop (mkF m 7 #[.val (.ref o0)] [(.int (pv + (1 : Int32))), (.ref o0)])) (fun t k => ?_) ?_
  · refine XS.iconst X1.here hx rfl (hb hby d8_5) ?_
    refine XS.iadd X1.here hx rfl (hb hby d8_6) rfl ?_
    exact k
  obtain ⟨T2, h2, X2, e2, W2, st2⟩ := putF X1 hx hZ hown (host := "") (Or.inl (hw _ (List.mem_of_getElem? (i := 52) rfl))) Via.refl e1 F_o0_position E_o0 (Or.inl (hw _ (List.mem_of_getElem? (i := 53) rfl))) (hw _ (List.mem_of_getElem? (i := 32) rfl)) (ty := .int) (by decide) rfl rfl (g := (mkF m 7 #[.val (.ref o0)] [(.int (pv + (1 : Int32))), (.ref o0)])) rfl rfl (hb hby d8_7)
  have F2 : Fld Z h2 o0 "com/example/bitmend/bitmend/PositionalColumns$DataPositions" "position" "I" (.int (pv + (1 : Int32))) := F_o0_position.same W2
  have N2 := Fr.snoc X2 N0 g_o0
  obtain ⟨Lh2, X2, N2⟩ := hide X2 N2 (C := 0) (S := 0) (by decide) (by decide)
  refine Outs.of st2 ?_
  refine Outs.of (U' := T2.setTop (mkF m 11 #[.val (.ref o0)] [(.ref o0)])) (fun t k => ?_) ?_
  · refine XS.aloadN X2.here hx rfl (hb hby d8_10) rfl rfl ?_
    exact k
  obtain ⟨T3, X3, e3, st3⟩ := getF X2 hx hZ hown (host := "") (Or.inl (hw _ (List.mem_of_getElem? (i := 52) rfl))) Via.refl e2 F2 (g := (mkF m 11 #[.val (.ref o0)] [(.ref o0)])) rfl rfl (hb hby d8_11)
  refine Outs.of st3 ?_
  refine Outs.of (U' := T3.setTop (mkF m 16 #[.val (.ref o0)] [(.ref o0), (.long ((pv + (1 : Int32)).toInt64))])) (fun t k => ?_) ?_
  · refine XS.i2l X3.here hx rfl (hb hby d8_14) rfl ?_
    refine XS.aloadN X3.here hx rfl (hb hby d8_15) rfl rfl ?_
    exact k
  have f5 : Fld Z h2 o0 "com/example/bitmend/bitmend/PositionalColumns$DataPositions" "checkPosition" "J" (.long cp) := (F_o0_checkPosition.other W2 (Or.inr (slot_ne (Or.inl (hw _ (List.mem_of_getElem? (i := 46) rfl))) (Or.inl (hw _ (List.mem_of_getElem? (i := 53) rfl))) (by decide) (t := .long) (t' := .int) (by decide) (by decide))))
  obtain ⟨T4, X4, e4, st4⟩ := getF X3 hx hZ hown (host := "") (Or.inl (hw _ (List.mem_of_getElem? (i := 45) rfl))) Via.refl e3 f5 (g := (mkF m 16 #[.val (.ref o0)] [(.ref o0), (.long ((pv + (1 : Int32)).toInt64))])) rfl rfl (hb hby d8_16)
  refine Outs.of st4 ?_
  refine Outs.of (U' := T4.setTop (mkF m 25 #[.val (.ref o0)] [(.ref o0), (.ref o0)])) (fun t k => ?_) ?_
  · refine XS.lcmp X4.here hx rfl (hb hby d8_19) rfl ?_
    refine XS.ifNo X4.here hx rfl (hb hby d8_20) rfl ((if0 _ _).trans (teq ((lw_eq _ _).mpr c0)).2) ?_
    refine XS.aloadN X4.here hx rfl (hb hby d8_23) rfl rfl ?_
    refine XS.dup X4.here hx rfl (hb hby d8_24) rfl rfl ?_
    exact k
  have f7 : Fld Z h2 o0 "com/example/bitmend/bitmend/PositionalColumns$DataPositions" "check" "I" (.int cv) := (F_o0_check.other W2 (Or.inr (slot_ne (Or.inl (hw _ (List.mem_of_getElem? (i := 55) rfl))) (Or.inl (hw _ (List.mem_of_getElem? (i := 53) rfl))) (by decide) (t := .int) (t' := .int) (by decide) (by decide))))
  obtain ⟨T6, X6, e6, st6⟩ := getF X4 hx hZ hown (host := "") (Or.inl (hw _ (List.mem_of_getElem? (i := 54) rfl))) Via.refl e4 f7 (g := (mkF m 25 #[.val (.ref o0)] [(.ref o0), (.ref o0)])) rfl rfl (hb hby d8_25)
  refine Outs.of st6 ?_
  refine Outs.of (U' := T6.setTop (mkF m 30 #[.val (.ref o0)] [(.int (cv + (1 : Int32))), (.ref o0)])) (fun t k => ?_) ?_
  · refine XS.iconst X6.here hx rfl (hb hby d8_28) ?_
    refine XS.iadd X6.here hx rfl (hb hby d8_29) rfl ?_
    exact k
  have f9 : Exa Z h2 o0 "com/example/bitmend/bitmend/PositionalColumns$DataPositions" := (E_o0.wr W2)
  obtain ⟨T8, h8, X8, e8, W8, st8⟩ := putF X6 hx hZ hown (host := "") (Or.inl (hw _ (List.mem_of_getElem? (i := 54) rfl))) Via.refl e6 f7 f9 (Or.inl (hw _ (List.mem_of_getElem? (i := 55) rfl))) (hw _ (List.mem_of_getElem? (i := 32) rfl)) (ty := .int) (by decide) rfl rfl (g := (mkF m 30 #[.val (.ref o0)] [(.int (cv + (1 : Int32))), (.ref o0)])) rfl rfl (hb hby d8_30)
  have F8 : Fld Z h8 o0 "com/example/bitmend/bitmend/PositionalColumns$DataPositions" "check" "I" (.int (cv + (1 : Int32))) := f7.same W8
  have N8 := Fr.snoc X8 N2 g_o0
  obtain ⟨Lh8, X8, N8⟩ := hide X8 N8 (C := 0) (S := 0) (by decide) (by decide)
  refine Outs.of st8 ?_
  refine Outs.of (U' := T8.setTop (mkF m 35 #[.val (.ref o0)] [(.ref o0), (.ref o0)])) (fun t k => ?_) ?_
  · refine XS.aloadN X8.here hx rfl (hb hby d8_33) rfl rfl ?_
    refine XS.aloadN X8.here hx rfl (hb hby d8_34) rfl rfl ?_
    exact k
  have f11 : Fld Z h8 o0 "com/example/bitmend/bitmend/PositionalColumns$DataPositions" "this$0" "Lcom/example/bitmend/bitmend/PositionalColumns;" (.ref a1) := ((F_o0_this_0.other W2 (Or.inr (slot_ne (Or.inr (hw _ (List.mem_of_getElem? (i := 42) rfl))) (Or.inl (hw _ (List.mem_of_getElem? (i := 53) rfl))) (by decide) (t := (.object "com/example/bitmend/bitmend/PositionalColumns")) (t' := .int) (by decide) (by decide)))).other W8 (Or.inr (slot_ne (Or.inr (hw _ (List.mem_of_getElem? (i := 42) rfl))) (Or.inl (hw _ (List.mem_of_getElem? (i := 55) rfl))) (by decide) (t := (.object "com/example/bitmend/bitmend/PositionalColumns")) (t' := .int) (by decide) (by decide))))
  obtain ⟨T10, X10, e10, st10⟩ := getF X8 hx hZ hown (host := "") (Or.inl (hw _ (List.mem_of_getElem? (i := 41) rfl))) Via.refl e8 f11 (g := (mkF m 35 #[.val (.ref o0)] [(.ref o0), (.ref o0)])) rfl rfl (hb hby d8_35)
  refine Outs.of st10 ?_
  have f13 : Fld Z h8 a1 "com/example/bitmend/bitmend/PositionalColumns" "checkPositions" "[J" (.ref a2) := ((F_a1_checkPositions.other W2 (Or.inl ne_a1_o0)).other W8 (Or.inl ne_a1_o0))
  obtain ⟨T12, X12, e12, st12⟩ := getF X10 hx hZ hown (Or.inr (hw _ (List.mem_of_getElem? (i := 44) rfl))) Via.refl e10 f13 (g := (mkF m 38 #[.val (.ref o0)] [(.ref a1), (.ref o0)])) rfl rfl (hb hby d8_38)
  refine Outs.of st12 ?_
  refine Outs.of (U' := T12.setTop (mkF m 42 #[.val (.ref o0)] [(.ref o0), (.ref a2), (.ref o0)])) (fun t k => ?_) ?_
  · refine XS.aloadN X12.here hx rfl (hb hby d8_41) rfl rfl ?_
    exact k
  obtain ⟨T14, X14, e14, st14⟩ := getF X12 hx hZ hown (host := "") (Or.inl (hw _ (List.mem_of_getElem? (i := 54) rfl))) Via.refl e12 F8 (g := (mkF m 42 #[.val (.ref o0)] [(.ref o0), (.ref a2), (.ref o0)])) rfl rfl (hb hby d8_42)
  refine Outs.of st14 ?_
  have f15 : AJ Z h8 a2 .long n g := ((A_a2.other W2 ne_a2_o0).other W8 ne_a2_o0)
  refine Outs.of (ldJ X14 hx hZ e14 f15 (j := (cv + (1 : Int32))) (k := k0) ix0.1 ix0.2 (f := (mkF m 45 #[.val (.ref o0)] [(.int (cv + (1 : Int32))), (.ref a2), (.ref o0)])) rfl rfl (hb hby d8_45)) ?_
  have f17 : Exa Z h8 o0 "com/example/bitmend/bitmend/PositionalColumns$DataPositions" := (f9.wr W8)
  have f18 : Fld Z h8 o0 "com/example/bitmend/bitmend/PositionalColumns$DataPositions" "checkPosition" "J" (.long cp) := (f5.other W8 (Or.inr (slot_ne (Or.inl (hw _ (List.mem_of_getElem? (i := 46) rfl))) (Or.inl (hw _ (List.mem_of_getElem? (i := 55) rfl))) (by decide) (t := .long) (t' := .int) (by decide) (by decide))))
  obtain ⟨T16, h16, X16, e16, W16, st16⟩ := putF X14 hx hZ hown (host := "") (Or.inl (hw _ (List.mem_of_getElem? (i := 45) rfl))) Via.refl e14 f18 f17 (Or.inl (hw _ (List.mem_of_getElem? (i := 46) rfl))) (hw _ (List.mem_of_getElem? (i := 32) rfl)) (ty := .long) (by decide) rfl rfl (g := (mkF m 46 #[.val (.ref o0)] [(.long (g k0)), (.ref o0)])) rfl rfl (hb hby d8_46)
  have F16 : Fld Z h16 o0 "com/example/bitmend/bitmend/PositionalColumns$DataPositions" "checkPosition" "J" (.long (g k0)) := f18.same W16
  have N16 := Fr.snoc X16 N8 g_o0
  obtain ⟨Lh16, X16, N16⟩ := hide X16 N16 (C := 0) (S := 0) (by decide) (by decide)
  refine Outs.of st16 ?_
  refine Outs.of (U' := T16.setTop (mkF m 51 #[.val (.ref o0)] [(.ref o0), (.ref o0)])) (fun t k => ?_) ?_
  · refine XS.aloadN X16.here hx rfl (hb hby d8_49) rfl rfl ?_
    refine XS.dup X16.here hx rfl (hb hby d8_50) rfl rfl ?_
    exact k
  have f20 : Fld Z h16 o0 "com/example/bitmend/bitmend/PositionalColumns$DataPositions" "position" "I" (.int (pv + (1 : Int32))) := ((F2.other W8 (Or.inr (slot_ne (Or.inl (hw _ (List.mem_of_getElem? (i := 53) rfl))) (Or.inl (hw _ (List.mem_of_getElem? (i := 55) rfl))) (by decide) (t := .int) (t' := .int) (by decide) (by decide)))).other W16 (Or.inr (slot_ne (Or.inl (hw _ (List.mem_of_getElem? (i := 53) rfl))) (Or.inl (hw _ (List.mem_of_getElem? (i := 46) rfl))) (by decide) (t := .int) (t' := .long) (by decide) (by decide))))
  obtain ⟨T19, X19, e19, st19⟩ := getF X16 hx hZ hown (host := "") (Or.inl (hw _ (List.mem_of_getElem? (i := 52) rfl))) Via.refl e16 f20 (g := (mkF m 51 #[.val (.ref o0)] [(.ref o0), (.ref o0)])) rfl rfl (hb hby d8_51)
  refine Outs.of st19 ?_
  refine Outs.of (U' := T19.setTop (mkF m 56 #[.val (.ref o0)] [(.int ((pv + (1 : Int32)) + (1 : Int32))), (.ref o0)])) (fun t k => ?_) ?_
  · refine XS.iconst X19.here hx rfl (hb hby d8_54) ?_
    refine XS.iadd X19.here hx rfl (hb hby d8_55) rfl ?_
    exact k
  have f22 : Exa Z h16 o0 "com/example/bitmend/bitmend/PositionalColumns$DataPositions" := (f17.wr W16)
  obtain ⟨T21, h21, X21, e21, W21, st21⟩ := putF X19 hx hZ hown (host := "") (Or.inl (hw _ (List.mem_of_getElem? (i := 52) rfl))) Via.refl e19 f20 f22 (Or.inl (hw _ (List.mem_of_getElem? (i := 53) rfl))) (hw _ (List.mem_of_getElem? (i := 32) rfl)) (ty := .int) (by decide) rfl rfl (g := (mkF m 56 #[.val (.ref o0)] [(.int ((pv + (1 : Int32)) + (1 : Int32))), (.ref o0)])) rfl rfl (hb hby d8_56)
  have F21 : Fld Z h21 o0 "com/example/bitmend/bitmend/PositionalColumns$DataPositions" "position" "I" (.int ((pv + (1 : Int32)) + (1 : Int32))) := f20.same W21
  have N21 := Fr.snoc X21 N16 g_o0
  obtain ⟨Lh21, X21, N21⟩ := hide X21 N21 (C := 0) (S := 0) (by decide) (by decide)
  refine Outs.of st21 ?_
  refine Outs.of (U' := T21.setTop (mkF m 11 #[.val (.ref o0)] [(.ref o0)])) (fun t k => ?_) ?_
  · refine XS.goto X21.here hx rfl (pc0 := 59) (pc' := 10) rfl (hb hby d8_59) (by decide) (by decide) ?_
    refine XS.aloadN X21.here hx rfl (hb hby d8_10) rfl rfl ?_
    exact k
  obtain ⟨T23, X23, e23, st23⟩ := getF X21 hx hZ hown (host := "") (Or.inl (hw _ (List.mem_of_getElem? (i := 52) rfl))) Via.refl e21 F21 (g := (mkF m 11 #[.val (.ref o0)] [(.ref o0)])) rfl rfl (hb hby d8_11)
  refine Outs.of st23 ?_
  refine Outs.of (U' := T23.setTop (mkF m 16 #[.val (.ref o0)] [(.ref o0), (.long (((pv + (1 : Int32)) + (1 : Int32)).toInt64))])) (fun t k => ?_) ?_
  · refine XS.i2l X23.here hx rfl (hb hby d8_14) rfl ?_
    refine XS.aloadN X23.here hx rfl (hb hby d8_15) rfl rfl ?_
    exact k
  have f25 : Fld Z h21 o0 "com/example/bitmend/bitmend/PositionalColumns$DataPositions" "checkPosition" "J" (.long (g k0)) := (F16.other W21 (Or.inr (slot_ne (Or.inl (hw _ (List.mem_of_getElem? (i := 46) rfl))) (Or.inl (hw _ (List.mem_of_getElem? (i := 53) rfl))) (by decide) (t := .long) (t' := .int) (by decide) (by decide))))
  obtain ⟨T24, X24, e24, st24⟩ := getF X23 hx hZ hown (host := "") (Or.inl (hw _ (List.mem_of_getElem? (i := 45) rfl))) Via.refl e23 f25 (g := (mkF m 16 #[.val (.ref o0)] [(.ref o0), (.long (((pv + (1 : Int32)) + (1 : Int32)).toInt64))])) rfl rfl (hb hby d8_16)
  refine Outs.of st24 ?_
  refine Outs.of (U' := T24.setTop (mkF m 63 #[.val (.ref o0)] [(.ref o0)])) (fun t k => ?_) ?_
  · refine XS.lcmp X24.here hx rfl (hb hby d8_19) rfl ?_
    refine XS.ifYes X24.here hx rfl (pc0 := 20) (pc' := 62) rfl (hb hby d8_20) rfl ((if0 _ _).trans (feq (fun q_ => c1 ((lw_eq _ _).mp q_))).2) (by decide) (by decide) ?_
    refine XS.aloadN X24.here hx rfl (hb hby d8_62) rfl rfl ?_
    exact k
  obtain ⟨T26, X26, e26, st26⟩ := getF X24 hx hZ hown (host := "") (Or.inl (hw _ (List.mem_of_getElem? (i := 52) rfl))) Via.refl e24 F21 (g := (mkF m 63 #[.val (.ref o0)] [(.ref o0)])) rfl rfl (hb hby d8_63)
  refine Outs.of st26 ?_
  have f27 : Exa Z h21 o0 "com/example/bitmend/bitmend/PositionalColumns$DataPositions" := (f22.wr W21)
  have f28 : Fld Z h21 o0 "com/example/bitmend/bitmend/PositionalColumns$DataPositions" "this$0" "Lcom/example/bitmend/bitmend/PositionalColumns;" (.ref a1) := ((f11.other W16 (Or.inr (slot_ne (Or.inr (hw _ (List.mem_of_getElem? (i := 42) rfl))) (Or.inl (hw _ (List.mem_of_getElem? (i := 46) rfl))) (by decide) (t := (.object "com/example/bitmend/bitmend/PositionalColumns")) (t' := .long) (by decide) (by decide)))).other W21 (Or.inr (slot_ne (Or.inr (hw _ (List.mem_of_getElem? (i := 42) rfl))) (Or.inl (hw _ (List.mem_of_getElem? (i := 53) rfl))) (by decide) (t := (.object "com/example/bitmend/bitmend/PositionalColumns")) (t' := .int) (by decide) (by decide))))
  have f29 : Fld Z h21 o0 "com/example/bitmend/bitmend/PositionalColumns$DataPositions" "check" "I" (.int (cv + (1 : Int32))) := ((F8.other W16 (Or.inr (slot_ne (Or.inl (hw _ (List.mem_of_getElem? (i := 55) rfl))) (Or.inl (hw _ (List.mem_of_getElem? (i := 46) rfl))) (by decide) (t := .int) (t' := .long) (by decide) (by decide)))).other W21 (Or.inr (slot_ne (Or.inl (hw _ (List.mem_of_getElem? (i := 55) rfl))) (Or.inl (hw _ (List.mem_of_getElem? (i := 53) rfl))) (by decide) (t := .int) (t' := .int) (by decide) (by decide))))
  exact Outs.retI X26 hx hret (hb hby d8_66) hlk (by decide) (by decide) e26 ⟨congrArg (fun z_ => some (Value.int z_)) (show (F_nx1 pv cv cp n g k0) = ((pv + (1 : Int32)) + (1 : Int32)) from rfl).symm, N21, (((((Keep.refl h0 [o0]).wr W2 (Or.inl (List.mem_of_getElem? (i := 0) rfl))).wr W8 (Or.inl (List.mem_of_getElem? (i := 0) rfl))).wr W16 (Or.inl (List.mem_of_getElem? (i := 0) rfl))).wr W21 (Or.inl (List.mem_of_getElem? (i := 0) rfl))), f27, f28, F21, f29, f25⟩
def F_nx2 (pv : Int32) (cv : Int32) (cp : Int64) (n : Nat) (g : Nat → Int64) (k0 : Nat) (k1 : Nat) : Int32 := (((pv + (1 : Int32)) + (1 : Int32)) + (1 : Int32))
def Q_nx2 (Z : State) (o0 : Addr) (pv : Int32) (cv : Int32) (cp : Int64) (a1 : Addr) (a2 : Addr) (n : Nat) (g : Nat → Int64) (k0 : Nat) (k1 : Nat) (h0 : Heap) (n0 : Nat) (v : Option Value) (h : Heap) (L : List Loc) : Prop := v = some (.int (F_nx2 pv cv cp n g k0 k1)) ∧ Fr n0 L ∧ Keep h0 h [o0] ∧ Exa Z h o0 "com/example/bitmend/bitmend/PositionalColumns$DataPositions" ∧ Fld Z h o0 "com/example/bitmend/bitmend/PositionalColumns$DataPositions" "this$0" "Lcom/example/bitmend/bitmend/PositionalColumns;" (.ref a1) ∧ Fld Z h o0 "com/example/bitmend/bitmend/PositionalColumns$DataPositions" "position" "I" (.int (((pv + (1 : Int32)) + (1 : Int32)) + (1 : Int32))) ∧ Fld Z h o0 "com/example/bitmend/bitmend/PositionalColumns$DataPositions" "check" "I" (.int ((cv + (1 : Int32)) + (1 : Int32))) ∧ Fld Z h o0 "com/example/bitmend/bitmend/PositionalColumns$DataPositions" "checkPosition" "J" (.long (g k1))
set_option maxRecDepth 65536 in
set_option maxHeartbeats 40000000 in
theorem rmnx2 (l : Launch) (Z : State) (a0 : Array Value) (hw : ∀ d ∈ tables_1, d.before a0 Z = true) (ws : List Jvm.Cond) (o0 : Addr) (pv : Int32) (cv : Int32) (cp : Int64) (a1 : Addr) (a2 : Addr) (n : Nat) (g : Nat → Int64) (k0 : Nat) (k1 : Nat) (h0 : Heap) (n0 : Nat) (E_o0 : Exa Z h0 o0 "com/example/bitmend/bitmend/PositionalColumns$DataPositions") (g_o0 : n0 ≤ o0) (F_o0_position : Fld Z h0 o0 "com/example/bitmend/bitmend/PositionalColumns$DataPositions" "position" "I" (.int pv)) (F_o0_check : Fld Z h0 o0 "com/example/bitmend/bitmend/PositionalColumns$DataPositions" "check" "I" (.int cv)) (F_o0_checkPosition : Fld Z h0 o0 "com/example/bitmend/bitmend/PositionalColumns$DataPositions" "checkPosition" "J" (.long cp)) (F_o0_this_0 : Fld Z h0 o0 "com/example/bitmend/bitmend/PositionalColumns$DataPositions" "this$0" "Lcom/example/bitmend/bitmend/PositionalColumns;" (.ref a1)) (F_a1_checkPositions : Fld Z h0 a1 "com/example/bitmend/bitmend/PositionalColumns" "checkPositions" "[J" (.ref a2)) (A_a2 : AJ Z h0 a2 .long n g) (ne_a1_o0 : a1 ≠ o0) (ne_a2_o0 : a2 ≠ o0) (c0 : ((pv + (1 : Int32)).toInt64) = cp) (ix0 : (cv + (1 : Int32)).toInt = (k0 : Int) ∧ k0 < n) (c1 : (((pv + (1 : Int32)) + (1 : Int32)).toInt64) = (g k0)) (ix1 : ((cv + (1 : Int32)) + (1 : Int32)).toInt = (k1 : Int) ∧ k1 < n) (c2 : ¬ (((((pv + (1 : Int32)) + (1 : Int32)) + (1 : Int32)).toInt64) = (g k1))) :
    MetFree l (⟨"com/example/bitmend/bitmend/PositionalColumns$DataPositions", "next", "()I"⟩ : MethodName) (head1 (Jvm.Cond.code (⟨"com/example/bitmend/bitmend/PositionalColumns$DataPositions", "next", "()I"⟩ : MethodName) prog_36_method_2_code 1 (some .int) :: ws) ({ frames := 0, cells := 0, slots := 0, locals := 0 } : Room)) (fun a U => a = #[(.ref o0)] ∧ Z.Warmed39 U.vm ∧ U.heap = h0) (fun _ _ _ _ _ => True) (fun _ U o U' => ∃ v L, o = .returned v ∧ Q_nx2 Z o0 pv cv cp a1 a2 n g k0 k1 h0 n0 v U'.heap L ∧ FrameEnd U o U' L ({ frames := 0, cells := 0, slots := 0, locals := 0 } : Room).cells ({ frames := 0, cells := 0, slots := 0, locals := 0 } : Room).slots) := by
  refine MetFree.of_bodySF (plainFor_of_name pn_7) hisR ?_
  intro p e s m args below meth c s₁ Bd hml0 hP hK
  obtain ⟨rfl, hZ, hh⟩ := hP
  have hx := Bd.exec
  have hby := Bd.bytes
  have hml : c.maxLocals = 1 := hml0
  have hown : s.vm.findClass "com/example/bitmend/bitmend/PositionalColumns$DataPositions" = some m.cls := findClass_of_methodNamed Bd.named
  have hnm := (name_of_methodNamed Bd.named Bd.method).1
  have hret := Bd.returns
  have hlk : meth.locks = false := BodyLoose.notSynchronized Bd
  have X0 : Stand p l e ({ frames := 0, cells := 0, slots := 0, locals := 0 } : Room) s m #[(.ref o0)] below meth c s₁ [] 0 0 := Stand.of_body Bd
  have e0 : s₁.heap = h0 := by rw [← hh, Bd.state]; rfl
  have N0 := Fr.nil n0
  show Outs p e below s (Q_nx2 Z o0 pv cv cp a1 a2 n g k0 k1 h0 n0) _ _ _
  refine Outs.of (U' := s₁.setTop (mkF m 0 #[.val (.ref o0)] [])) (fun t k => castTop (ef_8 m o0) k) ?_
  refine Outs.of (U' := s₁.setTop (mkF m 2 #[.val (.ref o0)] [(.ref o0), (.ref o0)])) (fun t k => ?_) ?_
  · refine XS.aloadN X0.here hx rfl (hb hby d8_0) rfl rfl ?_
    refine XS.dup X0.here hx rfl (hb hby d8_1) rfl rfl ?_
    exact k
  obtain ⟨T1, X1, e1, st1⟩ := getF X0 hx hZ hown (host := "") (Or.inl (hw _ (List.mem_of_getElem? (i := 52) rfl))) Via.refl e0 F_o0_position (g := (mkF m 2 #[.val (.ref o0)] [(.ref o0), (.ref o0)])) rfl rfl (hb hby d8_2)
  refine Outs.of st1 ?_
  refine Outs.of (U' := T1.setTop (mkF m 7 #[.val (.ref o0)] [(.int (pv + (1 : Int32))), (.ref o0)])) (fun t k => ?_) ?_
  · refine XS.iconst X1.here hx rfl (hb hby d8_5) ?_
    refine XS.iadd X1.here hx rfl (hb hby d8_6) rfl ?_
    exact k
  obtain ⟨T2, h2, X2, e2, W2, st2⟩ := putF X1 hx hZ hown (host := "") (Or.inl (hw _ (List.mem_of_getElem? (i := 52) rfl))) Via.refl e1 F_o0_position E_o0 (Or.inl (hw _ (List.mem_of_getElem? (i := 53) rfl))) (hw _ (List.mem_of_getElem? (i := 32) rfl)) (ty := .int) (by decide) rfl rfl (g := (mkF m 7 #[.val (.ref o0)] [(.int (pv + (1 : Int32))), (.ref o0)])) rfl rfl (hb hby d8_7)
  have F2 : Fld Z h2 o0 "com/example/bitmend/bitmend/PositionalColumns$DataPositions" "position" "I" (.int (pv + (1 : Int32))) := F_o0_position.same W2
  have N2 := Fr.snoc X2 N0 g_o0
  obtain ⟨Lh2, X2, N2⟩ := hide X2 N2 (C := 0) (S := 0) (by decide) (by decide)
  refine Outs.of st2 ?_
  refine Outs.of (U' := T2.setTop (mkF m 11 #[.val (.ref o0)] [(.ref o0)])) (fun t k => ?_) ?_
  · refine XS.aloadN X2.here hx rfl (hb hby d8_10) rfl rfl ?_
    exact k
  obtain ⟨T3, X3, e3, st3⟩ := getF X2 hx hZ hown (host := "") (Or.inl (hw _ (List.mem_of_getElem? (i := 52) rfl))) Via.refl e2 F2 (g := (mkF m 11 #[.val (.ref o0)] [(.ref o0)])) rfl rfl (hb hby d8_11)
  refine Outs.of st3 ?_
  refine Outs.of (U' := T3.setTop (mkF m 16 #[.val (.ref o0)] [(.ref o0), (.long ((pv + (1 : Int32)).toInt64))])) (fun t k => ?_) ?_
  · refine XS.i2l X3.here hx rfl (hb hby d8_14) rfl ?_
    refine XS.aloadN X3.here hx rfl (hb hby d8_15) rfl rfl ?_
    exact k
  have f5 : Fld Z h2 o0 "com/example/bitmend/bitmend/PositionalColumns$DataPositions" "checkPosition" "J" (.long cp) := (F_o0_checkPosition.other W2 (Or.inr (slot_ne (Or.inl (hw _ (List.mem_of_getElem? (i := 46) rfl))) (Or.inl (hw _ (List.mem_of_getElem? (i := 53) rfl))) (by decide) (t := .long) (t' := .int) (by decide) (by decide))))
  obtain ⟨T4, X4, e4, st4⟩ := getF X3 hx hZ hown (host := "") (Or.inl (hw _ (List.mem_of_getElem? (i := 45) rfl))) Via.refl e3 f5 (g := (mkF m 16 #[.val (.ref o0)] [(.ref o0), (.long ((pv + (1 : Int32)).toInt64))])) rfl rfl (hb hby d8_16)
  refine Outs.of st4 ?_
  refine Outs.of (U' := T4.setTop (mkF m 25 #[.val (.ref o0)] [(.ref o0), (.ref o0)])) (fun t k => ?_) ?_
  · refine XS.lcmp X4.here hx rfl (hb hby d8_19) rfl ?_
    refine XS.ifNo X4.here hx rfl (hb hby d8_20) rfl ((if0 _ _).trans (teq ((lw_eq _ _).mpr c0)).2) ?_
    refine XS.aloadN X4.here hx rfl (hb hby d8_23) rfl rfl ?_
    refine XS.dup X4.here hx rfl (hb hby d8_24) rfl rfl ?_
    exact k
  have f7 : Fld Z h2 o0 "com/example/bitmend/bitmend/PositionalColumns$DataPositions" "check" "I" (.int cv) := (F_o0_check.other W2 (Or.inr (slot_ne (Or.inl (hw _ (List.mem_of_getElem? (i := 55) rfl))) (Or.inl (hw _ (List.mem_of_getElem? (i := 53) rfl))) (by decide) (t := .int) (t' := .int) (by decide) (by decide))))
  obtain ⟨T6, X6, e6, st6⟩ := getF X4 hx hZ hown (host := "") (Or.inl (hw _ (List.mem_of_getElem? (i := 54) rfl))) Via.refl e4 f7 (g := (mkF m 25 #[.val (.ref o0)] [(.ref o0), (.ref o0)])) rfl rfl (hb hby d8_25)
  refine Outs.of st6 ?_
  refine Outs.of (U' := T6.setTop (mkF m 30 #[.val (.ref o0)] [(.int (cv + (1 : Int32))), (.ref o0)])) (fun t k => ?_) ?_
  · refine XS.iconst X6.here hx rfl (hb hby d8_28) ?_
    refine XS.iadd X6.here hx rfl (hb hby d8_29) rfl ?_
    exact k
  have f9 : Exa Z h2 o0 "com/example/bitmend/bitmend/PositionalColumns$DataPositions" := (E_o0.wr W2)
  obtain ⟨T8, h8, X8, e8, W8, st8⟩ := putF X6 hx hZ hown (host := "") (Or.inl (hw _ (List.mem_of_getElem? (i := 54) rfl))) Via.refl e6 f7 f9 (Or.inl (hw _ (List.mem_of_getElem? (i := 55) rfl))) (hw _ (List.mem_of_getElem? (i := 32) rfl)) (ty := .int) (by decide) rfl rfl (g := (mkF m 30 #[.val (.ref o0)] [(.int (cv + (1 : Int32))), (.ref o0)])) rfl rfl (hb hby d8_30)
  have F8 : Fld Z h8 o0 "com/example/bitmend/bitmend/PositionalColumns$DataPositions" "check" "I" (.int (cv + (1 : Int32))) := f7.same W8
  have N8 := Fr.snoc X8 N2 g_o0
  obtain ⟨Lh8, X8, N8⟩ := hide X8 N8 (C := 0) (S := 0) (by decide) (by decide)
  refine Outs.of st8 ?_
  refine Outs.of (U' := T8.setTop (mkF m 35 #[.val (.ref o0)] [(.ref o0), (.ref o0)])) (fun t k => ?_) ?_
  · refine XS.aloadN X8.here hx rfl (hb hby d8_33) rfl rfl ?_
    refine XS.aloadN X8.here hx rfl (hb hby d8_34) rfl rfl ?_
    exact k
  have f11 : Fld Z h8 o0 "com/example/bitmend/bitmend/PositionalColumns$DataPositions" "this$0" "Lcom/example/bitmend/bitmend/PositionalColumns;" (.ref a1) := ((F_o0_this_0.other W2 (Or.inr (slot_ne (Or.inr (hw _ (List.mem_of_getElem? (i := 42) rfl))) (Or.inl (hw _ (List.mem_of_getElem? (i := 53) rfl))) (by decide) (t := (.object "com/example/bitmend/bitmend/PositionalColumns")) (t' := .int) (by decide) (by decide)))).other W8 (Or.inr (slot_ne (Or.inr (hw _ (List.mem_of_getElem? (i := 42) rfl))) (Or.inl (hw _ (List.mem_of_getElem? (i := 55) rfl))) (by decide) (t := (.object "com/example/bitmend/bitmend/PositionalColumns")) (t' := .int) (by decide) (by decide))))
  obtain ⟨T10, X10, e10, st10⟩ := getF X8 hx hZ hown (host := "") (Or.inl (hw _ (List.mem_of_getElem? (i := 41) rfl))) Via.refl e8 f11 (g := (mkF m 35 #[.val (.ref o0)] [(.ref o0), (.ref o0)])) rfl rfl (hb hby d8_35)
  refine Outs.of st10 ?_
  have f13 : Fld Z h8 a1 "com/example/bitmend/bitmend/PositionalColumns" "checkPositions" "[J" (.ref a2) := ((F_a1_checkPositions.other W2 (Or.inl ne_a1_o0)).other W8 (Or.inl ne_a1_o0))
  obtain ⟨T12, X12, e12, st12⟩ := getF X10 hx hZ hown (Or.inr (hw _ (List.mem_of_getElem? (i := 44) rfl))) Via.refl e10 f13 (g := (mkF m 38 #[.val (.ref o0)] [(.ref a1), (.ref o0)])) rfl rfl (hb hby d8_38)
  refine Outs.of st12 ?_
  refine Outs.of (U' := T12.setTop (mkF m 42 #[.val (.ref o0)] [(.ref o0), (.ref a2), (.ref o0)])) (fun t k => ?_) ?_
  · refine XS.aloadN X12.here hx rfl (hb hby d8_41) rfl rfl ?_
    exact k
  obtain ⟨T14, X14, e14, st14⟩ := getF X12 hx hZ hown (host := "") (Or.inl (hw _ (List.mem_of_getElem? (i := 54) rfl))) Via.refl e12 F8 (g := (mkF m 42 #[.val (.ref o0)] [(.ref o0), (.ref a2), (.ref o0)])) rfl rfl (hb hby d8_42)
  refine Outs.of st14 ?_
  have f15 : AJ Z h8 a2 .long n g := ((A_a2.other W2 ne_a2_o0).other W8 ne_a2_o0)
  refine Outs.of (ldJ X14 hx hZ e14 f15 (j := (cv + (1 : Int32))) (k := k0) ix0.1 ix0.2 (f := (mkF m 45 #[.val (.ref o0)] [(.int (cv + (1 : Int32))), (.ref a2), (.ref o0)])) rfl rfl (hb hby d8_45)) ?_
  have f17 : Exa Z h8 o0 "com/example/bitmend/bitmend/PositionalColumns$DataPositions" := (f9.wr W8)
  have f18 : Fld Z h8 o0 "com/example/bitmend/bitmend/PositionalColumns$DataPositions" "checkPosition" "J" (.long cp) := (f5.other W8 (Or.inr (slot_ne (Or.inl (hw _ (List.mem_of_getElem? (i := 46) rfl))) (Or.inl (hw _ (List.mem_of_getElem? (i := 55) rfl))) (by decide) (t := .long) (t' := .int) (by decide) (by decide))))
  obtain ⟨T16, h16, X16, e16, W16, st16⟩ := putF X14 hx hZ hown (host := "") (Or.inl (hw _ (List.mem_of_getElem? (i := 45) rfl))) Via.refl e14 f18 f17 (Or.inl (hw _ (List.mem_of_getElem? (i := 46) rfl))) (hw _ (List.mem_of_getElem? (i := 32) rfl)) (ty := .long) (by decide) rfl rfl (g := (mkF m 46 #[.val (.ref o0)] [(.long (g k0)), (.ref o0)])) rfl rfl (hb hby d8_46)
  have F16 : Fld Z h16 o0 "com/example/bitmend/bitmend/PositionalColumns$DataPositions" "checkPosition" "J" (.long (g k0)) := f18.same W16
  have N16 := Fr.snoc X16 N8 g_o0
  obtain ⟨Lh16, X16, N16⟩ := hide X16 N16 (C := 0) (S := 0) (by decide) (by decide)
  refine Outs.of st16 ?_
  refine Outs.of (U' := T16.setTop (mkF m 51 #[.val (.ref o0)] [(.ref o0), (.ref o0)])) (fun t k => ?_) ?_
  · refine XS.aloadN X16.here hx rfl (hb hby d8_49) rfl rfl ?_
    refine XS.dup X16.here hx rfl (hb hby d8_50) rfl rfl ?_
    exact k
  have f20 : Fld Z h16 o0 "com/example/bitmend/bitmend/PositionalColumns$DataPositions" "position" "I" (.int (pv + (1 : Int32))) := ((F2.other W8 (Or.inr (slot_ne (Or.inl (hw _ (List.mem_of_getElem? (i := 53) rfl))) (Or.inl (hw _ (List.mem_of_getElem? (i := 55) rfl))) (by decide) (t := .int) (t' := .int) (by decide) (by decide)))).other W16 (Or.inr (slot_ne (Or.inl (hw _ (List.mem_of_getElem? (i := 53) rfl))) (Or.inl (hw _ (List.mem_of_getElem? (i := 46) rfl))) (by decide) (t := .int) (t' := .long) (by decide) (by decide))))
  obtain ⟨T19, X19, e19, st19⟩ := getF X16 hx hZ hown (host := "") (Or.inl (hw _ (List.mem_of_getElem? (i := 52) rfl))) Via.refl e16 f20 (g := (mkF m 51 #[.val (.ref o0)] [(.ref o0), (.ref o0)])) rfl rfl (hb hby d8_51)
  refine Outs.of st19 ?_
  refine Outs.of (U' := T19.setTop (mkF m 56 #[.val (.ref o0)] [(.int ((pv + (1 : Int32)) + (1 : Int32))), (.ref o0)])) (fun t k => ?_) ?_
  · refine XS.iconst X19.here hx rfl (hb hby d8_54) ?_
    refine XS.iadd X19.here hx rfl (hb hby d8_55) rfl ?_
    exact k
  have f22 : Exa Z h16 o0 "com/example/bitmend/bitmend/PositionalColumns$DataPositions" := (f17.wr W16)
  obtain ⟨T21, h21, X21, e21, W21, st21⟩ := putF X19 hx hZ hown (host := "") (Or.inl (hw _ (List.mem_of_getElem? (i := 52) rfl))) Via.refl e19 f20 f22 (Or.inl (hw _ (List.mem_of_getElem? (i := 53) rfl))) (hw _ (List.mem_of_getElem? (i := 32) rfl)) (ty := .int) (by decide) rfl rfl (g := (mkF m 56 #[.val (.ref o0)] [(.int ((pv + (1 : Int32)) + (1 : Int32))), (.ref o0)])) rfl rfl (hb hby d8_56)
  have F21 : Fld Z h21 o0 "com/example/bitmend/bitmend/PositionalColumns$DataPositions" "position" "I" (.int ((pv + (1 : Int32)) + (1 : Int32))) := f20.same W21
  have N21 := Fr.snoc X21 N16 g_o0
  obtain ⟨Lh21, X21, N21⟩ := hide X21 N21 (C := 0) (S := 0) (by decide) (by decide)
  refine Outs.of st21 ?_
  refine Outs.of (U' := T21.setTop (mkF m 11 #[.val (.ref o0)] [(.ref o0)])) (fun t k => ?_) ?_
  · refine XS.goto X21.here hx rfl (pc0 := 59) (pc' := 10) rfl (hb hby d8_59) (by decide) (by decide) ?_
    refine XS.aloadN X21.here hx rfl (hb hby d8_10) rfl rfl ?_
    exact k
  obtain ⟨T23, X23, e23, st23⟩ := getF X21 hx hZ hown (host := "") (Or.inl (hw _ (List.mem_of_getElem? (i := 52) rfl))) Via.refl e21 F21 (g := (mkF m 11 #[.val (.ref o0)] [(.ref o0)])) rfl rfl (hb hby d8_11)
  refine Outs.of st23 ?_
  refine Outs.of (U' := T23.setTop (mkF m 16 #[.val (.ref o0)] [(.ref o0), (.long (((pv + (1 : Int32)) + (1 : Int32)).toInt64))])) (fun t k => ?_) ?_
  · refine XS.i2l X23.here hx rfl (hb hby d8_14) rfl ?_
    refine XS.aloadN X23.here hx rfl (hb hby d8_15) rfl rfl ?_
    exact k
  have f25 : Fld Z h21 o0 "com/example/bitmend/bitmend/PositionalColumns$DataPositions" "checkPosition" "J" (.long (g k0)) := (F16.other W21 (Or.inr (slot_ne (Or.inl (hw _ (List.mem_of_getElem? (i := 46) rfl))) (Or.inl (hw _ (List.mem_of_getElem? (i := 53) rfl))) (by decide) (t := .long) (t' := .int) (by decide) (by decide))))
  obtain ⟨T24, X24, e24, st24⟩ := getF X23 hx hZ hown (host := "") (Or.inl (hw _ (List.mem_of_getElem? (i := 45) rfl))) Via.refl e23 f25 (g := (mkF m 16 #[.val (.ref o0)] [(.ref o0), (.long (((pv + (1 : Int32)) + (1 : Int32)).toInt64))])) rfl rfl (hb hby d8_16)
  refine Outs.of st24 ?_
  refine Outs.of (U' := T24.setTop (mkF m 25 #[.val (.ref o0)] [(.ref o0), (.ref o0)])) (fun t k => ?_) ?_
  · refine XS.lcmp X24.here hx rfl (hb hby d8_19) rfl ?_
    refine XS.ifNo X24.here hx rfl (hb hby d8_20) rfl ((if0 _ _).trans (teq ((lw_eq _ _).mpr c1)).2) ?_
    refine XS.aloadN X24.here hx rfl (hb hby d8_23) rfl rfl ?_
    refine XS.dup X24.here hx rfl (hb hby d8_24) rfl rfl ?_
    exact k
  have f27 : Fld Z h21 o0 "com/example/bitmend/bitmend/PositionalColumns$DataPositions" "check" "I" (.int (cv + (1 : Int32))) := ((F8.other W16 (Or.inr (slot_ne (Or.inl (hw _ (List.mem_of_getElem? (i := 55) rfl))) (Or.inl (hw _ (List.mem_of_getElem? (i := 46) rfl))) (by decide) (t := .int) (t' := .long) (by decide) (by decide)))).other W21 (Or.inr (slot_ne (Or.inl (hw _ (List.mem_of_getElem? (i := 55) rfl))) (Or.inl (hw _ (List.mem_of_getElem? (i := 53) rfl))) (by decide) (t := .int) (t' := .int) (by decide) (by decide))))
  obtain ⟨T26, X26, e26, st26⟩ := getF X24 hx hZ hown (host := "") (Or.inl (hw _ (List.mem_of_getElem? (i := 54) rfl))) Via.refl e24 f27 (g := (mkF m 25 #[.val (.ref o0)] [(.ref o0), (.ref o0)])) rfl rfl (hb hby d8_25)
  refine Outs.of st26 ?_
  refine Outs.of (U' := T26.setTop (mkF m 30 #[.val (.ref o0)] [(.int ((cv + (1 : Int32)) + (1 : Int32))), (.ref o0)])) (fun t k => ?_) ?_
  · refine XS.iconst X26.here hx rfl (hb hby d8_28) ?_
    refine XS.iadd X26.here hx rfl (hb hby d8_29) rfl ?_
    exact k
  have f29 : Exa Z h21 o0 "com/example/bitmend/bitmend/PositionalColumns$DataPositions" := (f22.wr W21)
  obtain ⟨T28, h28, X28, e28, W28, st28⟩ := putF X26 hx hZ hown (host := "") (Or.inl (hw _ (List.mem_of_getElem? (i := 54) rfl))) Via.refl e26 f27 f29 (Or.inl (hw _ (List.mem_of_getElem? (i := 55) rfl))) (hw _ (List.mem_of_getElem? (i := 32) rfl)) (ty := .int) (by decide) rfl rfl (g := (mkF m 30 #[.val (.ref o0)] [(.int ((cv + (1 : Int32)) + (1 : Int32))), (.ref o0)])) rfl rfl (hb hby d8_30)
  have F28 : Fld Z h28 o0 "com/example/bitmend/bitmend/PositionalColumns$DataPositions" "check" "I" (.int ((cv + (1 : Int32)) + (1 : Int32))) := f27.same W28
  have N28 := Fr.snoc X28 N21 g_o0
  obtain ⟨Lh28, X28, N28⟩ := hide X28 N28 (C := 0) (S := 0) (by decide) (by decide)
  refine Outs.of st28 ?_
  refine Outs.of (U' := T28.setTop (mkF m 35 #[.val (.ref o0)] [(.ref o0), (.ref o0)])) (fun t k => ?_) ?_
  · refine XS.aloadN X28.here hx rfl (hb hby d8_33) rfl rfl ?_
    refine XS.aloadN X28.here hx rfl (hb hby d8_34) rfl rfl ?_
    exact k
  have f31 : Fld Z h28 o0 "com/example/bitmend/bitmend/PositionalColumns$DataPositions" "this$0" "Lcom/example/bitmend/bitmend/PositionalColumns;" (.ref a1) := (((f11.other W16 (Or.inr (slot_ne (Or.inr (hw _ (List.mem_of_getElem? (i := 42) rfl))) (Or.inl (hw _ (List.mem_of_getElem? (i := 46) rfl))) (by decide) (t := (.object "com/example/bitmend/bitmend/PositionalColumns")) (t' := .long) (by decide) (by decide)))).other W21 (Or.inr (slot_ne (Or.inr (hw _ (List.mem_of_getElem? (i := 42) rfl))) (Or.inl (hw _ (List.mem_of_getElem? (i := 53) rfl))) (by decide) (t := (.object "com/example/bitmend/bitmend/PositionalColumns")) (t' := .int) (by decide) (by decide)))).other W28 (Or.inr (slot_ne (Or.inr (hw _ (List.mem_of_getElem? (i := 42) rfl))) (Or.inl (hw _ (List.mem_of_getElem? (i := 55) rfl))) (by decide) (t := (.object "com/example/bitmend/bitmend/PositionalColumns")) (t' := .int) (by decide) (by decide))))
  obtain ⟨T30, X30, e30, st30⟩ := getF X28 hx hZ hown (host := "") (Or.inl (hw _ (List.mem_of_getElem? (i := 41) rfl))) Via.refl e28 f31 (g := (mkF m 35 #[.val (.ref o0)] [(.ref o0), (.ref o0)])) rfl rfl (hb hby d8_35)
  refine Outs.of st30 ?_
  have f33 : Fld Z h28 a1 "com/example/bitmend/bitmend/PositionalColumns" "checkPositions" "[J" (.ref a2) := (((f13.other W16 (Or.inl ne_a1_o0)).other W21 (Or.inl ne_a1_o0)).other W28 (Or.inl ne_a1_o0))
  obtain ⟨T32, X32, e32, st32⟩ := getF X30 hx hZ hown (Or.inr (hw _ (List.mem_of_getElem? (i := 44) rfl))) Via.refl e30 f33 (g := (mkF m 38 #[.val (.ref o0)] [(.ref a1), (.ref o0)])) rfl rfl (hb hby d8_38)
  refine Outs.of st32 ?_
  refine Outs.of (U' := T32.setTop (mkF m 42 #[.val (.ref o0)] [(.ref o0), (.ref a2), (.ref o0)])) (fun t k => ?_) ?_
  · refine XS.aloadN X32.here hx rfl (hb hby d8_41) rfl rfl ?_
    exact k
  obtain ⟨T34, X34, e34, st34⟩ := getF X32 hx hZ hown (host := "") (Or.inl (hw _ (List.mem_of_getElem? (i := 54) rfl))) Via.refl e32 F28 (g := (mkF m 42 #[.val (.ref o0)] [(.ref o0), (.ref a2), (.ref o0)])) rfl rfl (hb hby d8_42)
  refine Outs.of st34 ?_
  have f35 : AJ Z h28 a2 .long n g := (((f15.other W16 ne_a2_o0).other W21 ne_a2_o0).other W28 ne_a2_o0)
  refine Outs.of (ldJ X34 hx hZ e34 f35 (j := ((cv + (1 : Int32)) + (1 : Int32))) (k := k1) ix1.1 ix1.2 (f := (mkF m 45 #[.val (.ref o0)] [(.int ((cv + (1 : Int32)) + (1 : Int32))), (.ref a2), (.ref o0)])) rfl rfl (hb hby d8_45)) ?_
  have f37 : Exa Z h28 o0 "com/example/bitmend/bitmend/PositionalColumns$DataPositions" := (f29.wr W28)
  have f38 : Fld Z h28 o0 "com/example/bitmend/bitmend/PositionalColumns$DataPositions" "checkPosition" "J" (.long (g k0)) := (f25.other W28 (Or.inr (slot_ne (Or.inl (hw _ (List.mem_of_getElem? (i := 46) rfl))) (Or.inl (hw _ (List.mem_of_getElem? (i := 55) rfl))) (by decide) (t := .long) (t' := .int) (by decide) (by decide))))
  obtain ⟨T36, h36, X36, e36, W36, st36⟩ := putF X34 hx hZ hown (host := "") (Or.inl (hw _ (List.mem_of_getElem? (i := 45) rfl))) Via.refl e34 f38 f37 (Or.inl (hw _ (List.mem_of_getElem? (i := 46) rfl))) (hw _ (List.mem_of_getElem? (i := 32) rfl)) (ty := .long) (by decide) rfl rfl (g := (mkF m 46 #[.val (.ref o0)] [(.long (g k1)), (.ref o0)])) rfl rfl (hb hby d8_46)
  have F36 : Fld Z h36 o0 "com/example/bitmend/bitmend/PositionalColumns$DataPositions" "checkPosition" "J" (.long (g k1)) := f38.same W36
  have N36 := Fr.snoc X36 N28 g_o0
  obtain ⟨Lh36, X36, N36⟩ := hide X36 N36 (C := 0) (S := 0) (by decide) (by decide)
  refine Outs.of st36 ?_
  refine Outs.of (U' := T36.setTop (mkF m 51 #[.val (.ref o0)] [(.ref o0), (.ref o0)])) (fun t k => ?_) ?_
  · refine XS.aloadN X36.here hx rfl (hb hby d8_49) rfl rfl ?_
    refine XS.dup X36.here hx rfl (hb hby d8_50) rfl rfl ?_
    exact k
  have f40 : Fld Z h36 o0 "com/example/bitmend/bitmend/PositionalColumns$DataPositions" "position" "I" (.int ((pv + (1 : Int32)) + (1 : Int32))) := ((F21.other W28 (Or.inr (slot_ne (Or.inl (hw _ (List.mem_of_getElem? (i := 53) rfl))) (Or.inl (hw _ (List.mem_of_getElem? (i := 55) rfl))) (by decide) (t := .int) (t' := .int) (by decide) (by decide)))).other W36 (Or.inr (slot_ne (Or.inl (hw _ (List.mem_of_getElem? (i := 53) rfl))) (Or.inl (hw _ (List.mem_of_getElem? (i := 46) rfl))) (by decide) (t := .int) (t' := .long) (by decide) (by decide))))
  obtain ⟨T39, X39, e39, st39⟩ := getF X36 hx hZ hown (host := "") (Or.inl (hw _ (List.mem_of_getElem? (i := 52) rfl))) Via.refl e36 f40 (g := (mkF m 51 #[.val (.ref o0)] [(.ref o0), (.ref o0)])) rfl rfl (hb hby d8_51)
  refine Outs.of st39 ?_
  refine Outs.of (U' := T39.setTop (mkF m 56 #[.val (.ref o0)] [(.int (((pv + (1 : Int32)) + (1 : Int32)) + (1 : Int32))), (.ref o0)])) (fun t k => ?_) ?_
  · refine XS.iconst X39.here hx rfl (hb hby d8_54) ?_
    refine XS.iadd X39.here hx rfl (hb hby d8_55) rfl ?_
    exact k
  have f42 : Exa Z h36 o0 "com/example/bitmend/bitmend/PositionalColumns$DataPositions" := (f37.wr W36)
  obtain ⟨T41, h41, X41, e41, W41, st41⟩ := putF X39 hx hZ hown (host := "") (Or.inl (hw _ (List.mem_of_getElem? (i := 52) rfl))) Via.refl e39 f40 f42 (Or.inl (hw _ (List.mem_of_getElem? (i := 53) rfl))) (hw _ (List.mem_of_getElem? (i := 32) rfl)) (ty := .int) (by decide) rfl rfl (g := (mkF m 56 #[.val (.ref o0)] [(.int (((pv + (1 : Int32)) + (1 : Int32)) + (1 : Int32))), (.ref o0)])) rfl rfl (hb hby d8_56)
  have F41 : Fld Z h41 o0 "com/example/bitmend/bitmend/PositionalColumns$DataPositions" "position" "I" (.int (((pv + (1 : Int32)) + (1 : Int32)) + (1 : Int32))) := f40.same W41
  have N41 := Fr.snoc X41 N36 g_o0
  obtain ⟨Lh41, X41, N41⟩ := hide X41 N41 (C := 0) (S := 0) (by decide) (by decide)
  refine Outs.of st41 ?_
  refine Outs.of (U' := T41.setTop (mkF m 11 #[.val (.ref o0)] [(.ref o0)])) (fun t k => ?_) ?_
  · refine XS.goto X41.here hx rfl (pc0 := 59) (pc' := 10) rfl (hb hby d8_59) (by decide) (by decide) ?_
    refine XS.aloadN X41.here hx rfl (hb hby d8_10) rfl rfl ?_
    exact k
  obtain ⟨T43, X43, e43, st43⟩ := getF X41 hx hZ hown (host := "") (Or.inl (hw _ (List.mem_of_getElem? (i := 52) rfl))) Via.refl e41 F41 (g := (mkF m 11 #[.val (.ref o0)] [(.ref o0)])) rfl rfl (hb hby d8_11)
  refine Outs.of st43 ?_
  refine Outs.of (U' := T43.setTop (mkF m 16 #[.val (.ref o0)] [(.ref o0), (.long ((((pv + (1 : Int32)) + (1 : Int32)) + (1 : Int32)).toInt64))])) (fun t k => ?_) ?_
  · refine XS.i2l X43.here hx rfl (hb hby d8_14) rfl ?_
    refine XS.aloadN X43.here hx rfl (hb hby d8_15) rfl rfl ?_
    exact k
  have f45 : Fld Z h41 o0 "com/example/bitmend/bitmend/PositionalColumns$DataPositions" "checkPosition" "J" (.long (g k1)) := (F36.other W41 (Or.inr (slot_ne (Or.inl (hw _ (List.mem_of_getElem? (i := 46) rfl))) (Or.inl (hw _ (List.mem_of_getElem? (i := 53) rfl))) (by decide) (t := .long) (t' := .int) (by decide) (by decide))))
  obtain ⟨T44, X44, e44, st44⟩ := getF X43 hx hZ hown (host := "") (Or.inl (hw _ (List.mem_of_getElem? (i := 45) rfl))) Via.refl e43 f45 (g := (mkF m 16 #[.val (.ref o0)] [(.ref o0), (.long ((((pv + (1 : Int32)) + (1 : Int32)) + (1 : Int32)).toInt64))])) rfl rfl (hb hby d8_16)
  refine Outs.of st44 ?_
  refine Outs.of (U' := T44.setTop (mkF m 63 #[.val (.ref o0)] [(.ref o0)])) (fun t k => ?_) ?_
  · refine XS.lcmp X44.here hx rfl (hb hby d8_19) rfl ?_
    refine XS.ifYes X44.here hx rfl (pc0 := 20) (pc' := 62) rfl (hb hby d8_20) rfl ((if0 _ _).trans (feq (fun q_ => c2 ((lw_eq _ _).mp q_))).2) (by decide) (by decide) ?_
    refine XS.aloadN X44.here hx rfl (hb hby d8_62) rfl rfl ?_
    exact k
  obtain ⟨T46, X46, e46, st46⟩ := getF X44 hx hZ hown (host := "") (Or.inl (hw _ (List.mem_of_getElem? (i := 52) rfl))) Via.refl e44 F41 (g := (mkF m 63 #[.val (.ref o0)] [(.ref o0)])) rfl rfl (hb hby d8_63)
  refine Outs.of st46 ?_
  have f47 : Exa Z h41 o0 "com/example/bitmend/bitmend/PositionalColumns$DataPositions" := (f42.wr W41)
  have f48 : Fld Z h41 o0 "com/example/bitmend/bitmend/PositionalColumns$DataPositions" "this$0" "Lcom/example/bitmend/bitmend/PositionalColumns;" (.ref a1) := ((f31.other W36 (Or.inr (slot_ne (Or.inr (hw _ (List.mem_of_getElem? (i := 42) rfl))) (Or.inl (hw _ (List.mem_of_getElem? (i := 46) rfl))) (by decide) (t := (.object "com/example/bitmend/bitmend/PositionalColumns")) (t' := .long) (by decide) (by decide)))).other W41 (Or.inr (slot_ne (Or.inr (hw _ (List.mem_of_getElem? (i := 42) rfl))) (Or.inl (hw _ (List.mem_of_getElem? (i := 53) rfl))) (by decide) (t := (.object "com/example/bitmend/bitmend/PositionalColumns")) (t' := .int) (by decide) (by decide))))
  have f49 : Fld Z h41 o0 "com/example/bitmend/bitmend/PositionalColumns$DataPositions" "check" "I" (.int ((cv + (1 : Int32)) + (1 : Int32))) := ((F28.other W36 (Or.inr (slot_ne (Or.inl (hw _ (List.mem_of_getElem? (i := 55) rfl))) (Or.inl (hw _ (List.mem_of_getElem? (i := 46) rfl))) (by decide) (t := .int) (t' := .long) (by decide) (by decide)))).other W41 (Or.inr (slot_ne (Or.inl (hw _ (List.mem_of_getElem? (i := 55) rfl))) (Or.inl (hw _ (List.mem_of_getElem? (i := 53) rfl))) (by decide) (t := .int) (t' := .int) (by decide) (by decide))))
  exact Outs.retI X46 hx hret (hb hby d8_66) hlk (by decide) (by decide) e46 ⟨congrArg (fun z_ => some (Value.int z_)) (show (F_nx2 pv cv cp n g k0 k1) = (((pv + (1 : Int32)) + (1 : Int32)) + (1 : Int32)) from rfl).symm, N41, ((((((((Keep.refl h0 [o0]).wr W2 (Or.inl (List.mem_of_getElem? (i := 0) rfl))).wr W8 (Or.inl (List.mem_of_getElem? (i := 0) rfl))).wr W16 (Or.inl (List.mem_of_getElem? (i := 0) rfl))).wr W21 (Or.inl (List.mem_of_getElem? (i := 0) rfl))).wr W28 (Or.inl (List.mem_of_getElem? (i := 0) rfl))).wr W36 (Or.inl (List.mem_of_getElem? (i := 0) rfl))).wr W41 (Or.inl (List.mem_of_getElem? (i := 0) rfl))), f47, f48, F41, f49, f45⟩
theorem ef_9 (m : MethodId) (x0 : Int32) (x1 : Int32) : entryFrame m #[(.int x0), (.int x1)] 3 = mkF m 0 #[.val (.int x0), .val (.int x1), .unset] [] := by first | (simp [entryFrame, mkF, argsToLocals, Value.category]; done) | rfl
theorem d9_0 : decode method_2_code 0 = .ok (.iload_n 1, 1) := by decide +kernel
theorem d9_1 : decode method_2_code 1 = .ok (.iconst 2, 1) := by decide +kernel
theorem d9_2 : decode method_2_code 2 = .ok (.iadd, 1) := by decide +kernel
theorem d9_3 : decode method_2_code 3 = .ok (.istore_n 2, 1) := by decide +kernel
theorem d9_4 : decode method_2_code 4 = .ok (.iload_n 1, 1) := by decide +kernel
theorem d9_5 : decode method_2_code 5 = .ok (.iload_n 0, 1) := by decide +kernel
theorem d9_6 : decode method_2_code 6 = .ok (.if_icmp .lt 6, 3) := by decide +kernel
theorem d9_9 : decode method_2_code 9 = .ok (.iinc 2 1, 3) := by decide +kernel
theorem d9_12 : decode method_2_code 12 = .ok (.iload_n 1, 1) := by decide +kernel
theorem d9_13 : decode method_2_code 13 = .ok (.iload_n 0, 1) := by decide +kernel
theorem d9_14 : decode method_2_code 14 = .ok (.iload_n 0, 1) := by decide +kernel
theorem d9_15 : decode method_2_code 15 = .ok (.imul, 1) := by decide +kernel
theorem d9_16 : decode method_2_code 16 = .ok (.iload_n 0, 1) := by decide +kernel
theorem d9_17 : decode method_2_code 17 = .ok (.iadd, 1) := by decide +kernel
theorem d9_18 : decode method_2_code 18 = .ok (.iconst 1, 1) := by decide +kernel
theorem d9_19 : decode method_2_code 19 = .ok (.isub, 1) := by decide +kernel
theorem d9_20 : decode method_2_code 20 = .ok (.if_icmp .lt 6, 3) := by decide +kernel
theorem d9_23 : decode method_2_code 23 = .ok (.iinc 2 1, 3) := by decide +kernel
theorem d9_26 : decode method_2_code 26 = .ok (.iload_n 1, 1) := by decide +kernel
theorem d9_27 : decode method_2_code 27 = .ok (.iload_n 0, 1) := by decide +kernel
theorem d9_28 : decode method_2_code 28 = .ok (.iload_n 0, 1) := by decide +kernel
theorem d9_29 : decode method_2_code 29 = .ok (.imul, 1) := by decide +kernel
theorem d9_30 : decode method_2_code 30 = .ok (.iload_n 0, 1) := by decide +kernel
theorem d9_31 : decode method_2_code 31 = .ok (.imul, 1) := by decide +kernel
theorem d9_32 : decode method_2_code 32 = .ok (.iload_n 0, 1) := by decide +kernel
theorem d9_33 : decode method_2_code 33 = .ok (.iload_n 0, 1) := by decide +kernel
theorem d9_34 : decode method_2_code 34 = .ok (.imul, 1) := by decide +kernel
theorem d9_35 : decode method_2_code 35 = .ok (.iadd, 1) := by decide +kernel
theorem d9_36 : decode method_2_code 36 = .ok (.iload_n 0, 1) := by decide +kernel
theorem d9_37 : decode method_2_code 37 = .ok (.iadd, 1) := by decide +kernel
theorem d9_38 : decode method_2_code 38 = .ok (.iconst 2, 1) := by decide +kernel
theorem d9_39 : decode method_2_code 39 = .ok (.isub, 1) := by decide +kernel
theorem d9_40 : decode method_2_code 40 = .ok (.if_icmp .lt 6, 3) := by decide +kernel
theorem d9_43 : decode method_2_code 43 = .ok (.iinc 2 1, 3) := by decide +kernel
theorem d9_46 : decode method_2_code 46 = .ok (.iload_n 2, 1) := by decide +kernel
theorem d9_47 : decode method_2_code 47 = .ok (.ireturn, 1) := by decide +kernel
theorem pn_0 : plainName "com/example/bitmend/bitmend/DataPositionsNextPinLaw" = true := by first | (simp [plainName, overriddenIn]; done) | decide +kernel
def f9_6_l2 (i0 : Int32) (i1 : Int32) : Int32 := (if i1 < i0 then (i1 + (2 : Int32)) else ((i1 + (2 : Int32)) + (1 : Int32)))
def f9_20_l2 (i0 : Int32) (i1 : Int32) : Int32 := (if i1 < (((i0 * i0) + i0) - (1 : Int32)) then (f9_6_l2 i0 i1) else ((f9_6_l2 i0 i1) + (1 : Int32)))
def f9_40_l2 (i0 : Int32) (i1 : Int32) : Int32 := (if i1 < (((((i0 * i0) * i0) + (i0 * i0)) + i0) - (2 : Int32)) then (f9_20_l2 i0 i1) else ((f9_20_l2 i0 i1) + (1 : Int32)))
def F_f9 (i0 : Int32) (i1 : Int32) : Int32 := (f9_40_l2 i0 i1)
set_option maxRecDepth 65536 in
set_option maxHeartbeats 40000000 in
theorem rm9 (l : Launch) (Z : State) (a0 : Array Value) (hw : ∀ d ∈ tables_1, d.before a0 Z = true) (ws : List Jvm.Cond) (i0 : Int32) (i1 : Int32)  (h0 : Heap) (n0 : Nat)  :
    MetFree l (⟨"com/example/bitmend/bitmend/DataPositionsNextPinLaw", "expected", "(II)I"⟩ : MethodName) (head1 (Jvm.Cond.code (⟨"com/example/bitmend/bitmend/DataPositionsNextPinLaw", "expected", "(II)I"⟩ : MethodName) method_2_code 3 (some .int) :: ws) ({ frames := 0, cells := 0, slots := 0, locals := 0 } : Room)) (fun a U => a = #[(.int i0), (.int i1)] ∧ Z.Warmed39 U.vm ∧ U.heap = h0) (fun _ _ _ _ _ => True) (fun _ U o U' => ∃ v L, o = .returned v ∧ QR (some (.int (F_f9 i0 i1))) h0 n0 v U'.heap L ∧ FrameEnd U o U' L ({ frames := 0, cells := 0, slots := 0, locals := 0 } : Room).cells ({ frames := 0, cells := 0, slots := 0, locals := 0 } : Room).slots) := by
  refine MetFree.of_bodySF (plainFor_of_name pn_0) hisR ?_
  intro p e s m args below meth c s₁ Bd hml0 hP hK
  obtain ⟨rfl, hZ, hh⟩ := hP
  have hx := Bd.exec
  have hby := Bd.bytes
  have hml : c.maxLocals = 3 := hml0
  have hown : s.vm.findClass "com/example/bitmend/bitmend/DataPositionsNextPinLaw" = some m.cls := findClass_of_methodNamed Bd.named
  have hnm := (name_of_methodNamed Bd.named Bd.method).1
  have hret := Bd.returns
  have hlk : meth.locks = false := BodyLoose.notSynchronized Bd
  have X0 : Stand p l e ({ frames := 0, cells := 0, slots := 0, locals := 0 } : Room) s m #[(.int i0), (.int i1)] below meth c s₁ [] 0 0 := Stand.of_body Bd
  have e0 : s₁.heap = h0 := by rw [← hh, Bd.state]; rfl
  have N0 := Fr.nil n0
  show Outs p e below s (QR (some (.int (F_f9 i0 i1))) h0 n0) _ _ _
  refine Outs.of (U' := s₁.setTop (mkF m 0 #[.val (.int i0), .val (.int i1), .unset] [])) (fun t k => castTop (ef_9 m i0 i1) k) ?_
  refine Outs.of (U' := s₁.setTop (mkF m 12 #[.val (.int i0), .val (.int i1), .val (.int (f9_6_l2 i0 i1))] [])) (fun t k => ?_) ?_
  · refine XS.iloadN X0.here hx rfl (hb hby d9_0) rfl ?_
    refine XS.iconst X0.here hx rfl (hb hby d9_1) ?_
    refine XS.iadd X0.here hx rfl (hb hby d9_2) rfl ?_
    refine XS.istoreN X0.here hx rfl (hb hby d9_3) rfl (l' := #[.val (.int i0), .val (.int i1), .val (.int (i1 + (2 : Int32)))]) rfl ?_
    refine XS.iloadN X0.here hx rfl (hb hby d9_4) rfl ?_
    refine XS.iloadN X0.here hx rfl (hb hby d9_5) rfl ?_
    by_cases hc6 : i1 < i0
    · refine XS.icmpYes X0.here hx rfl (pc0 := 6) (pc' := 12) rfl (hb hby d9_6) rfl (tlt hc6).1 (by decide) (by decide) ?_
      rw [show (f9_6_l2 i0 i1) = (i1 + (2 : Int32)) from (if_pos hc6)] at k
      exact k
    · refine XS.icmpNo X0.here hx rfl (hb hby d9_6) rfl (flt hc6).1 ?_
      refine XS.iinc X0.here hx rfl (hb hby d9_9) rfl (l' := #[.val (.int i0), .val (.int i1), .val (.int ((i1 + (2 : Int32)) + (1 : Int32)))]) rfl ?_
      rw [show (f9_6_l2 i0 i1) = ((i1 + (2 : Int32)) + (1 : Int32)) from (if_neg hc6)] at k
      exact k
  refine Outs.of (U' := s₁.setTop (mkF m 26 #[.val (.int i0), .val (.int i1), .val (.int (f9_20_l2 i0 i1))] [])) (fun t k => ?_) ?_
  · refine XS.iloadN X0.here hx rfl (hb hby d9_12) rfl ?_
    refine XS.iloadN X0.here hx rfl (hb hby d9_13) rfl ?_
    refine XS.iloadN X0.here hx rfl (hb hby d9_14) rfl ?_
    refine XS.imul X0.here hx rfl (hb hby d9_15) rfl ?_
    refine XS.iloadN X0.here hx rfl (hb hby d9_16) rfl ?_
    refine XS.iadd X0.here hx rfl (hb hby d9_17) rfl ?_
    refine XS.iconst X0.here hx rfl (hb hby d9_18) ?_
    refine XS.isub X0.here hx rfl (hb hby d9_19) rfl ?_
    by_cases hc20 : i1 < (((i0 * i0) + i0) - (1 : Int32))
    · refine XS.icmpYes X0.here hx rfl (pc0 := 20) (pc' := 26) rfl (hb hby d9_20) rfl (tlt hc20).1 (by decide) (by decide) ?_
      rw [show (f9_20_l2 i0 i1) = (f9_6_l2 i0 i1) from (if_pos hc20)] at k
      exact k
    · refine XS.icmpNo X0.here hx rfl (hb hby d9_20) rfl (flt hc20).1 ?_
      refine XS.iinc X0.here hx rfl (hb hby d9_23) rfl (l' := #[.val (.int i0), .val (.int i1), .val (.int ((f9_6_l2 i0 i1) + (1 : Int32)))]) rfl ?_
      rw [show (f9_20_l2 i0 i1) = ((f9_6_l2 i0 i1) + (1 : Int32)) from (if_neg hc20)] at k
      exact k
  refine Outs.of (U' := s₁.setTop (mkF m 46 #[.val (.int i0), .val (.int i1), .val (.int (f9_40_l2 i0 i1))] [])) (fun t k => ?_) ?_
  · refine XS.iloadN X0.here hx rfl (hb hby d9_26) rfl ?_
    refine XS.iloadN X0.here hx rfl (hb hby d9_27) rfl ?_
    refine XS.iloadN X0.here hx rfl (hb hby d9_28) rfl ?_
    refine XS.imul X0.here hx rfl (hb hby d9_29) rfl ?_
    refine XS.iloadN X0.here hx rfl (hb hby d9_30) rfl ?_
    refine XS.imul X0.here hx rfl (hb hby d9_31) rfl ?_
    refine XS.iloadN X0.here hx rfl (hb hby d9_32) rfl ?_
    refine XS.iloadN X0.here hx rfl (hb hby d9_33) rfl ?_
    refine XS.imul X0.here hx rfl (hb hby d9_34) rfl ?_
    refine XS.iadd X0.here hx rfl (hb hby d9_35) rfl ?_
    refine XS.iloadN X0.here hx rfl (hb hby d9_36) rfl ?_
    refine XS.iadd X0.here hx rfl (hb hby d9_37) rfl ?_
    refine XS.iconst X0.here hx rfl (hb hby d9_38) ?_
    refine XS.isub X0.here hx rfl (hb hby d9_39) rfl ?_
    by_cases hc40 : i1 < (((((i0 * i0) * i0) + (i0 * i0)) + i0) - (2 : Int32))
    · refine XS.icmpYes X0.here hx rfl (pc0 := 40) (pc' := 46) rfl (hb hby d9_40) rfl (tlt hc40).1 (by decide) (by decide) ?_
      rw [show (f9_40_l2 i0 i1) = (f9_20_l2 i0 i1) from (if_pos hc40)] at k
      exact k
    · refine XS.icmpNo X0.here hx rfl (hb hby d9_40) rfl (flt hc40).1 ?_
      refine XS.iinc X0.here hx rfl (hb hby d9_43) rfl (l' := #[.val (.int i0), .val (.int i1), .val (.int ((f9_20_l2 i0 i1) + (1 : Int32)))]) rfl ?_
      rw [show (f9_40_l2 i0 i1) = ((f9_20_l2 i0 i1) + (1 : Int32)) from (if_neg hc40)] at k
      exact k
  refine Outs.of (U' := s₁.setTop (mkF m 47 #[.val (.int i0), .val (.int i1), .val (.int (f9_40_l2 i0 i1))] [(.int (f9_40_l2 i0 i1))])) (fun t k => ?_) ?_
  · refine XS.iloadN X0.here hx rfl (hb hby d9_46) rfl ?_
    exact k
  exact Outs.retI X0 hx hret (hb hby d9_47) hlk (by decide) (by decide) e0 ⟨congrArg (fun z_ => some (Value.int z_)) (show (F_f9 i0 i1) = (f9_40_l2 i0 i1) from rfl).symm, N0, rfl⟩
def f0_v62  : Int32 := (F_nx2 (0 : Int32) (0 : Int32) ((cp2_g28 ct2_g25ae) 0) 32 (cp2_g28 ct2_g25ae) 1 2)
def f0_v69  : Int32 := (F_nx1 (3 : Int32) (2 : Int32) ((cp2_g28 ct2_g25ae) 2) 32 (cp2_g28 ct2_g25ae) 3)
def f0_v76  : Int32 := (F_nx0 (5 : Int32) (3 : Int32) ((cp2_g28 ct2_g25ae) 3) 32 (cp2_g28 ct2_g25ae))
def f0_v83  : Int32 := (F_nx0 (6 : Int32) (3 : Int32) ((cp2_g28 ct2_g25ae) 3) 32 (cp2_g28 ct2_g25ae))
def f0_v90  : Int32 := (F_nx1 (7 : Int32) (3 : Int32) ((cp2_g28 ct2_g25ae) 3) 32 (cp2_g28 ct2_g25ae) 4)
def f0_v97  : Int32 := (F_nx0 (9 : Int32) (4 : Int32) ((cp2_g28 ct2_g25ae) 4) 32 (cp2_g28 ct2_g25ae))
def f0_v104  : Int32 := (F_nx0 (10 : Int32) (4 : Int32) ((cp2_g28 ct2_g25ae) 4) 32 (cp2_g28 ct2_g25ae))
def f0_v111  : Int32 := (F_nx0 (11 : Int32) (4 : Int32) ((cp2_g28 ct2_g25ae) 4) 32 (cp2_g28 ct2_g25ae))
def f0_v118  : Int32 := (F_nx0 (12 : Int32) (4 : Int32) ((cp2_g28 ct2_g25ae) 4) 32 (cp2_g28 ct2_g25ae))
def f0_v125  : Int32 := (F_nx0 (13 : Int32) (4 : Int32) ((cp2_g28 ct2_g25ae) 4) 32 (cp2_g28 ct2_g25ae))
def f0_v132  : Int32 := (F_nx0 (14 : Int32) (4 : Int32) ((cp2_g28 ct2_g25ae) 4) 32 (cp2_g28 ct2_g25ae))
def f0_v139  : Int32 := (F_nx1 (15 : Int32) (4 : Int32) ((cp2_g28 ct2_g25ae) 4) 32 (cp2_g28 ct2_g25ae) 5)
def f0_v62a  : Int32 := (F_nx2 (0 : Int32) (0 : Int32) ((cp3_g28 ct3_g25u) 0) 22 (cp3_g28 ct3_g25u) 1 2)
def f0_v69a  : Int32 := (F_nx0 (3 : Int32) (2 : Int32) ((cp3_g28 ct3_g25u) 2) 22 (cp3_g28 ct3_g25u))
def f0_v76a  : Int32 := (F_nx1 (4 : Int32) (2 : Int32) ((cp3_g28 ct3_g25u) 2) 22 (cp3_g28 ct3_g25u) 3)
def f0_v83a  : Int32 := (F_nx0 (6 : Int32) (3 : Int32) ((cp3_g28 ct3_g25u) 3) 22 (cp3_g28 ct3_g25u))
def f0_v90a  : Int32 := (F_nx0 (7 : Int32) (3 : Int32) ((cp3_g28 ct3_g25u) 3) 22 (cp3_g28 ct3_g25u))
def f0_v97a  : Int32 := (F_nx0 (8 : Int32) (3 : Int32) ((cp3_g28 ct3_g25u) 3) 22 (cp3_g28 ct3_g25u))
def f0_v104a  : Int32 := (F_nx0 (9 : Int32) (3 : Int32) ((cp3_g28 ct3_g25u) 3) 22 (cp3_g28 ct3_g25u))
def f0_v111a  : Int32 := (F_nx0 (10 : Int32) (3 : Int32) ((cp3_g28 ct3_g25u) 3) 22 (cp3_g28 ct3_g25u))
def f0_v118a  : Int32 := (F_nx0 (11 : Int32) (3 : Int32) ((cp3_g28 ct3_g25u) 3) 22 (cp3_g28 ct3_g25u))
def f0_v125a  : Int32 := (F_nx0 (12 : Int32) (3 : Int32) ((cp3_g28 ct3_g25u) 3) 22 (cp3_g28 ct3_g25u))
def f0_v132a  : Int32 := (F_nx1 (13 : Int32) (3 : Int32) ((cp3_g28 ct3_g25u) 3) 22 (cp3_g28 ct3_g25u) 4)
def f0_v139a  : Int32 := (F_nx0 (15 : Int32) (4 : Int32) ((cp3_g28 ct3_g25u) 4) 22 (cp3_g28 ct3_g25u))
def f0_v62b  : Int32 := (F_nx2 (0 : Int32) (0 : Int32) ((cp5_g28 ct5_g25o) 0) 16 (cp5_g28 ct5_g25o) 1 2)
def f0_v69b  : Int32 := (F_nx0 (3 : Int32) (2 : Int32) ((cp5_g28 ct5_g25o) 2) 16 (cp5_g28 ct5_g25o))
def f0_v76b  : Int32 := (F_nx0 (4 : Int32) (2 : Int32) ((cp5_g28 ct5_g25o) 2) 16 (cp5_g28 ct5_g25o))
def f0_v83b  : Int32 := (F_nx0 (5 : Int32) (2 : Int32) ((cp5_g28 ct5_g25o) 2) 16 (cp5_g28 ct5_g25o))
def f0_v90b  : Int32 := (F_nx1 (6 : Int32) (2 : Int32) ((cp5_g28 ct5_g25o) 2) 16 (cp5_g28 ct5_g25o) 3)
def f0_v97b  : Int32 := (F_nx0 (8 : Int32) (3 : Int32) ((cp5_g28 ct5_g25o) 3) 16 (cp5_g28 ct5_g25o))
def f0_v104b  : Int32 := (F_nx0 (9 : Int32) (3 : Int32) ((cp5_g28 ct5_g25o) 3) 16 (cp5_g28 ct5_g25o))
def f0_v111b  : Int32 := (F_nx0 (10 : Int32) (3 : Int32) ((cp5_g28 ct5_g25o) 3) 16 (cp5_g28 ct5_g25o))
def f0_v118b  : Int32 := (F_nx0 (11 : Int32) (3 : Int32) ((cp5_g28 ct5_g25o) 3) 16 (cp5_g28 ct5_g25o))
def f0_v125b  : Int32 := (F_nx0 (12 : Int32) (3 : Int32) ((cp5_g28 ct5_g25o) 3) 16 (cp5_g28 ct5_g25o))
def f0_v132b  : Int32 := (F_nx0 (13 : Int32) (3 : Int32) ((cp5_g28 ct5_g25o) 3) 16 (cp5_g28 ct5_g25o))
def f0_v139b  : Int32 := (F_nx0 (14 : Int32) (3 : Int32) ((cp5_g28 ct5_g25o) 3) 16 (cp5_g28 ct5_g25o))
def f0_v62c  : Int32 := (F_nx2 (0 : Int32) (0 : Int32) ((cp7_g28 ct7_g25l) 0) 13 (cp7_g28 ct7_g25l) 1 2)
def f0_v69c  : Int32 := (F_nx0 (3 : Int32) (2 : Int32) ((cp7_g28 ct7_g25l) 2) 13 (cp7_g28 ct7_g25l))
def f0_v76c  : Int32 := (F_nx0 (4 : Int32) (2 : Int32) ((cp7_g28 ct7_g25l) 2) 13 (cp7_g28 ct7_g25l))
def f0_v83c  : Int32 := (F_nx0 (5 : Int32) (2 : Int32) ((cp7_g28 ct7_g25l) 2) 13 (cp7_g28 ct7_g25l))
def f0_v90c  : Int32 := (F_nx0 (6 : Int32) (2 : Int32) ((cp7_g28 ct7_g25l) 2) 13 (cp7_g28 ct7_g25l))
def f0_v97c  : Int32 := (F_nx0 (7 : Int32) (2 : Int32) ((cp7_g28 ct7_g25l) 2) 13 (cp7_g28 ct7_g25l))
def f0_v104c  : Int32 := (F_nx1 (8 : Int32) (2 : Int32) ((cp7_g28 ct7_g25l) 2) 13 (cp7_g28 ct7_g25l) 3)
def f0_v111c  : Int32 := (F_nx0 (10 : Int32) (3 : Int32) ((cp7_g28 ct7_g25l) 3) 13 (cp7_g28 ct7_g25l))
def f0_v118c  : Int32 := (F_nx0 (11 : Int32) (3 : Int32) ((cp7_g28 ct7_g25l) 3) 13 (cp7_g28 ct7_g25l))
def f0_v125c  : Int32 := (F_nx0 (12 : Int32) (3 : Int32) ((cp7_g28 ct7_g25l) 3) 13 (cp7_g28 ct7_g25l))
def f0_v132c  : Int32 := (F_nx0 (13 : Int32) (3 : Int32) ((cp7_g28 ct7_g25l) 3) 13 (cp7_g28 ct7_g25l))
def f0_v139c  : Int32 := (F_nx0 (14 : Int32) (3 : Int32) ((cp7_g28 ct7_g25l) 3) 13 (cp7_g28 ct7_g25l))
theorem own_k (i0 : Int32) : i0 &&& (3 : Int32) = 0 ∨ i0 &&& (3 : Int32) = 1 ∨ i0 &&& (3 : Int32) = 2 ∨ i0 &&& (3 : Int32) = 3 := by
  have a := c_mask i0 3 2 (by decide) (by decide)
  generalize i0 &&& (3 : Int32) = z at *
  rcases (by omega : z.toInt = 0 ∨ z.toInt = 1 ∨ z.toInt = 2 ∨ z.toInt = 3) with h | h | h | h
  · exact Or.inl (Int32.toInt_inj.mp (h.trans (by decide)))
  · exact Or.inr (Or.inl (Int32.toInt_inj.mp (h.trans (by decide))))
  · exact Or.inr (Or.inr (Or.inl (Int32.toInt_inj.mp (h.trans (by decide)))))
  · exact Or.inr (Or.inr (Or.inr (Int32.toInt_inj.mp (h.trans (by decide)))))
theorem ef_0 (m : MethodId) (x0 : Int32) : entryFrame m #[(.int x0)] maxLocals = mkF m 0 #[.val (.int x0), .unset, .unset, .unset, .unset, .unset, .unset, .unset, .unset, .unset, .unset, .unset, .unset, .unset, .unset, .unset, .unset] [] := by first | (simp [entryFrame, mkF, argsToLocals, Value.category, maxLocals]; done) | rfl
theorem pd_0 : parseMethodDescriptor "(I)V" = some ⟨[.int], none⟩ := by decide +kernel
theorem pd_6 : parseMethodDescriptor "(Ljava/lang/Object;)Ljava/lang/Object;" = some ⟨[(.object "java/lang/Object")], some (.object "java/lang/Object")⟩ := by decide +kernel
theorem pd_7 : parseMethodDescriptor "(Lcom/example/bitmend/bitmend/PositionalColumns;)V" = some ⟨[(.object "com/example/bitmend/bitmend/PositionalColumns")], none⟩ := by decide +kernel
theorem pd_8 : parseMethodDescriptor "()I" = some ⟨[], some .int⟩ := by decide +kernel
set_option maxRecDepth 65536 in
set_option maxHeartbeats 40000000 in
theorem rm0 (l : Launch) (Z : State) (a0 : Array Value) (hw : ∀ d ∈ tables_1, d.before a0 Z = true) (ws : List Jvm.Cond) (i0 : Int32)  (h0 : Heap) (n0 : Nat) (Z0 : n0 ≤ h0.size) :
    MetFree l x (head1 (Jvm.Cond.code x code maxLocals ret :: ws) room_1) (fun a U => a = #[(.int i0)] ∧ Z.Warmed39 U.vm ∧ U.heap = h0) (fun _ _ _ _ _ => True) (fun _ U o U' => ∃ v L, o = .returned v ∧ QL n0 v U'.heap L ∧ FrameEnd U o U' L room_1.cells room_1.slots) := by
  refine MetFree.of_bodySF (plainFor_of_name pn_0) hisR ?_
  intro p e s m args below meth c s₁ Bd hml0 hP hK
  obtain ⟨rfl, hZ, hh⟩ := hP
  have hx := Bd.exec
  have hby := Bd.bytes
  have hml : c.maxLocals = 17 := hml0
  have hown : s.vm.findClass "com/example/bitmend/bitmend/DataPositionsNextPinLaw" = some m.cls := findClass_of_methodNamed Bd.named
  have hnm := (name_of_methodNamed Bd.named Bd.method).1
  have hret := Bd.returns
  have hlk : meth.locks = false := BodyLoose.notSynchronized Bd
  have X0 : Stand p l e room_1 s m #[(.int i0)] below meth c s₁ [] 0 0 := Stand.of_body Bd
  have e0 : s₁.heap = h0 := by rw [← hh, Bd.state]; rfl
  have N0 := Fr.nil n0
  show Outs p e below s (QL n0) _ _ _
  refine Outs.of (U' := s₁.setTop (mkF m 0 #[.val (.int i0), .unset, .unset, .unset, .unset, .unset, .unset, .unset, .unset, .unset, .unset, .unset, .unset, .unset, .unset, .unset, .unset] [])) (fun t k => castTop (ef_0 m i0) k) ?_
  refine Outs.of (U' := s₁.setTop (mkF m 4 #[.val (.int i0), .val (.int (i0 &&& (3 : Int32))), .unset, .unset, .unset, .unset, .unset, .unset, .unset, .unset, .unset, .unset, .unset, .unset, .unset, .unset, .unset] [])) (fun t k => ?_) ?_
  · refine XS.iloadN X0.here hx rfl (hb hby at_0) rfl ?_
    refine XS.iconst X0.here hx rfl (hb hby at_1) ?_
    refine XS.iand X0.here hx rfl (hb hby at_2) rfl ?_
    refine XS.istoreN X0.here hx rfl (hb hby at_3) rfl (l' := #[.val (.int i0), .val (.int (i0 &&& (3 : Int32))), .unset, .unset, .unset, .unset, .unset, .unset, .unset, .unset, .unset, .unset, .unset, .unset, .unset, .unset, .unset]) rfl ?_
    exact k
  rcases own_k i0 with qk | qk | qk | qk
  · rw [qk]
    show Outs p e below s _ _ _ (s₁.setTop (mkF m 4 #[.val (.int i0), .val (.int (0 : Int32)), .unset, .unset, .unset, .unset, .unset, .unset, .unset, .unset, .unset, .unset, .unset, .unset, .unset, .unset, .unset] []))
    refine Outs.of (U' := s₁.setTop (mkF m 33 #[.val (.int i0), .val (.int (0 : Int32)), .val (.int (2 : Int32)), .unset, .unset, .unset, .unset, .unset, .unset, .unset, .unset, .unset, .unset, .unset, .unset, .unset, .unset] [])) (fun t k => ?_) ?_
    · refine XS.iloadN X0.here hx rfl (hb hby at_4) rfl ?_
      refine XS.ifNo X0.here hx rfl (hb hby at_5) rfl ((if0 _ _).trans (teq (show (0 : Int32) = (0 : Int32) from (by decide))).2) ?_
      refine XS.iconst X0.here hx rfl (hb hby at_8) ?_
      refine XS.goto X0.here hx rfl (pc0 := 9) (pc' := 32) rfl (hb hby at_9) (by decide) (by decide) ?_
      refine XS.istoreN X0.here hx rfl (hb hby at_32) rfl (l' := #[.val (.int i0), .val (.int (0 : Int32)), .val (.int (2 : Int32)), .unset, .unset, .unset, .unset, .unset, .unset, .unset, .unset, .unset, .unset, .unset, .unset, .unset, .unset]) rfl ?_
      exact k
    obtain ⟨T1, h1, X1, e1, E1, A1, D1, -, st1⟩ := newO X0 hx hZ hown (hw _ (List.mem_of_getElem? (i := 0) rfl)) (hw _ (List.mem_of_getElem? (i := 1) rfl)) (hw _ (List.mem_of_getElem? (i := 2) rfl)) e0 (g := (mkF m 33 #[.val (.int i0), .val (.int (0 : Int32)), .val (.int (2 : Int32)), .unset, .unset, .unset, .unset, .unset, .unset, .unset, .unset, .unset, .unset, .unset, .unset, .unset, .unset] [])) rfl (hb hby at_33) (by decide) (by decide)
    obtain ⟨b1, g1⟩ : ∃ z, z = h0.size := ⟨_, rfl⟩
    rw [← g1] at A1 D1 st1
    have g_b1 : n0 ≤ b1 := Nat.le_trans Z0 (Nat.le_of_eq g1.symm)
    have F1_10 : Fld Z h1 b1 "com/example/bitmend/bitmend/PositionalColumns" "fieldSize" "I" (.int (0 : Int32)) := D1 (Or.inr (hw _ (List.mem_of_getElem? (i := 10) rfl))) (ty := .int) (by decide)
    have F1_30 : Fld Z h1 b1 "com/example/bitmend/bitmend/PositionalColumns" "checkPositions" "[J" .null := D1 (Or.inr (hw _ (List.mem_of_getElem? (i := 30) rfl))) (ty := (.array .long)) (by decide)
    refine Outs.of st1 ?_
    refine Outs.of (U' := T1.setTop (mkF m 38 #[.val (.int i0), .val (.int (0 : Int32)), .val (.int (2 : Int32)), .unset, .unset, .unset, .unset, .unset, .unset, .unset, .unset, .unset, .unset, .unset, .unset, .unset, .unset] [(.int (2 : Int32)), (.ref b1), (.ref b1)])) (fun t k => ?_) ?_
    · refine XS.dup X1.here hx rfl (hb hby at_36) rfl rfl ?_
      refine XS.iloadN X1.here hx rfl (hb hby at_37) rfl ?_
      exact k
    obtain ⟨_, _, ⟨T2, L2, k2, n2⟩, -, X2, ⟨Lc2, hQ2, l2, y2, z2⟩, st2⟩ := X1.specialBack hx (y := (⟨"com/example/bitmend/bitmend/PositionalColumns", "<init>", "(I)V"⟩ : MethodName)) rfl hown (mvT hZ (hw _ (List.mem_of_getElem? (i := 3) rfl))) (mvT hZ (hw _ (List.mem_of_getElem? (i := 4) rfl))) (mvT hZ (hw _ (List.mem_of_getElem? (i := 5) rfl))) (by decide) (backOf (W := 1) (rmct2 l Z a0 hw [] b1 h1 n0 (Nat.le_trans Z0 E1.1) A1 g_b1 F1_10 F1_30) hZ (hw _ (List.mem_of_getElem? (i := 5) rfl)) (hw _ (List.mem_of_getElem? (i := 2) rfl)) (by decide) (by decide)) (g := (mkF m 38 #[.val (.int i0), .val (.int (0 : Int32)), .val (.int (2 : Int32)), .unset, .unset, .unset, .unset, .unset, .unset, .unset, .unset, .unset, .unset, .unset, .unset, .unset, .unset] [(.int (2 : Int32)), (.ref b1), (.ref b1)])) rfl (by rw [hml]; rfl) (Steps.refl _) (a := b1) (argsL := [(.int (2 : Int32))]) (rest := [(.ref b1)]) (lenOf pd_0 rfl) rfl (by show 2 * 0 + _ ≤ _; exact Nat.le_of_eq rfl) (hb hby at_38) (fun _ _ => ⟨rfl, e1, (by decide : 1 + 2 ≤ _), (by decide : 2 + 65 ≤ _)⟩)
    dsimp only [Pt.U, Pt.locs, Pt.cells, Pt.slots] at X2 l2 y2 z2 st2 hQ2
    subst l2 y2 z2
    obtain ⟨b2, g_b2, hs_b2, rfl, N2q, K2, u2_0, u2_1, u2_2⟩ := hQ2
    have N2 := Fr.app N0 N2q
    have ne_b1_b2 : b1 ≠ b2 := Nat.ne_of_lt (Nat.lt_of_lt_of_le A1.lt hs_b2)
    obtain ⟨Lh2, X2, N2⟩ := hide X2 N2 (C := 3) (S := 67) (by decide) (by decide)
    refine Outs.to st2 ?_
    refine Outs.of (U' := T2.setTop (mkF m 42 #[.val (.int i0), .val (.int (0 : Int32)), .val (.int (2 : Int32)), .val (.ref b1), .unset, .unset, .unset, .unset, .unset, .unset, .unset, .unset, .unset, .unset, .unset, .unset, .unset] [])) (fun t k => ?_) ?_
    · refine XS.astoreN X2.here hx rfl (hb hby at_41) rfl rfl (l' := #[.val (.int i0), .val (.int (0 : Int32)), .val (.int (2 : Int32)), .val (.ref b1), .unset, .unset, .unset, .unset, .unset, .unset, .unset, .unset, .unset, .unset, .unset, .unset, .unset]) rfl ?_
      exact k
    obtain ⟨T3, h3, X3, e3, E3, A3, D3, -, st3⟩ := newO X2 hx hZ hown (hw _ (List.mem_of_getElem? (i := 31) rfl)) (hw _ (List.mem_of_getElem? (i := 32) rfl)) (hw _ (List.mem_of_getElem? (i := 33) rfl)) rfl (g := (mkF m 42 #[.val (.int i0), .val (.int (0 : Int32)), .val (.int (2 : Int32)), .val (.ref b1), .unset, .unset, .unset, .unset, .unset, .unset, .unset, .unset, .unset, .unset, .unset, .unset, .unset] [])) rfl (hb hby at_42) (by decide) (by decide)
    obtain ⟨b3, g3⟩ : ∃ z, z = T2.heap.size := ⟨_, rfl⟩
    rw [← g3] at A3 D3 st3
    have g_b3 : n0 ≤ b3 := Nat.le_trans (Nat.le_trans (Nat.le_trans Z0 E1.1) K2.1) (Nat.le_of_eq g3.symm)
    have ne_b1_b3 : b1 ≠ b3 := Nat.ne_of_lt (Nat.lt_of_lt_of_eq u2_0.lt g3.symm)
    have ne_b2_b3 : b2 ≠ b3 := Nat.ne_of_lt (Nat.lt_of_lt_of_eq u2_2.lt g3.symm)
    have F3_42 : Fld Z h3 b3 "com/example/bitmend/bitmend/PositionalColumns$DataPositions" "this$0" "Lcom/example/bitmend/bitmend/PositionalColumns;" .null := D3 (Or.inr (hw _ (List.mem_of_getElem? (i := 42) rfl))) (ty := (.object "com/example/bitmend/bitmend/PositionalColumns")) (by decide)
    have F3_46 : Fld Z h3 b3 "com/example/bitmend/bitmend/PositionalColumns$DataPositions" "checkPosition" "J" (.long (0 : Int64)) := D3 (Or.inl (hw _ (List.mem_of_getElem? (i := 46) rfl))) (ty := .long) (by decide)
    have F3_53 : Fld Z h3 b3 "com/example/bitmend/bitmend/PositionalColumns$DataPositions" "position" "I" (.int (0 : Int32)) := D3 (Or.inl (hw _ (List.mem_of_getElem? (i := 53) rfl))) (ty := .int) (by decide)
    have F3_55 : Fld Z h3 b3 "com/example/bitmend/bitmend/PositionalColumns$DataPositions" "check" "I" (.int (0 : Int32)) := D3 (Or.inl (hw _ (List.mem_of_getElem? (i := 55) rfl))) (ty := .int) (by decide)
    refine Outs.of st3 ?_
    refine Outs.of (U' := T3.setTop (mkF m 48 #[.val (.int i0), .val (.int (0 : Int32)), .val (.int (2 : Int32)), .val (.ref b1), .unset, .unset, .unset, .unset, .unset, .unset, .unset, .unset, .unset, .unset, .unset, .unset, .unset] [(.ref b1), (.ref b1), (.ref b3), (.ref b3)])) (fun t k => ?_) ?_
    · refine XS.dup X3.here hx rfl (hb hby at_45) rfl rfl ?_
      refine XS.aloadN X3.here hx rfl (hb hby at_46) rfl rfl ?_
      refine XS.dup X3.here hx rfl (hb hby at_47) rfl rfl ?_
      exact k
    obtain ⟨_, _, ⟨T4, L4, k4, n4⟩, -, X4, ⟨Lc4, hQ4, l4, y4, z4⟩, st4⟩ := Jvm.LawKit.callS X3 hx (y := (⟨"java/util/Objects", "requireNonNull", "(Ljava/lang/Object;)Ljava/lang/Object;"⟩ : MethodName)) hown (mvT hZ (hw _ (List.mem_of_getElem? (i := 34) rfl))) (mvT hZ (hw _ (List.mem_of_getElem? (i := 35) rfl))) (mvT hZ (hw _ (List.mem_of_getElem? (i := 36) rfl))) (mvT hZ (hw _ (List.mem_of_getElem? (i := 37) rfl))) (by decide) (backOf (W := 3) (rm6 l Z a0 hw [] b1 h3 n0 ) hZ (hw _ (List.mem_of_getElem? (i := 37) rfl)) (hw _ (List.mem_of_getElem? (i := 36) rfl)) (by decide) (by decide)) (g := (mkF m 48 #[.val (.int i0), .val (.int (0 : Int32)), .val (.int (2 : Int32)), .val (.ref b1), .unset, .unset, .unset, .unset, .unset, .unset, .unset, .unset, .unset, .unset, .unset, .unset, .unset] [(.ref b1), (.ref b1), (.ref b3), (.ref b3)])) rfl (by rw [hml]; rfl) (argsL := [(.ref b1)]) (rest := [(.ref b1), (.ref b3), (.ref b3)]) (lenOf pd_6 rfl) rfl (by show 2 * 0 + _ ≤ _; exact Nat.le_of_eq rfl) (hb hby at_48) (fun _ _ => ⟨rfl, e3, (by decide : 4 + 0 ≤ _), (by decide : 71 + 0 ≤ _)⟩)
    dsimp only [Pt.U, Pt.locs, Pt.cells, Pt.slots] at X4 l4 y4 z4 st4 hQ4
    subst l4 y4 z4
    obtain ⟨rfl, N4q, e4⟩ := hQ4
    have N4 := Fr.app N2 N4q
    obtain ⟨Lh4, X4, N4⟩ := hide X4 N4 (C := 4) (S := 71) (by decide) (by decide)
    refine Outs.of st4 ?_
    refine Outs.of (U' := T4.setTop (mkF m 52 #[.val (.int i0), .val (.int (0 : Int32)), .val (.int (2 : Int32)), .val (.ref b1), .unset, .unset, .unset, .unset, .unset, .unset, .unset, .unset, .unset, .unset, .unset, .unset, .unset] [(.ref b1), (.ref b3), (.ref b3)])) (fun t k => ?_) ?_
    · refine XS.pop X4.here hx rfl (hb hby at_51) rfl rfl ?_
      exact k
    have f6 : Fld Z h3 b1 "com/example/bitmend/bitmend/PositionalColumns" "checkPositions" "[J" (.ref b2) := (u2_1.ext E3)
    have f7 : AJ Z h3 b2 .long 32 (cp2_g28 ct2_g25ae) := (u2_2.ext E3)
    obtain ⟨_, _, ⟨T5, L5, k5, n5⟩, -, X5, ⟨Lc5, hQ5, l5, y5, z5⟩, st5⟩ := X4.specialBack hx (y := (⟨"com/example/bitmend/bitmend/PositionalColumns$DataPositions", "<init>", "(Lcom/example/bitmend/bitmend/PositionalColumns;)V"⟩ : MethodName)) rfl hown (mvT hZ (hw _ (List.mem_of_getElem? (i := 38) rfl))) (mvT hZ (hw _ (List.mem_of_getElem? (i := 39) rfl))) (mvT hZ (hw _ (List.mem_of_getElem? (i := 40) rfl))) (by decide) (backOf (W := 1) (rm7 l Z a0 hw [] b3 b1 b2 32 (cp2_g28 ct2_g25ae) h3 n0 A3 g_b3 F3_42 F3_46 F3_53 F3_55 f6 f7 ne_b1_b3 ne_b2_b3 (by decide)) hZ (hw _ (List.mem_of_getElem? (i := 40) rfl)) (hw _ (List.mem_of_getElem? (i := 33) rfl)) (by decide) (by decide)) (g := (mkF m 52 #[.val (.int i0), .val (.int (0 : Int32)), .val (.int (2 : Int32)), .val (.ref b1), .unset, .unset, .unset, .unset, .unset, .unset, .unset, .unset, .unset, .unset, .unset, .unset, .unset] [(.ref b1), (.ref b3), (.ref b3)])) rfl (by rw [hml]; rfl) (Steps.refl _) (a := b3) (argsL := [(.ref b1)]) (rest := [(.ref b3)]) (lenOf pd_7 rfl) rfl (by show 2 * 0 + _ ≤ _; exact Nat.le_of_eq rfl) (hb hby at_52) (fun _ _ => ⟨rfl, e4, (by decide : 4 + 0 ≤ _), (by decide : 71 + 0 ≤ _)⟩)
    dsimp only [Pt.U, Pt.locs, Pt.cells, Pt.slots] at X5 l5 y5 z5 st5 hQ5
    subst l5 y5 z5
    obtain ⟨rfl, N5q, K5, u5_0, u5_1, u5_2, u5_3, u5_4⟩ := hQ5
    have N5 := Fr.app N4 N5q
    obtain ⟨Lh5, X5, N5⟩ := hide X5 N5 (C := 4) (S := 71) (by decide) (by decide)
    refine Outs.to st5 ?_
    refine Outs.of (U' := T5.setTop (mkF m 59 #[.val (.int i0), .val (.int (0 : Int32)), .val (.int (2 : Int32)), .val (.ref b1), .val (.ref b3), .unset, .unset, .unset, .unset, .unset, .unset, .unset, .unset, .unset, .unset, .unset, .unset] [(.ref b3)])) (fun t k => ?_) ?_
    · refine XS.astore X5.here hx rfl (hb hby at_55) rfl rfl (l' := #[.val (.int i0), .val (.int (0 : Int32)), .val (.int (2 : Int32)), .val (.ref b1), .val (.ref b3), .unset, .unset, .unset, .unset, .unset, .unset, .unset, .unset, .unset, .unset, .unset, .unset]) rfl ?_
      refine XS.aload X5.here hx rfl (hb hby at_57) rfl rfl ?_
      exact k
    have f9 : Fld Z T5.heap b1 "com/example/bitmend/bitmend/PositionalColumns" "checkPositions" "[J" (.ref b2) := (f6.keep K5 (ninS ne_b1_b3 nin0))
    have f10 : AJ Z T5.heap b2 .long 32 (cp2_g28 ct2_g25ae) := (f7.keep K5 (ninS ne_b2_b3 nin0))
    obtain ⟨cq8, kq8, q8a, q8b, q8c⟩ := isOf hZ rfl u5_0
    obtain ⟨_, _, ⟨T8, L8, k8, n8⟩, -, X8, ⟨Lc8, hQ8, l8, y8, z8⟩, st8⟩ := X5.virtualBack hx (y := (⟨"com/example/bitmend/bitmend/PositionalColumns$DataPositions", "next", "()I"⟩ : MethodName)) (z := (⟨"com/example/bitmend/bitmend/PositionalColumns$DataPositions", "next", "()I"⟩ : MethodName)) hown (mvT hZ (hw _ (List.mem_of_getElem? (i := 47) rfl))) (mvT hZ (hw _ (List.mem_of_getElem? (i := 48) rfl))) (notFace_of_selects (args := #[]) (mvT hZ (hw _ (List.mem_of_getElem? (i := 50) rfl)))) (mvT hZ (hw _ (List.mem_of_getElem? (i := 50) rfl))) (mvT hZ (hw _ (List.mem_of_getElem? (i := 49) rfl))) (by decide) (backOf (W := 0) (rmnx2 l Z a0 hw [] b3 (0 : Int32) (0 : Int32) ((cp2_g28 ct2_g25ae) 0) b1 b2 32 (cp2_g28 ct2_g25ae) 1 2 T5.heap n0 u5_0 g_b3 u5_3 u5_4 u5_2 u5_1 f9 f10 ne_b1_b3 ne_b2_b3 (by decide +kernel) ⟨by decide, by decide⟩ (by decide +kernel) ⟨by decide, by decide⟩ (by decide +kernel)) hZ (hw _ (List.mem_of_getElem? (i := 51) rfl)) (hw _ (List.mem_of_getElem? (i := 33) rfl)) (by decide) (by decide)) q8a q8c (g := (mkF m 59 #[.val (.int i0), .val (.int (0 : Int32)), .val (.int (2 : Int32)), .val (.ref b1), .val (.ref b3), .unset, .unset, .unset, .unset, .unset, .unset, .unset, .unset, .unset, .unset, .unset, .unset] [(.ref b3)])) rfl (by rw [hml]; rfl) (Steps.refl _) (argsL := []) (rest := []) (lenOf pd_8 rfl) rfl (by show 2 * 0 + _ ≤ _; exact Nat.le_of_eq rfl) (hb hby at_59) (fun _ _ => ⟨rfl, rfl, (by decide : 4 + 0 ≤ _), (by decide : 71 + 0 ≤ _)⟩)
    dsimp only [Pt.U, Pt.locs, Pt.cells, Pt.slots] at X8 l8 y8 z8 st8 hQ8
    subst l8 y8 z8
    obtain ⟨rfl, N8q, K8, u8_0, u8_1, u8_2, u8_3, u8_4⟩ := hQ8
    have N8 := Fr.app N5 N8q
    obtain ⟨Lh8, X8, N8⟩ := hide X8 N8 (C := 4) (S := 71) (by decide) (by decide)
    refine Outs.to st8 ?_
    refine Outs.of (U' := T8.setTop (mkF m 66 #[.val (.int i0), .val (.int (0 : Int32)), .val (.int (2 : Int32)), .val (.ref b1), .val (.ref b3), .val (.int f0_v62), .unset, .unset, .unset, .unset, .unset, .unset, .unset, .unset, .unset, .unset, .unset] [(.ref b3)])) (fun t k => ?_) ?_
    · refine XS.istore X8.here hx rfl (hb hby at_62) rfl (l' := #[.val (.int i0), .val (.int (0 : Int32)), .val (.int (2 : Int32)), .val (.ref b1), .val (.ref b3), .val (.int f0_v62), .unset, .unset, .unset, .unset, .unset, .unset, .unset, .unset, .unset, .unset, .unset]) rfl ?_
      refine XS.aload X8.here hx rfl (hb hby at_64) rfl rfl ?_
      exact k
    have f12 : Fld Z T8.heap b1 "com/example/bitmend/bitmend/PositionalColumns" "checkPositions" "[J" (.ref b2) := (f9.keep K8 (ninS ne_b1_b3 nin0))
    have f13 : AJ Z T8.heap b2 .long 32 (cp2_g28 ct2_g25ae) := (f10.keep K8 (ninS ne_b2_b3 nin0))
    obtain ⟨cq11, kq11, q11a, q11b, q11c⟩ := isOf hZ rfl u8_0
    obtain ⟨_, _, ⟨T11, L11, k11, n11⟩, -, X11, ⟨Lc11, hQ11, l11, y11, z11⟩, st11⟩ := X8.virtualBack hx (y := (⟨"com/example/bitmend/bitmend/PositionalColumns$DataPositions", "next", "()I"⟩ : MethodName)) (z := (⟨"com/example/bitmend/bitmend/PositionalColumns$DataPositions", "next", "()I"⟩ : MethodName)) hown (mvT hZ (hw _ (List.mem_of_getElem? (i := 47) rfl))) (mvT hZ (hw _ (List.mem_of_getElem? (i := 48) rfl))) (notFace_of_selects (args := #[]) (mvT hZ (hw _ (List.mem_of_getElem? (i := 50) rfl)))) (mvT hZ (hw _ (List.mem_of_getElem? (i := 50) rfl))) (mvT hZ (hw _ (List.mem_of_getElem? (i := 49) rfl))) (by decide) (backOf (W := 0) (rmnx1 l Z a0 hw [] b3 (3 : Int32) (2 : Int32) ((cp2_g28 ct2_g25ae) 2) b1 b2 32 (cp2_g28 ct2_g25ae) 3 T8.heap n0 u8_0 g_b3 u8_2 u8_3 u8_4 u8_1 f12 f13 ne_b1_b3 ne_b2_b3 (by decide +kernel) ⟨by decide, by decide⟩ (by decide +kernel)) hZ (hw _ (List.mem_of_getElem? (i := 51) rfl)) (hw _ (List.mem_of_getElem? (i := 33) rfl)) (by decide) (by decide)) q11a q11c (g := (mkF m 66 #[.val (.int i0), .val (.int (0 : Int32)), .val (.int (2 : Int32)), .val (.ref b1), .val (.ref b3), .val (.int f0_v62), .unset, .unset, .unset, .unset, .unset, .unset, .unset, .unset, .unset, .unset, .unset] [(.ref b3)])) rfl (by rw [hml]; rfl) (Steps.refl _) (argsL := []) (rest := []) (lenOf pd_8 rfl) rfl (by show 2 * 0 + _ ≤ _; exact Nat.le_of_eq rfl) (hb hby at_66) (fun _ _ => ⟨rfl, rfl, (by decide : 4 + 0 ≤ _), (by decide : 71 + 0 ≤ _)⟩)
    dsimp only [Pt.U, Pt.locs, Pt.cells, Pt.slots] at X11 l11 y11 z11 st11 hQ11
    subst l11 y11 z11
    obtain ⟨rfl, N11q, K11, u11_0, u11_1, u11_2, u11_3, u11_4⟩ := hQ11
    have N11 := Fr.app N8 N11q
    obtain ⟨Lh11, X11, N11⟩ := hide X11 N11 (C := 4) (S := 71) (by decide) (by decide)
    refine Outs.to st11 ?_
    refine Outs.of (U' := T11.setTop (mkF m 73 #[.val (.int i0), .val (.int (0 : Int32)), .val (.int (2 : Int32)), .val (.ref b1), .val (.ref b3), .val (.int f0_v62), .val (.int f0_v69), .unset, .unset, .unset, .unset, .unset, .unset, .unset, .unset, .unset, .unset] [(.ref b3)])) (fun t k => ?_) ?_
    · refine XS.istore X11.here hx rfl (hb hby at_69) rfl (l' := #[.val (.int i0), .val (.int (0 : Int32)), .val (.int (2 : Int32)), .val (.ref b1), .val (.ref b3), .val (.int f0_v62), .val (.int f0_v69), .unset, .unset, .unset, .unset, .unset, .unset, .unset, .unset, .unset, .unset]) rfl ?_
      refine XS.aload X11.here hx rfl (hb hby at_71) rfl rfl ?_
      exact k
    have f15 : Fld Z T11.heap b1 "com/example/bitmend/bitmend/PositionalColumns" "checkPositions" "[J" (.ref b2) := (f12.keep K11 (ninS ne_b1_b3 nin0))
    have f16 : AJ Z T11.heap b2 .long 32 (cp2_g28 ct2_g25ae) := (f13.keep K11 (ninS ne_b2_b3 nin0))
    obtain ⟨cq14, kq14, q14a, q14b, q14c⟩ := isOf hZ rfl u11_0
    obtain ⟨_, _, ⟨T14, L14, k14, n14⟩, -, X14, ⟨Lc14, hQ14, l14, y14, z14⟩, st14⟩ := X11.virtualBack hx (y := (⟨"com/example/bitmend/bitmend/PositionalColumns$DataPositions", "next", "()I"⟩ : MethodName)) (z := (⟨"com/example/bitmend/bitmend/PositionalColumns$DataPositions", "next", "()I"⟩ : MethodName)) hown (mvT hZ (hw _ (List.mem_of_getElem? (i := 47) rfl))) (mvT hZ (hw _ (List.mem_of_getElem? (i := 48) rfl))) (notFace_of_selects (args := #[]) (mvT hZ (hw _ (List.mem_of_getElem? (i := 50) rfl)))) (mvT hZ (hw _ (List.mem_of_getElem? (i := 50) rfl))) (mvT hZ (hw _ (List.mem_of_getElem? (i := 49) rfl))) (by decide) (backOf (W := 0) (rmnx0 l Z a0 hw [] b3 (5 : Int32) (3 : Int32) ((cp2_g28 ct2_g25ae) 3) b1 b2 32 (cp2_g28 ct2_g25ae) T11.heap n0 u11_0 g_b3 u11_2 u11_3 u11_4 u11_1 f15 f16 ne_b1_b3 ne_b2_b3 (by decide +kernel)) hZ (hw _ (List.mem_of_getElem? (i := 51) rfl)) (hw _ (List.mem_of_getElem? (i := 33) rfl)) (by decide) (by decide)) q14a q14c (g := (mkF m 73 #[.val (.int i0), .val (.int (0 : Int32)), .val (.int (2 : Int32)), .val (.ref b1), .val (.ref b3), .val (.int f0_v62), .val (.int f0_v69), .unset, .unset, .unset, .unset, .unset, .unset, .unset, .unset, .unset, .unset] [(.ref b3)])) rfl (by rw [hml]; rfl) (Steps.refl _) (argsL := []) (rest := []) (lenOf pd_8 rfl) rfl (by show 2 * 0 + _ ≤ _; exact Nat.le_of_eq rfl) (hb hby at_73) (fun _ _ => ⟨rfl, rfl, (by decide : 4 + 0 ≤ _), (by decide : 71 + 0 ≤ _)⟩)
    dsimp only [Pt.U, Pt.locs, Pt.cells, Pt.slots] at X14 l14 y14 z14 st14 hQ14
    subst l14 y14 z14
    obtain ⟨rfl, N14q, K14, u14_0, u14_1, u14_2, u14_3, u14_4⟩ := hQ14
    have N14 := Fr.app N11 N14q
    obtain ⟨Lh14, X14, N14⟩ := hide X14 N14 (C := 4) (S := 71) (by decide) (by decide)
    refine Outs.to st14 ?_
    refine Outs.of (U' := T14.setTop (mkF m 80 #[.val (.int i0), .val (.int (0 : Int32)), .val (.int (2 : Int32)), .val (.ref b1), .val (.ref b3), .val (.int f0_v62), .val (.int f0_v69), .val (.int f0_v76), .unset, .unset, .unset, .unset, .unset, .unset, .unset, .unset, .unset] [(.ref b3)])) (fun t k => ?_) ?_
    · refine XS.istore X14.here hx rfl (hb hby at_76) rfl (l' := #[.val (.int i0), .val (.int (0 : Int32)), .val (.int (2 : Int32)), .val (.ref b1), .val (.ref b3), .val (.int f0_v62), .val (.int f0_v69), .val (.int f0_v76), .unset, .unset, .unset, .unset, .unset, .unset, .unset, .unset, .unset]) rfl ?_
      refine XS.aload X14.here hx rfl (hb hby at_78) rfl rfl ?_
      exact k
    have f18 : Fld Z T14.heap b1 "com/example/bitmend/bitmend/PositionalColumns" "checkPositions" "[J" (.ref b2) := (f15.keep K14 (ninS ne_b1_b3 nin0))
    have f19 : AJ Z T14.heap b2 .long 32 (cp2_g28 ct2_g25ae) := (f16.keep K14 (ninS ne_b2_b3 nin0))
    obtain ⟨cq17, kq17, q17a, q17b, q17c⟩ := isOf hZ rfl u14_0
    obtain ⟨_, _, ⟨T17, L17, k17, n17⟩, -, X17, ⟨Lc17, hQ17, l17, y17, z17⟩, st17⟩ := X14.virtualBack hx (y := (⟨"com/example/bitmend/bitmend/PositionalColumns$DataPositions", "next", "()I"⟩ : MethodName)) (z := (⟨"com/example/bitmend/bitmend/PositionalColumns$DataPositions", "next", "()I"⟩ : MethodName)) hown (mvT hZ (hw _ (List.mem_of_getElem? (i := 47) rfl))) (mvT hZ (hw _ (List.mem_of_getElem? (i := 48) rfl))) (notFace_of_selects (args := #[]) (mvT hZ (hw _ (List.mem_of_getElem? (i := 50) rfl)))) (mvT hZ (hw _ (List.mem_of_getElem? (i := 50) rfl))) (mvT hZ (hw _ (List.mem_of_getElem? (i := 49) rfl))) (by decide) (backOf (W := 0) (rmnx0 l Z a0 hw [] b3 (6 : Int32) (3 : Int32) ((cp2_g28 ct2_g25ae) 3) b1 b2 32 (cp2_g28 ct2_g25ae) T14.heap n0 u14_0 g_b3 u14_2 u14_3 u14_4 u14_1 f18 f19 ne_b1_b3 ne_b2_b3 (by decide +kernel)) hZ (hw _ (List.mem_of_getElem? (i := 51) rfl)) (hw _ (List.mem_of_getElem? (i := 33) rfl)) (by decide) (by decide)) q17a q17c (g := (mkF m 80 #[.val (.int i0), .val (.int (0 : Int32)), .val (.int (2 : Int32)), .val (.ref b1), .val (.ref b3), .val (.int f0_v62), .val (.int f0_v69), .val (.int f0_v76), .unset, .unset, .unset, .unset, .unset, .unset, .unset, .unset, .unset] [(.ref b3)])) rfl (by rw [hml]; rfl) (Steps.refl _) (argsL := []) (rest := []) (lenOf pd_8 rfl) rfl (by show 2 * 0 + _ ≤ _; exact Nat.le_of_eq rfl) (hb hby at_80) (fun _ _ => ⟨rfl, rfl, (by decide : 4 + 0 ≤ _), (by decide : 71 + 0 ≤ _)⟩)
    dsimp only [Pt.U, Pt.locs, Pt.cells, Pt.slots] at X17 l17 y17 z17 st17 hQ17
    subst l17 y17 z17
    obtain ⟨rfl, N17q, K17, u17_0, u17_1, u17_2, u17_3, u17_4⟩ := hQ17
    have N17 := Fr.app N14 N17q
    obtain ⟨Lh17, X17, N17⟩ := hide X17 N17 (C := 4) (S := 71) (by decide) (by decide)
    refine Outs.to st17 ?_
    refine Outs.of (U' := T17.setTop (mkF m 87 #[.val (.int i0), .val (.int (0 : Int32)), .val (.int (2 : Int32)), .val (.ref b1), .val (.ref b3), .val (.int f0_v62), .val (.int f0_v69), .val (.int f0_v76), .val (.int f0_v83), .unset, .unset, .unset, .unset, .unset, .unset, .unset, .unset] [(.ref b3)])) (fun t k => ?_) ?_
    · refine XS.istore X17.here hx rfl (hb hby at_83) rfl (l' := #[.val (.int i0), .val (.int (0 : Int32)), .val (.int (2 : Int32)), .val (.ref b1), .val (.ref b3), .val (.int f0_v62), .val (.int f0_v69), .val (.int f0_v76), .val (.int f0_v83), .unset, .unset, .unset, .unset, .unset, .unset, .unset, .unset]) rfl ?_
      refine XS.aload X17.here hx rfl (hb hby at_85) rfl rfl ?_
      exact k
    have f21 : Fld Z T17.heap b1 "com/example/bitmend/bitmend/PositionalColumns" "checkPositions" "[J" (.ref b2) := (f18.keep K17 (ninS ne_b1_b3 nin0))
    have f22 : AJ Z T17.heap b2 .long 32 (cp2_g28 ct2_g25ae) := (f19.keep K17 (ninS ne_b2_b3 nin0))
    obtain ⟨cq20, kq20, q20a, q20b, q20c⟩ := isOf hZ rfl u17_0
    obtain ⟨_, _, ⟨T20, L20, k20, n20⟩, -, X20, ⟨Lc20, hQ20, l20, y20, z20⟩, st20⟩ := X17.virtualBack hx (y := (⟨"com/example/bitmend/bitmend/PositionalColumns$DataPositions", "next", "()I"⟩ : MethodName)) (z := (⟨"com/example/bitmend/bitmend/PositionalColumns$DataPositions", "next", "()I"⟩ : MethodName)) hown (mvT hZ (hw _ (List.mem_of_getElem? (i := 47) rfl))) (mvT hZ (hw _ (List.mem_of_getElem? (i := 48) rfl))) (notFace_of_selects (args := #[]) (mvT hZ (hw _ (List.mem_of_getElem? (i := 50) rfl)))) (mvT hZ (hw _ (List.mem_of_getElem? (i := 50) rfl))) (mvT hZ (hw _ (List.mem_of_getElem? (i := 49) rfl))) (by decide) (backOf (W := 0) (rmnx1 l Z a0 hw [] b3 (7 : Int32) (3 : Int32) ((cp2_g28 ct2_g25ae) 3) b1 b2 32 (cp2_g28 ct2_g25ae) 4 T17.heap n0 u17_0 g_b3 u17_2 u17_3 u17_4 u17_1 f21 f22 ne_b1_b3 ne_b2_b3 (by decide +kernel) ⟨by decide, by decide⟩ (by decide +kernel)) hZ (hw _ (List.mem_of_getElem? (i := 51) rfl)) (hw _ (List.mem_of_getElem? (i := 33) rfl)) (by decide) (by decide)) q20a q20c (g := (mkF m 87 #[.val (.int i0), .val (.int (0 : Int32)), .val (.int (2 : Int32)), .val (.ref b1), .val (.ref b3), .val (.int f0_v62), .val (.int f0_v69), .val (.int f0_v76), .val (.int f0_v83), .unset, .unset, .unset, .unset, .unset, .unset, .unset, .unset] [(.ref b3)])) rfl (by rw [hml]; rfl) (Steps.refl _) (argsL := []) (rest := []) (lenOf pd_8 rfl) rfl (by show 2 * 0 + _ ≤ _; exact Nat.le_of_eq rfl) (hb hby at_87) (fun _ _ => ⟨rfl, rfl, (by decide : 4 + 0 ≤ _), (by decide : 71 + 0 ≤ _)⟩)
    dsimp only [Pt.U, Pt.locs, Pt.cells, Pt.slots] at X20 l20 y20 z20 st20 hQ20
    subst l20 y20 z20
    obtain ⟨rfl, N20q, K20, u20_0, u20_1, u20_2, u20_3, u20_4⟩ := hQ20
    have N20 := Fr.app N17 N20q
    obtain ⟨Lh20, X20, N20⟩ := hide X20 N20 (C := 4) (S := 71) (by decide) (by decide)
    refine Outs.to st20 ?_
    refine Outs.of (U' := T20.setTop (mkF m 94 #[.val (.int i0), .val (.int (0 : Int32)), .val (.int (2 : Int32)), .val (.ref b1), .val (.ref b3), .val (.int f0_v62), .val (.int f0_v69), .val (.int f0_v76), .val (.int f0_v83), .val (.int f0_v90), .unset, .unset, .unset, .unset, .unset, .unset, .unset] [(.ref b3)])) (fun t k => ?_) ?_
    · refine XS.istore X20.here hx rfl (hb hby at_90) rfl (l' := #[.val (.int i0), .val (.int (0 : Int32)), .val (.int (2 : Int32)), .val (.ref b1), .val (.ref b3), .val (.int f0_v62), .val (.int f0_v69), .val (.int f0_v76), .val (.int f0_v83), .val (.int f0_v90), .unset, .unset, .unset, .unset, .unset, .unset, .unset]) rfl ?_
      refine XS.aload X20.here hx rfl (hb hby at_92) rfl rfl ?_
      exact k
    have f24 : Fld Z T20.heap b1 "com/example/bitmend/bitmend/PositionalColumns" "checkPositions" "[J" (.ref b2) := (f21.keep K20 (ninS ne_b1_b3 nin0))
    have f25 : AJ Z T20.heap b2 .long 32 (cp2_g28 ct2_g25ae) := (f22.keep K20 (ninS ne_b2_b3 nin0))
    obtain ⟨cq23, kq23, q23a, q23b, q23c⟩ := isOf hZ rfl u20_0
    obtain ⟨_, _, ⟨T23, L23, k23, n23⟩, -, X23, ⟨Lc23, hQ23, l23, y23, z23⟩, st23⟩ := X20.virtualBack hx (y := (⟨"com/example/bitmend/bitmend/PositionalColumns$DataPositions", "next", "()I"⟩ : MethodName)) (z := (⟨"com/example/bitmend/bitmend/PositionalColumns$DataPositions", "next", "()I"⟩ : MethodName)) hown (mvT hZ (hw _ (List.mem_of_getElem? (i := 47) rfl))) (mvT hZ (hw _ (List.mem_of_getElem? (i := 48) rfl))) (notFace_of_selects (args := #[]) (mvT hZ (hw _ (List.mem_of_getElem? (i := 50) rfl)))) (mvT hZ (hw _ (List.mem_of_getElem? (i := 50) rfl))) (mvT hZ (hw _ (List.mem_of_getElem? (i := 49) rfl))) (by decide) (backOf (W := 0) (rmnx0 l Z a0 hw [] b3 (9 : Int32) (4 : Int32) ((cp2_g28 ct2_g25ae) 4) b1 b2 32 (cp2_g28 ct2_g25ae) T20.heap n0 u20_0 g_b3 u20_2 u20_3 u20_4 u20_1 f24 f25 ne_b1_b3 ne_b2_b3 (by decide +kernel)) hZ (hw _ (List.mem_of_getElem? (i := 51) rfl)) (hw _ (List.mem_of_getElem? (i := 33) rfl)) (by decide) (by decide)) q23a q23c (g := (mkF m 94 #[.val (.int i0), .val (.int (0 : Int32)), .val (.int (2 : Int32)), .val (.ref b1), .val (.ref b3), .val (.int f0_v62), .val (.int f0_v69), .val (.int f0_v76), .val (.int f0_v83), .val (.int f0_v90), .unset, .unset, .unset, .unset, .unset, .unset, .unset] [(.ref b3)])) rfl (by rw [hml]; rfl) (Steps.refl _) (argsL := []) (rest := []) (lenOf pd_8 rfl) rfl (by show 2 * 0 + _ ≤ _; exact Nat.le_of_eq rfl) (hb hby at_94) (fun _ _ => ⟨rfl, rfl, (by decide : 4 + 0 ≤ _), (by decide : 71 + 0 ≤ _)⟩)
    dsimp only [Pt.U, Pt.locs, Pt.cells, Pt.slots] at X23 l23 y23 z23 st23 hQ23
    subst l23 y23 z23
    obtain ⟨rfl, N23q, K23, u23_0, u23_1, u23_2, u23_3, u23_4⟩ := hQ23
    have N23 := Fr.app N20 N23q
    obtain ⟨Lh23, X23, N23⟩ := hide X23 N23 (C := 4) (S := 71) (by decide) (by decide)
    refine Outs.to st23 ?_
    refine Outs.of (U' := T23.setTop (mkF m 101 #[.val (.int i0), .val (.int (0 : Int32)), .val (.int (2 : Int32)), .val (.ref b1), .val (.ref b3), .val (.int f0_v62), .val (.int f0_v69), .val (.int f0_v76), .val (.int f0_v83), .val (.int f0_v90), .val (.int f0_v97), .unset, .unset, .unset, .unset, .unset, .unset] [(.ref b3)])) (fun t k => ?_) ?_
    · refine XS.istore X23.here hx rfl (hb hby at_97) rfl (l' := #[.val (.int i0), .val (.int (0 : Int32)), .val (.int (2 : Int32)), .val (.ref b1), .val (.ref b3), .val (.int f0_v62), .val (.int f0_v69), .val (.int f0_v76), .val (.int f0_v83), .val (.int f0_v90), .val (.int f0_v97), .unset, .unset, .unset, .unset, .unset, .unset]) rfl ?_
      refine XS.aload X23.here hx rfl (hb hby at_99) rfl rfl ?_
      exact k
    have f27 : Fld Z T23.heap b1 "com/example/bitmend/bitmend/PositionalColumns" "checkPositions" "[J" (.ref b2) := (f24.keep K23 (ninS ne_b1_b3 nin0))
    have f28 : AJ Z T23.heap b2 .long 32 (cp2_g28 ct2_g25ae) := (f25.keep K23 (ninS ne_b2_b3 nin0))
    obtain ⟨cq26, kq26, q26a, q26b, q26c⟩ := isOf hZ rfl u23_0
    obtain ⟨_, _, ⟨T26, L26, k26, n26⟩, -, X26, ⟨Lc26, hQ26, l26, y26, z26⟩, st26⟩ := X23.virtualBack hx (y := (⟨"com/example/bitmend/bitmend/PositionalColumns$DataPositions", "next", "()I"⟩ : MethodName)) (z := (⟨"com/example/bitmend/bitmend/PositionalColumns$DataPositions", "next", "()I"⟩ : MethodName)) hown (mvT hZ (hw _ (List.mem_of_getElem? (i := 47) rfl))) (mvT hZ (hw _ (List.mem_of_getElem? (i := 48) rfl))) (notFace_of_selects (args := #[]) (mvT hZ (hw _ (List.mem_of_getElem? (i := 50) rfl)))) (mvT hZ (hw _ (List.mem_of_getElem? (i := 50) rfl))) (mvT hZ (hw _ (List.mem_of_getElem? (i := 49) rfl))) (by decide) (backOf (W := 0) (rmnx0 l Z a0 hw [] b3 (10 : Int32) (4 : Int32) ((cp2_g28 ct2_g25ae) 4) b1 b2 32 (cp2_g28 ct2_g25ae) T23.heap n0 u23_0 g_b3 u23_2 u23_3 u23_4 u23_1 f27 f28 ne_b1_b3 ne_b2_b3 (by decide +kernel)) hZ (hw _ (List.mem_of_getElem? (i := 51) rfl)) (hw _ (List.mem_of_getElem? (i := 33) rfl)) (by decide) (by decide)) q26a q26c (g := (mkF m 101 #[.val (.int i0), .val (.int (0 : Int32)), .val (.int (2 : Int32)), .val (.ref b1), .val (.ref b3), .val (.int f0_v62), .val (.int f0_v69), .val (.int f0_v76), .val (.int f0_v83), .val (.int f0_v90), .val (.int f0_v97), .unset, .unset, .unset, .unset, .unset, .unset] [(.ref b3)])) rfl (by rw [hml]; rfl) (Steps.refl _) (argsL := []) (rest := []) (lenOf pd_8 rfl) rfl (by show 2 * 0 + _ ≤ _; exact Nat.le_of_eq rfl) (hb hby at_101) (fun _ _ => ⟨rfl, rfl, (by decide : 4 + 0 ≤ _), (by decide : 71 + 0 ≤ _)⟩)
    dsimp only [Pt.U, Pt.locs, Pt.cells, Pt.slots] at X26 l26 y26 z26 st26 hQ26
    subst l26 y26 z26
    obtain ⟨rfl, N26q, K26, u26_0, u26_1, u26_2, u26_3, u26_4⟩ := hQ26
    have N26 := Fr.app N23 N26q
    obtain ⟨Lh26, X26, N26⟩ := hide X26 N26 (C := 4) (S := 71) (by decide) (by decide)
    refine Outs.to st26 ?_
    refine Outs.of (U' := T26.setTop (mkF m 108 #[.val (.int i0), .val (.int (0 : Int32)), .val (.int (2 : Int32)), .val (.ref b1), .val (.ref b3), .val (.int f0_v62), .val (.int f0_v69), .val (.int f0_v76), .val (.int f0_v83), .val (.int f0_v90), .val (.int f0_v97), .val (.int f0_v104), .unset, .unset, .unset, .unset, .unset] [(.ref b3)])) (fun t k => ?_) ?_
    · refine XS.istore X26.here hx rfl (hb hby at_104) rfl (l' := #[.val (.int i0), .val (.int (0 : Int32)), .val (.int (2 : Int32)), .val (.ref b1), .val (.ref b3), .val (.int f0_v62), .val (.int f0_v69), .val (.int f0_v76), .val (.int f0_v83), .val (.int f0_v90), .val (.int f0_v97), .val (.int f0_v104), .unset, .unset, .unset, .unset, .unset]) rfl ?_
      refine XS.aload X26.here hx rfl (hb hby at_106) rfl rfl ?_
      exact k
    have f30 : Fld Z T26.heap b1 "com/example/bitmend/bitmend/PositionalColumns" "checkPositions" "[J" (.ref b2) := (f27.keep K26 (ninS ne_b1_b3 nin0))
    have f31 : AJ Z T26.heap b2 .long 32 (cp2_g28 ct2_g25ae) := (f28.keep K26 (ninS ne_b2_b3 nin0))
    obtain ⟨cq29, kq29, q29a, q29b, q29c⟩ := isOf hZ rfl u26_0
    obtain ⟨_, _, ⟨T29, L29, k29, n29⟩, -, X29, ⟨Lc29, hQ29, l29, y29, z29⟩, st29⟩ := X26.virtualBack hx (y := (⟨"com/example/bitmend/bitmend/PositionalColumns$DataPositions", "next", "()I"⟩ : MethodName)) (z := (⟨"com/example/bitmend/bitmend/PositionalColumns$DataPositions", "next", "()I"⟩ : MethodName)) hown (mvT hZ (hw _ (List.mem_of_getElem? (i := 47) rfl))) (mvT hZ (hw _ (List.mem_of_getElem? (i := 48) rfl))) (notFace_of_selects (args := #[]) (mvT hZ (hw _ (List.mem_of_getElem? (i := 50) rfl)))) (mvT hZ (hw _ (List.mem_of_getElem? (i := 50) rfl))) (mvT hZ (hw _ (List.mem_of_getElem? (i := 49) rfl))) (by decide) (backOf (W := 0) (rmnx0 l Z a0 hw [] b3 (11 : Int32) (4 : Int32) ((cp2_g28 ct2_g25ae) 4) b1 b2 32 (cp2_g28 ct2_g25ae) T26.heap n0 u26_0 g_b3 u26_2 u26_3 u26_4 u26_1 f30 f31 ne_b1_b3 ne_b2_b3 (by decide +kernel)) hZ (hw _ (List.mem_of_getElem? (i := 51) rfl)) (hw _ (List.mem_of_getElem? (i := 33) rfl)) (by decide) (by decide)) q29a q29c (g := (mkF m 108 #[.val (.int i0), .val (.int (0 : Int32)), .val (.int (2 : Int32)), .val (.ref b1), .val (.ref b3), .val (.int f0_v62), .val (.int f0_v69), .val (.int f0_v76), .val (.int f0_v83), .val (.int f0_v90), .val (.int f0_v97), .val (.int f0_v104), .unset, .unset, .unset, .unset, .unset] [(.ref b3)])) rfl (by rw [hml]; rfl) (Steps.refl _) (argsL := []) (rest := []) (lenOf pd_8 rfl) rfl (by show 2 * 0 + _ ≤ _; exact Nat.le_of_eq rfl) (hb hby at_108) (fun _ _ => ⟨rfl, rfl, (by decide : 4 + 0 ≤ _), (by decide : 71 + 0 ≤ _)⟩)
    dsimp only [Pt.U, Pt.locs, Pt.cells, Pt.slots] at X29 l29 y29 z29 st29 hQ29
    subst l29 y29 z29
    obtain ⟨rfl, N29q, K29, u29_0, u29_1, u29_2, u29_3, u29_4⟩ := hQ29
    have N29 := Fr.app N26 N29q
    obtain ⟨Lh29, X29, N29⟩ := hide X29 N29 (C := 4) (S := 71) (by decide) (by decide)
    refine Outs.to st29 ?_
    refine Outs.of (U' := T29.setTop (mkF m 115 #[.val (.int i0), .val (.int (0 : Int32)), .val (.int (2 : Int32)), .val (.ref b1), .val (.ref b3), .val (.int f0_v62), .val (.int f0_v69), .val (.int f0_v76), .val (.int f0_v83), .val (.int f0_v90), .val (.int f0_v97), .val (.int f0_v104), .val (.int f0_v111), .unset, .unset, .unset, .unset] [(.ref b3)])) (fun t k => ?_) ?_
    · refine XS.istore X29.here hx rfl (hb hby at_111) rfl (l' := #[.val (.int i0), .val (.int (0 : Int32)), .val (.int (2 : Int32)), .val (.ref b1), .val (.ref b3), .val (.int f0_v62), .val (.int f0_v69), .val (.int f0_v76), .val (.int f0_v83), .val (.int f0_v90), .val (.int f0_v97), .val (.int f0_v104), .val (.int f0_v111), .unset, .unset, .unset, .unset]) rfl ?_
      refine XS.aload X29.here hx rfl (hb hby at_113) rfl rfl ?_
      exact k
    have f33 : Fld Z T29.heap b1 "com/example/bitmend/bitmend/PositionalColumns" "checkPositions" "[J" (.ref b2) := (f30.keep K29 (ninS ne_b1_b3 nin0))
    have f34 : AJ Z T29.heap b2 .long 32 (cp2_g28 ct2_g25ae) := (f31.keep K29 (ninS ne_b2_b3 nin0))
    obtain ⟨cq32, kq32, q32a, q32b, q32c⟩ := isOf hZ rfl u29_0
    obtain ⟨_, _, ⟨T32, L32, k32, n32⟩, -, X32, ⟨Lc32, hQ32, l32, y32, z32⟩, st32⟩ := X29.virtualBack hx (y := (⟨"com/example/bitmend/bitmend/PositionalColumns$DataPositions", "next", "()I"⟩ : MethodName)) (z := (⟨"com/example/bitmend/bitmend/PositionalColumns$DataPositions", "next", "()I"⟩ : MethodName)) hown (mvT hZ (hw _ (List.mem_of_getElem? (i := 47) rfl))) (mvT hZ (hw _ (List.mem_of_getElem? (i := 48) rfl))) (notFace_of_selects (args := #[]) (mvT hZ (hw _ (List.mem_of_getElem? (i := 50) rfl)))) (mvT hZ (hw _ (List.mem_of_getElem? (i := 50) rfl))) (mvT hZ (hw _ (List.mem_of_getElem? (i := 49) rfl))) (by decide) (backOf (W := 0) (rmnx0 l Z a0 hw [] b3 (12 : Int32) (4 : Int32) ((cp2_g28 ct2_g25ae) 4) b1 b2 32 (cp2_g28 ct2_g25ae) T29.heap n0 u29_0 g_b3 u29_2 u29_3 u29_4 u29_1 f33 f34 ne_b1_b3 ne_b2_b3 (by decide +kernel)) hZ (hw _ (List.mem_of_getElem? (i := 51) rfl)) (hw _ (List.mem_of_getElem? (i := 33) rfl)) (by decide) (by decide)) q32a q32c (g := (mkF m 115 #[.val (.int i0), .val (.int (0 : Int32)), .val (.int (2 : Int32)), .val (.ref b1), .val (.ref b3), .val (.int f0_v62), .val (.int f0_v69), .val (.int f0_v76), .val (.int f0_v83), .val (.int f0_v90), .val (.int f0_v97), .val (.int f0_v104), .val (.int f0_v111), .unset, .unset, .unset, .unset] [(.ref b3)])) rfl (by rw [hml]; rfl) (Steps.refl _) (argsL := []) (rest := []) (lenOf pd_8 rfl) rfl (by show 2 * 0 + _ ≤ _; exact Nat.le_of_eq rfl) (hb hby at_115) (fun _ _ => ⟨rfl, rfl, (by decide : 4 + 0 ≤ _), (by decide : 71 + 0 ≤ _)⟩)
    dsimp only [Pt.U, Pt.locs, Pt.cells, Pt.slots] at X32 l32 y32 z32 st32 hQ32
    subst l32 y32 z32
    obtain ⟨rfl, N32q, K32, u32_0, u32_1, u32_2, u32_3, u32_4⟩ := hQ32
    have N32 := Fr.app N29 N32q
    obtain ⟨Lh32, X32, N32⟩ := hide X32 N32 (C := 4) (S := 71) (by decide) (by decide)
    refine Outs.to st32 ?_
    refine Outs.of (U' := T32.setTop (mkF m 122 #[.val (.int i0), .val (.int (0 : Int32)), .val (.int (2 : Int32)), .val (.ref b1), .val (.ref b3), .val (.int f0_v62), .val (.int f0_v69), .val (.int f0_v76), .val (.int f0_v83), .val (.int f0_v90), .val (.int f0_v97), .val (.int f0_v104), .val (.int f0_v111), .val (.int f0_v118), .unset, .unset, .unset] [(.ref b3)])) (fun t k => ?_) ?_
    · refine XS.istore X32.here hx rfl (hb hby at_118) rfl (l' := #[.val (.int i0), .val (.int (0 : Int32)), .val (.int (2 : Int32)), .val (.ref b1), .val (.ref b3), .val (.int f0_v62), .val (.int f0_v69), .val (.int f0_v76), .val (.int f0_v83), .val (.int f0_v90), .val (.int f0_v97), .val (.int f0_v104), .val (.int f0_v111), .val (.int f0_v118), .unset, .unset, .unset]) rfl ?_
      refine XS.aload X32.here hx rfl (hb hby at_120) rfl rfl ?_
      exact k
    have f36 : Fld Z T32.heap b1 "com/example/bitmend/bitmend/PositionalColumns" "checkPositions" "[J" (.ref b2) := (f33.keep K32 (ninS ne_b1_b3 nin0))
    have f37 : AJ Z T32.heap b2 .long 32 (cp2_g28 ct2_g25ae) := (f34.keep K32 (ninS ne_b2_b3 nin0))
    obtain ⟨cq35, kq35, q35a, q35b, q35c⟩ := isOf hZ rfl u32_0
    obtain ⟨_, _, ⟨T35, L35, k35, n35⟩, -, X35, ⟨Lc35, hQ35, l35, y35, z35⟩, st35⟩ := X32.virtualBack hx (y := (⟨"com/example/bitmend/bitmend/PositionalColumns$DataPositions", "next", "()I"⟩ : MethodName)) (z := (⟨"com/example/bitmend/bitmend/PositionalColumns$DataPositions", "next", "()I"⟩ : MethodName)) hown (mvT hZ (hw _ (List.mem_of_getElem? (i := 47) rfl))) (mvT hZ (hw _ (List.mem_of_getElem? (i := 48) rfl))) (notFace_of_selects (args := #[]) (mvT hZ (hw _ (List.mem_of_getElem? (i := 50) rfl)))) (mvT hZ (hw _ (List.mem_of_getElem? (i := 50) rfl))) (mvT hZ (hw _ (List.mem_of_getElem? (i := 49) rfl))) (by decide) (backOf (W := 0) (rmnx0 l Z a0 hw [] b3 (13 : Int32) (4 : Int32) ((cp2_g28 ct2_g25ae) 4) b1 b2 32 (cp2_g28 ct2_g25ae) T32.heap n0 u32_0 g_b3 u32_2 u32_3 u32_4 u32_1 f36 f37 ne_b1_b3 ne_b2_b3 (by decide +kernel)) hZ (hw _ (List.mem_of_getElem? (i := 51) rfl)) (hw _ (List.mem_of_getElem? (i := 33) rfl)) (by decide) (by decide)) q35a q35c (g := (mkF m 122 #[.val (.int i0), .val (.int (0 : Int32)), .val (.int (2 : Int32)), .val (.ref b1), .val (.ref b3), .val (.int f0_v62), .val (.int f0_v69), .val (.int f0_v76), .val (.int f0_v83), .val (.int f0_v90), .val (.int f0_v97), .val (.int f0_v104), .val (.int f0_v111), .val (.int f0_v118), .unset, .unset, .unset] [(.ref b3)])) rfl (by rw [hml]; rfl) (Steps.refl _) (argsL := []) (rest := []) (lenOf pd_8 rfl) rfl (by show 2 * 0 + _ ≤ _; exact Nat.le_of_eq rfl) (hb hby at_122) (fun _ _ => ⟨rfl, rfl, (by decide : 4 + 0 ≤ _), (by decide : 71 + 0 ≤ _)⟩)
    dsimp only [Pt.U, Pt.locs, Pt.cells, Pt.slots] at X35 l35 y35 z35 st35 hQ35
    subst l35 y35 z35
    obtain ⟨rfl, N35q, K35, u35_0, u35_1, u35_2, u35_3, u35_4⟩ := hQ35
    have N35 := Fr.app N32 N35q
    obtain ⟨Lh35, X35, N35⟩ := hide X35 N35 (C := 4) (S := 71) (by decide) (by decide)
    refine Outs.to st35 ?_
    refine Outs.of (U' := T35.setTop (mkF m 129 #[.val (.int i0), .val (.int (0 : Int32)), .val (.int (2 : Int32)), .val (.ref b1), .val (.ref b3), .val (.int f0_v62), .val (.int f0_v69), .val (.int f0_v76), .val (.int f0_v83), .val (.int f0_v90), .val (.int f0_v97), .val (.int f0_v104), .val (.int f0_v111), .val (.int f0_v118), .val (.int f0_v125), .unset, .unset] [(.ref b3)])) (fun t k => ?_) ?_
    · refine XS.istore X35.here hx rfl (hb hby at_125) rfl (l' := #[.val (.int i0), .val (.int (0 : Int32)), .val (.int (2 : Int32)), .val (.ref b1), .val (.ref b3), .val (.int f0_v62), .val (.int f0_v69), .val (.int f0_v76), .val (.int f0_v83), .val (.int f0_v90), .val (.int f0_v97), .val (.int f0_v104), .val (.int f0_v111), .val (.int f0_v118), .val (.int f0_v125), .unset, .unset]) rfl ?_
      refine XS.aload X35.here hx rfl (hb hby at_127) rfl rfl ?_
      exact k
    have f39 : Fld Z T35.heap b1 "com/example/bitmend/bitmend/PositionalColumns" "checkPositions" "[J" (.ref b2) := (f36.keep K35 (ninS ne_b1_b3 nin0))
    have f40 : AJ Z T35.heap b2 .long 32 (cp2_g28 ct2_g25ae) := (f37.keep K35 (ninS ne_b2_b3 nin0))
    obtain ⟨cq38, kq38, q38a, q38b, q38c⟩ := isOf hZ rfl u35_0
    obtain ⟨_, _, ⟨T38, L38, k38, n38⟩, -, X38, ⟨Lc38, hQ38, l38, y38, z38⟩, st38⟩ := X35.virtualBack hx (y := (⟨"com/example/bitmend/bitmend/PositionalColumns$DataPositions", "next", "()I"⟩ : MethodName)) (z := (⟨"com/example/bitmend/bitmend/PositionalColumns$DataPositions", "next", "()I"⟩ : MethodName)) hown (mvT hZ (hw _ (List.mem_of_getElem? (i := 47) rfl))) (mvT hZ (hw _ (List.mem_of_getElem? (i := 48) rfl))) (notFace_of_selects (args := #[]) (mvT hZ (hw _ (List.mem_of_getElem? (i := 50) rfl)))) (mvT hZ (hw _ (List.mem_of_getElem? (i := 50) rfl))) (mvT hZ (hw _ (List.mem_of_getElem? (i := 49) rfl))) (by decide) (backOf (W := 0) (rmnx0 l Z a0 hw [] b3 (14 : Int32) (4 : Int32) ((cp2_g28 ct2_g25ae) 4) b1 b2 32 (cp2_g28 ct2_g25ae) T35.heap n0 u35_0 g_b3 u35_2 u35_3 u35_4 u35_1 f39 f40 ne_b1_b3 ne_b2_b3 (by decide +kernel)) hZ (hw _ (List.mem_of_getElem? (i := 51) rfl)) (hw _ (List.mem_of_getElem? (i := 33) rfl)) (by decide) (by decide)) q38a q38c (g := (mkF m 129 #[.val (.int i0), .val (.int (0 : Int32)), .val (.int (2 : Int32)), .val (.ref b1), .val (.ref b3), .val (.int f0_v62), .val (.int f0_v69), .val (.int f0_v76), .val (.int f0_v83), .val (.int f0_v90), .val (.int f0_v97), .val (.int f0_v104), .val (.int f0_v111), .val (.int f0_v118), .val (.int f0_v125), .unset, .unset] [(.ref b3)])) rfl (by rw [hml]; rfl) (Steps.refl _) (argsL := []) (rest := []) (lenOf pd_8 rfl) rfl (by show 2 * 0 + _ ≤ _; exact Nat.le_of_eq rfl) (hb hby at_129) (fun _ _ => ⟨rfl, rfl, (by decide : 4 + 0 ≤ _), (by decide : 71 + 0 ≤ _)⟩)
    dsimp only [Pt.U, Pt.locs, Pt.cells, Pt.slots] at X38 l38 y38 z38 st38 hQ38
    subst l38 y38 z38
    obtain ⟨rfl, N38q, K38, u38_0, u38_1, u38_2, u38_3, u38_4⟩ := hQ38
    have N38 := Fr.app N35 N38q
    obtain ⟨Lh38, X38, N38⟩ := hide X38 N38 (C := 4) (S := 71) (by decide) (by decide)
    refine Outs.to st38 ?_
    refine Outs.of (U' := T38.setTop (mkF m 136 #[.val (.int i0), .val (.int (0 : Int32)), .val (.int (2 : Int32)), .val (.ref b1), .val (.ref b3), .val (.int f0_v62), .val (.int f0_v69), .val (.int f0_v76), .val (.int f0_v83), .val (.int f0_v90), .val (.int f0_v97), .val (.int f0_v104), .val (.int f0_v111), .val (.int f0_v118), .val (.int f0_v125), .val (.int f0_v132), .unset] [(.ref b3)])) (fun t k => ?_) ?_
    · refine XS.istore X38.here hx rfl (hb hby at_132) rfl (l' := #[.val (.int i0), .val (.int (0 : Int32)), .val (.int (2 : Int32)), .val (.ref b1), .val (.ref b3), .val (.int f0_v62), .val (.int f0_v69), .val (.int f0_v76), .val (.int f0_v83), .val (.int f0_v90), .val (.int f0_v97), .val (.int f0_v104), .val (.int f0_v111), .val (.int f0_v118), .val (.int f0_v125), .val (.int f0_v132), .unset]) rfl ?_
      refine XS.aload X38.here hx rfl (hb hby at_134) rfl rfl ?_
      exact k
    have f42 : Fld Z T38.heap b1 "com/example/bitmend/bitmend/PositionalColumns" "checkPositions" "[J" (.ref b2) := (f39.keep K38 (ninS ne_b1_b3 nin0))
    have f43 : AJ Z T38.heap b2 .long 32 (cp2_g28 ct2_g25ae) := (f40.keep K38 (ninS ne_b2_b3 nin0))
    obtain ⟨cq41, kq41, q41a, q41b, q41c⟩ := isOf hZ rfl u38_0
    obtain ⟨_, _, ⟨T41, L41, k41, n41⟩, -, X41, ⟨Lc41, hQ41, l41, y41, z41⟩, st41⟩ := X38.virtualBack hx (y := (⟨"com/example/bitmend/bitmend/PositionalColumns$DataPositions", "next", "()I"⟩ : MethodName)) (z := (⟨"com/example/bitmend/bitmend/PositionalColumns$DataPositions", "next", "()I"⟩ : MethodName)) hown (mvT hZ (hw _ (List.mem_of_getElem? (i := 47) rfl))) (mvT hZ (hw _ (List.mem_of_getElem? (i := 48) rfl))) (notFace_of_selects (args := #[]) (mvT hZ (hw _ (List.mem_of_getElem? (i := 50) rfl)))) (mvT hZ (hw _ (List.mem_of_getElem? (i := 50) rfl))) (mvT hZ (hw _ (List.mem_of_getElem? (i := 49) rfl))) (by decide) (backOf (W := 0) (rmnx1 l Z a0 hw [] b3 (15 : Int32) (4 : Int32) ((cp2_g28 ct2_g25ae) 4) b1 b2 32 (cp2_g28 ct2_g25ae) 5 T38.heap n0 u38_0 g_b3 u38_2 u38_3 u38_4 u38_1 f42 f43 ne_b1_b3 ne_b2_b3 (by decide +kernel) ⟨by decide, by decide⟩ (by decide +kernel)) hZ (hw _ (List.mem_of_getElem? (i := 51) rfl)) (hw _ (List.mem_of_getElem? (i := 33) rfl)) (by decide) (by decide)) q41a q41c (g := (mkF m 136 #[.val (.int i0), .val (.int (0 : Int32)), .val (.int (2 : Int32)), .val (.ref b1), .val (.ref b3), .val (.int f0_v62), .val (.int f0_v69), .val (.int f0_v76), .val (.int f0_v83), .val (.int f0_v90), .val (.int f0_v97), .val (.int f0_v104), .val (.int f0_v111), .val (.int f0_v118), .val (.int f0_v125), .val (.int f0_v132), .unset] [(.ref b3)])) rfl (by rw [hml]; rfl) (Steps.refl _) (argsL := []) (rest := []) (lenOf pd_8 rfl) rfl (by show 2 * 0 + _ ≤ _; exact Nat.le_of_eq rfl) (hb hby at_136) (fun _ _ => ⟨rfl, rfl, (by decide : 4 + 0 ≤ _), (by decide : 71 + 0 ≤ _)⟩)
    dsimp only [Pt.U, Pt.locs, Pt.cells, Pt.slots] at X41 l41 y41 z41 st41 hQ41
    subst l41 y41 z41
    obtain ⟨rfl, N41q, K41, u41_0, u41_1, u41_2, u41_3, u41_4⟩ := hQ41
    have N41 := Fr.app N38 N41q
    obtain ⟨Lh41, X41, N41⟩ := hide X41 N41 (C := 4) (S := 71) (by decide) (by decide)
    refine Outs.to st41 ?_
    refine Outs.of (U' := T41.setTop (mkF m 145 #[.val (.int i0), .val (.int (0 : Int32)), .val (.int (2 : Int32)), .val (.ref b1), .val (.ref b3), .val (.int f0_v62), .val (.int f0_v69), .val (.int f0_v76), .val (.int f0_v83), .val (.int f0_v90), .val (.int f0_v97), .val (.int f0_v104), .val (.int f0_v111), .val (.int f0_v118), .val (.int f0_v125), .val (.int f0_v132), .val (.int f0_v139)] [(.int (1 : Int32)), (.int (2 : Int32)), (.int f0_v62)])) (fun t k => ?_) ?_
    · refine XS.istore X41.here hx rfl (hb hby at_139) rfl (l' := #[.val (.int i0), .val (.int (0 : Int32)), .val (.int (2 : Int32)), .val (.ref b1), .val (.ref b3), .val (.int f0_v62), .val (.int f0_v69), .val (.int f0_v76), .val (.int f0_v83), .val (.int f0_v90), .val (.int f0_v97), .val (.int f0_v104), .val (.int f0_v111), .val (.int f0_v118), .val (.int f0_v125), .val (.int f0_v132), .val (.int f0_v139)]) rfl ?_
      refine XS.iload X41.here hx rfl (hb hby at_141) rfl ?_
      refine XS.iloadN X41.here hx rfl (hb hby at_143) rfl ?_
      refine XS.iconst X41.here hx rfl (hb hby at_144) ?_
      exact k
    obtain ⟨_, _, ⟨T44, L44, k44, n44⟩, -, X44, ⟨Lc44, hQ44, l44, y44, z44⟩, st44⟩ := Jvm.LawKit.callS X41 hx (y := (⟨"com/example/bitmend/bitmend/DataPositionsNextPinLaw", "expected", "(II)I"⟩ : MethodName)) hown (mvT hZ (hw _ (List.mem_of_getElem? (i := 56) rfl))) (mvT hZ (hw _ (List.mem_of_getElem? (i := 57) rfl))) (mvT hZ (hw _ (List.mem_of_getElem? (i := 58) rfl))) (mvT hZ (hw _ (List.mem_of_getElem? (i := 59) rfl))) (by decide) (backOf (W := 1) (rm9 l Z a0 hw [] (2 : Int32) (1 : Int32) T41.heap n0 ) hZ (hw _ (List.mem_of_getElem? (i := 59) rfl)) (hw _ (List.mem_of_getElem? (i := 58) rfl)) (by decide) (by decide)) (g := (mkF m 145 #[.val (.int i0), .val (.int (0 : Int32)), .val (.int (2 : Int32)), .val (.ref b1), .val (.ref b3), .val (.int f0_v62), .val (.int f0_v69), .val (.int f0_v76), .val (.int f0_v83), .val (.int f0_v90), .val (.int f0_v97), .val (.int f0_v104), .val (.int f0_v111), .val (.int f0_v118), .val (.int f0_v125), .val (.int f0_v132), .val (.int f0_v139)] [(.int (1 : Int32)), (.int (2 : Int32)), (.int f0_v62)])) rfl (by rw [hml]; rfl) (argsL := [(.int (2 : Int32)), (.int (1 : Int32))]) (rest := [(.int f0_v62)]) (lenOf pd_4 rfl) rfl (by show 2 * 0 + _ ≤ _; exact Nat.le_of_eq rfl) (hb hby at_145) (fun _ _ => ⟨rfl, rfl, (by decide : 4 + 0 ≤ _), (by decide : 71 + 0 ≤ _)⟩)
    dsimp only [Pt.U, Pt.locs, Pt.cells, Pt.slots] at X44 l44 y44 z44 st44 hQ44
    subst l44 y44 z44
    obtain ⟨rfl, N44q, e44⟩ := hQ44
    have N44 := Fr.app N41 N44q
    obtain ⟨Lh44, X44, N44⟩ := hide X44 N44 (C := 4) (S := 71) (by decide) (by decide)
    refine Outs.of st44 ?_
    refine Outs.of (U' := T44.setTop (mkF m 155 #[.val (.int i0), .val (.int (0 : Int32)), .val (.int (2 : Int32)), .val (.ref b1), .val (.ref b3), .val (.int f0_v62), .val (.int f0_v69), .val (.int f0_v76), .val (.int f0_v83), .val (.int f0_v90), .val (.int f0_v97), .val (.int f0_v104), .val (.int f0_v111), .val (.int f0_v118), .val (.int f0_v125), .val (.int f0_v132), .val (.int f0_v139)] [(.int (2 : Int32)), (.int (2 : Int32)), (.int f0_v69)])) (fun t k => ?_) ?_
    · refine XS.icmpNo X44.here hx rfl (hb hby at_148) rfl (teq (show f0_v62 = (F_f9 (2 : Int32) (1 : Int32)) from (by decide +kernel))).2 ?_
      refine XS.iload X44.here hx rfl (hb hby at_151) rfl ?_
      refine XS.iloadN X44.here hx rfl (hb hby at_153) rfl ?_
      refine XS.iconst X44.here hx rfl (hb hby at_154) ?_
      exact k
    obtain ⟨_, _, ⟨T45, L45, k45, n45⟩, -, X45, ⟨Lc45, hQ45, l45, y45, z45⟩, st45⟩ := Jvm.LawKit.callS X44 hx (y := (⟨"com/example/bitmend/bitmend/DataPositionsNextPinLaw", "expected", "(II)I"⟩ : MethodName)) hown (mvT hZ (hw _ (List.mem_of_getElem? (i := 56) rfl))) (mvT hZ (hw _ (List.mem_of_getElem? (i := 57) rfl))) (mvT hZ (hw _ (List.mem_of_getElem? (i := 58) rfl))) (mvT hZ (hw _ (List.mem_of_getElem? (i := 59) rfl))) (by decide) (backOf (W := 1) (rm9 l Z a0 hw [] (2 : Int32) (2 : Int32) T41.heap n0 ) hZ (hw _ (List.mem_of_getElem? (i := 59) rfl)) (hw _ (List.mem_of_getElem? (i := 58) rfl)) (by decide) (by decide)) (g := (mkF m 155 #[.val (.int i0), .val (.int (0 : Int32)), .val (.int (2 : Int32)), .val (.ref b1), .val (.ref b3), .val (.int f0_v62), .val (.int f0_v69), .val (.int f0_v76), .val (.int f0_v83), .val (.int f0_v90), .val (.int f0_v97), .val (.int f0_v104), .val (.int f0_v111), .val (.int f0_v118), .val (.int f0_v125), .val (.int f0_v132), .val (.int f0_v139)] [(.int (2 : Int32)), (.int (2 : Int32)), (.int f0_v69)])) rfl (by rw [hml]; rfl) (argsL := [(.int (2 : Int32)), (.int (2 : Int32))]) (rest := [(.int f0_v69)]) (lenOf pd_4 rfl) rfl (by show 2 * 0 + _ ≤ _; exact Nat.le_of_eq rfl) (hb hby at_155) (fun _ _ => ⟨rfl, e44, (by decide : 4 + 0 ≤ _), (by decide : 71 + 0 ≤ _)⟩)
    dsimp only [Pt.U, Pt.locs, Pt.cells, Pt.slots] at X45 l45 y45 z45 st45 hQ45
    subst l45 y45 z45
    obtain ⟨rfl, N45q, e45⟩ := hQ45
    have N45 := Fr.app N44 N45q
    obtain ⟨Lh45, X45, N45⟩ := hide X45 N45 (C := 4) (S := 71) (by decide) (by decide)
    refine Outs.of st45 ?_
    refine Outs.of (U' := T45.setTop (mkF m 165 #[.val (.int i0), .val (.int (0 : Int32)), .val (.int (2 : Int32)), .val (.ref b1), .val (.ref b3), .val (.int f0_v62), .val (.int f0_v69), .val (.int f0_v76), .val (.int f0_v83), .val (.int f0_v90), .val (.int f0_v97), .val (.int f0_v104), .val (.int f0_v111), .val (.int f0_v118), .val (.int f0_v125), .val (.int f0_v132), .val (.int f0_v139)] [(.int (3 : Int32)), (.int (2 : Int32)), (.int f0_v76)])) (fun t k => ?_) ?_
    · refine XS.icmpNo X45.here hx rfl (hb hby at_158) rfl (teq (show f0_v69 = (F_f9 (2 : Int32) (2 : Int32)) from (by decide +kernel))).2 ?_
      refine XS.iload X45.here hx rfl (hb hby at_161) rfl ?_
      refine XS.iloadN X45.here hx rfl (hb hby at_163) rfl ?_
      refine XS.iconst X45.here hx rfl (hb hby at_164) ?_
      exact k
    obtain ⟨_, _, ⟨T46, L46, k46, n46⟩, -, X46, ⟨Lc46, hQ46, l46, y46, z46⟩, st46⟩ := Jvm.LawKit.callS X45 hx (y := (⟨"com/example/bitmend/bitmend/DataPositionsNextPinLaw", "expected", "(II)I"⟩ : MethodName)) hown (mvT hZ (hw _ (List.mem_of_getElem? (i := 56) rfl))) (mvT hZ (hw _ (List.mem_of_getElem? (i := 57) rfl))) (mvT hZ (hw _ (List.mem_of_getElem? (i := 58) rfl))) (mvT hZ (hw _ (List.mem_of_getElem? (i := 59) rfl))) (by decide) (backOf (W := 1) (rm9 l Z a0 hw [] (2 : Int32) (3 : Int32) T41.heap n0 ) hZ (hw _ (List.mem_of_getElem? (i := 59) rfl)) (hw _ (List.mem_of_getElem? (i := 58) rfl)) (by decide) (by decide)) (g := (mkF m 165 #[.val (.int i0), .val (.int (0 : Int32)), .val (.int (2 : Int32)), .val (.ref b1), .val (.ref b3), .val (.int f0_v62), .val (.int f0_v69), .val (.int f0_v76), .val (.int f0_v83), .val (.int f0_v90), .val (.int f0_v97), .val (.int f0_v104), .val (.int f0_v111), .val (.int f0_v118), .val (.int f0_v125), .val (.int f0_v132), .val (.int f0_v139)] [(.int (3 : Int32)), (.int (2 : Int32)), (.int f0_v76)])) rfl (by rw [hml]; rfl) (argsL := [(.int (2 : Int32)), (.int (3 : Int32))]) (rest := [(.int f0_v76)]) (lenOf pd_4 rfl) rfl (by show 2 * 0 + _ ≤ _; exact Nat.le_of_eq rfl) (hb hby at_165) (fun _ _ => ⟨rfl, e45, (by decide : 4 + 0 ≤ _), (by decide : 71 + 0 ≤ _)⟩)
    dsimp only [Pt.U, Pt.locs, Pt.cells, Pt.slots] at X46 l46 y46 z46 st46 hQ46
    subst l46 y46 z46
    obtain ⟨rfl, N46q, e46⟩ := hQ46
    have N46 := Fr.app N45 N46q
    obtain ⟨Lh46, X46, N46⟩ := hide X46 N46 (C := 4) (S := 71) (by decide) (by decide)
    refine Outs.of st46 ?_
    refine Outs.of (U' := T46.setTop (mkF m 175 #[.val (.int i0), .val (.int (0 : Int32)), .val (.int (2 : Int32)), .val (.ref b1), .val (.ref b3), .val (.int f0_v62), .val (.int f0_v69), .val (.int f0_v76), .val (.int f0_v83), .val (.int f0_v90), .val (.int f0_v97), .val (.int f0_v104), .val (.int f0_v111), .val (.int f0_v118), .val (.int f0_v125), .val (.int f0_v132), .val (.int f0_v139)] [(.int (4 : Int32)), (.int (2 : Int32)), (.int f0_v83)])) (fun t k => ?_) ?_
    · refine XS.icmpNo X46.here hx rfl (hb hby at_168) rfl (teq (show f0_v76 = (F_f9 (2 : Int32) (3 : Int32)) from (by decide +kernel))).2 ?_
      refine XS.iload X46.here hx rfl (hb hby at_171) rfl ?_
      refine XS.iloadN X46.here hx rfl (hb hby at_173) rfl ?_
      refine XS.iconst X46.here hx rfl (hb hby at_174) ?_
      exact k
    obtain ⟨_, _, ⟨T47, L47, k47, n47⟩, -, X47, ⟨Lc47, hQ47, l47, y47, z47⟩, st47⟩ := Jvm.LawKit.callS X46 hx (y := (⟨"com/example/bitmend/bitmend/DataPositionsNextPinLaw", "expected", "(II)I"⟩ : MethodName)) hown (mvT hZ (hw _ (List.mem_of_getElem? (i := 56) rfl))) (mvT hZ (hw _ (List.mem_of_getElem? (i := 57) rfl))) (mvT hZ (hw _ (List.mem_of_getElem? (i := 58) rfl))) (mvT hZ (hw _ (List.mem_of_getElem? (i := 59) rfl))) (by decide) (backOf (W := 1) (rm9 l Z a0 hw [] (2 : Int32) (4 : Int32) T41.heap n0 ) hZ (hw _ (List.mem_of_getElem? (i := 59) rfl)) (hw _ (List.mem_of_getElem? (i := 58) rfl)) (by decide) (by decide)) (g := (mkF m 175 #[.val (.int i0), .val (.int (0 : Int32)), .val (.int (2 : Int32)), .val (.ref b1), .val (.ref b3), .val (.int f0_v62), .val (.int f0_v69), .val (.int f0_v76), .val (.int f0_v83), .val (.int f0_v90), .val (.int f0_v97), .val (.int f0_v104), .val (.int f0_v111), .val (.int f0_v118), .val (.int f0_v125), .val (.int f0_v132), .val (.int f0_v139)] [(.int (4 : Int32)), (.int (2 : Int32)), (.int f0_v83)])) rfl (by rw [hml]; rfl) (argsL := [(.int (2 : Int32)), (.int (4 : Int32))]) (rest := [(.int f0_v83)]) (lenOf pd_4 rfl) rfl (by show 2 * 0 + _ ≤ _; exact Nat.le_of_eq rfl) (hb hby at_175) (fun _ _ => ⟨rfl, e46, (by decide : 4 + 0 ≤ _), (by decide : 71 + 0 ≤ _)⟩)
    dsimp only [Pt.U, Pt.locs, Pt.cells, Pt.slots] at X47 l47 y47 z47 st47 hQ47
    subst l47 y47 z47
    obtain ⟨rfl, N47q, e47⟩ := hQ47
    have N47 := Fr.app N46 N47q
    obtain ⟨Lh47, X47, N47⟩ := hide X47 N47 (C := 4) (S := 71) (by decide) (by decide)
    refine Outs.of st47 ?_
    refine Outs.of (U' := T47.setTop (mkF m 185 #[.val (.int i0), .val (.int (0 : Int32)), .val (.int (2 : Int32)), .val (.ref b1), .val (.ref b3), .val (.int f0_v62), .val (.int f0_v69), .val (.int f0_v76), .val (.int f0_v83), .val (.int f0_v90), .val (.int f0_v97), .val (.int f0_v104), .val (.int f0_v111), .val (.int f0_v118), .val (.int f0_v125), .val (.int f0_v132), .val (.int f0_v139)] [(.int (5 : Int32)), (.int (2 : Int32)), (.int f0_v90)])) (fun t k => ?_) ?_
    · refine XS.icmpNo X47.here hx rfl (hb hby at_178) rfl (teq (show f0_v83 = (F_f9 (2 : Int32) (4 : Int32)) from (by decide +kernel))).2 ?_
      refine XS.iload X47.here hx rfl (hb hby at_181) rfl ?_
      refine XS.iloadN X47.here hx rfl (hb hby at_183) rfl ?_
      refine XS.iconst X47.here hx rfl (hb hby at_184) ?_
      exact k
    obtain ⟨_, _, ⟨T48, L48, k48, n48⟩, -, X48, ⟨Lc48, hQ48, l48, y48, z48⟩, st48⟩ := Jvm.LawKit.callS X47 hx (y := (⟨"com/example/bitmend/bitmend/DataPositionsNextPinLaw", "expected", "(II)I"⟩ : MethodName)) hown (mvT hZ (hw _ (List.mem_of_getElem? (i := 56) rfl))) (mvT hZ (hw _ (List.mem_of_getElem? (i := 57) rfl))) (mvT hZ (hw _ (List.mem_of_getElem? (i := 58) rfl))) (mvT hZ (hw _ (List.mem_of_getElem? (i := 59) rfl))) (by decide) (backOf (W := 1) (rm9 l Z a0 hw [] (2 : Int32) (5 : Int32) T41.heap n0 ) hZ (hw _ (List.mem_of_getElem? (i := 59) rfl)) (hw _ (List.mem_of_getElem? (i := 58) rfl)) (by decide) (by decide)) (g := (mkF m 185 #[.val (.int i0), .val (.int (0 : Int32)), .val (.int (2 : Int32)), .val (.ref b1), .val (.ref b3), .val (.int f0_v62), .val (.int f0_v69), .val (.int f0_v76), .val (.int f0_v83), .val (.int f0_v90), .val (.int f0_v97), .val (.int f0_v104), .val (.int f0_v111), .val (.int f0_v118), .val (.int f0_v125), .val (.int f0_v132), .val (.int f0_v139)] [(.int (5 : Int32)), (.int (2 : Int32)), (.int f0_v90)])) rfl (by rw [hml]; rfl) (argsL := [(.int (2 : Int32)), (.int (5 : Int32))]) (rest := [(.int f0_v90)]) (lenOf pd_4 rfl) rfl (by show 2 * 0 + _ ≤ _; exact Nat.le_of_eq rfl) (hb hby at_185) (fun _ _ => ⟨rfl, e47, (by decide : 4 + 0 ≤ _), (by decide : 71 + 0 ≤ _)⟩)
    dsimp only [Pt.U, Pt.locs, Pt.cells, Pt.slots] at X48 l48 y48 z48 st48 hQ48
    subst l48 y48 z48
    obtain ⟨rfl, N48q, e48⟩ := hQ48
    have N48 := Fr.app N47 N48q
    obtain ⟨Lh48, X48, N48⟩ := hide X48 N48 (C := 4) (S := 71) (by decide) (by decide)
    refine Outs.of st48 ?_
    refine Outs.of (U' := T48.setTop (mkF m 196 #[.val (.int i0), .val (.int (0 : Int32)), .val (.int (2 : Int32)), .val (.ref b1), .val (.ref b3), .val (.int f0_v62), .val (.int f0_v69), .val (.int f0_v76), .val (.int f0_v83), .val (.int f0_v90), .val (.int f0_v97), .val (.int f0_v104), .val (.int f0_v111), .val (.int f0_v118), .val (.int f0_v125), .val (.int f0_v132), .val (.int f0_v139)] [(.int (6 : Int32)), (.int (2 : Int32)), (.int f0_v97)])) (fun t k => ?_) ?_
    · refine XS.icmpNo X48.here hx rfl (hb hby at_188) rfl (teq (show f0_v90 = (F_f9 (2 : Int32) (5 : Int32)) from (by decide +kernel))).2 ?_
      refine XS.iload X48.here hx rfl (hb hby at_191) rfl ?_
      refine XS.iloadN X48.here hx rfl (hb hby at_193) rfl ?_
      refine XS.bipush X48.here hx rfl (hb hby at_194) ?_
      exact k
    obtain ⟨_, _, ⟨T49, L49, k49, n49⟩, -, X49, ⟨Lc49, hQ49, l49, y49, z49⟩, st49⟩ := Jvm.LawKit.callS X48 hx (y := (⟨"com/example/bitmend/bitmend/DataPositionsNextPinLaw", "expected", "(II)I"⟩ : MethodName)) hown (mvT hZ (hw _ (List.mem_of_getElem? (i := 56) rfl))) (mvT hZ (hw _ (List.mem_of_getElem? (i := 57) rfl))) (mvT hZ (hw _ (List.mem_of_getElem? (i := 58) rfl))) (mvT hZ (hw _ (List.mem_of_getElem? (i := 59) rfl))) (by decide) (backOf (W := 1) (rm9 l Z a0 hw [] (2 : Int32) (6 : Int32) T41.heap n0 ) hZ (hw _ (List.mem_of_getElem? (i := 59) rfl)) (hw _ (List.mem_of_getElem? (i := 58) rfl)) (by decide) (by decide)) (g := (mkF m 196 #[.val (.int i0), .val (.int (0 : Int32)), .val (.int (2 : Int32)), .val (.ref b1), .val (.ref b3), .val (.int f0_v62), .val (.int f0_v69), .val (.int f0_v76), .val (.int f0_v83), .val (.int f0_v90), .val (.int f0_v97), .val (.int f0_v104), .val (.int f0_v111), .val (.int f0_v118), .val (.int f0_v125), .val (.int f0_v132), .val (.int f0_v139)] [(.int (6 : Int32)), (.int (2 : Int32)), (.int f0_v97)])) rfl (by rw [hml]; rfl) (argsL := [(.int (2 : Int32)), (.int (6 : Int32))]) (rest := [(.int f0_v97)]) (lenOf pd_4 rfl) rfl (by show 2 * 0 + _ ≤ _; exact Nat.le_of_eq rfl) (hb hby at_196) (fun _ _ => ⟨rfl, e48, (by decide : 4 + 0 ≤ _), (by decide : 71 + 0 ≤ _)⟩)
    dsimp only [Pt.U, Pt.locs, Pt.cells, Pt.slots] at X49 l49 y49 z49 st49 hQ49
    subst l49 y49 z49
    obtain ⟨rfl, N49q, e49⟩ := hQ49
    have N49 := Fr.app N48 N49q
    obtain ⟨Lh49, X49, N49⟩ := hide X49 N49 (C := 4) (S := 71) (by decide) (by decide)
    refine Outs.of st49 ?_
    refine Outs.of (U' := T49.setTop (mkF m 207 #[.val (.int i0), .val (.int (0 : Int32)), .val (.int (2 : Int32)), .val (.ref b1), .val (.ref b3), .val (.int f0_v62), .val (.int f0_v69), .val (.int f0_v76), .val (.int f0_v83), .val (.int f0_v90), .val (.int f0_v97), .val (.int f0_v104), .val (.int f0_v111), .val (.int f0_v118), .val (.int f0_v125), .val (.int f0_v132), .val (.int f0_v139)] [(.int (7 : Int32)), (.int (2 : Int32)), (.int f0_v104)])) (fun t k => ?_) ?_
    · refine XS.icmpNo X49.here hx rfl (hb hby at_199) rfl (teq (show f0_v97 = (F_f9 (2 : Int32) (6 : Int32)) from (by decide +kernel))).2 ?_
      refine XS.iload X49.here hx rfl (hb hby at_202) rfl ?_
      refine XS.iloadN X49.here hx rfl (hb hby at_204) rfl ?_
      refine XS.bipush X49.here hx rfl (hb hby at_205) ?_
      exact k
    obtain ⟨_, _, ⟨T50, L50, k50, n50⟩, -, X50, ⟨Lc50, hQ50, l50, y50, z50⟩, st50⟩ := Jvm.LawKit.callS X49 hx (y := (⟨"com/example/bitmend/bitmend/DataPositionsNextPinLaw", "expected", "(II)I"⟩ : MethodName)) hown (mvT hZ (hw _ (List.mem_of_getElem? (i := 56) rfl))) (mvT hZ (hw _ (List.mem_of_getElem? (i := 57) rfl))) (mvT hZ (hw _ (List.mem_of_getElem? (i := 58) rfl))) (mvT hZ (hw _ (List.mem_of_getElem? (i := 59) rfl))) (by decide) (backOf (W := 1) (rm9 l Z a0 hw [] (2 : Int32) (7 : Int32) T41.heap n0 ) hZ (hw _ (List.mem_of_getElem? (i := 59) rfl)) (hw _ (List.mem_of_getElem? (i := 58) rfl)) (by decide) (by decide)) (g := (mkF m 207 #[.val (.int i0), .val (.int (0 : Int32)), .val (.int (2 : Int32)), .val (.ref b1), .val (.ref b3), .val (.int f0_v62), .val (.int f0_v69), .val (.int f0_v76), .val (.int f0_v83), .val (.int f0_v90), .val (.int f0_v97), .val (.int f0_v104), .val (.int f0_v111), .val (.int f0_v118), .val (.int f0_v125), .val (.int f0_v132), .val (.int f0_v139)] [(.int (7 : Int32)), (.int (2 : Int32)), (.int f0_v104)])) rfl (by rw [hml]; rfl) (argsL := [(.int (2 : Int32)), (.int (7 : Int32))]) (rest := [(.int f0_v104)]) (lenOf pd_4 rfl) rfl (by show 2 * 0 + _ ≤ _; exact Nat.le_of_eq rfl) (hb hby at_207) (fun _ _ => ⟨rfl, e49, (by decide : 4 + 0 ≤ _), (by decide : 71 + 0 ≤ _)⟩)
    dsimp only [Pt.U, Pt.locs, Pt.cells, Pt.slots] at X50 l50 y50 z50 st50 hQ50
    subst l50 y50 z50
    obtain ⟨rfl, N50q, e50⟩ := hQ50
    have N50 := Fr.app N49 N50q
    obtain ⟨Lh50, X50, N50⟩ := hide X50 N50 (C := 4) (S := 71) (by decide) (by decide)
    refine Outs.of st50 ?_
    refine Outs.of (U' := T50.setTop (mkF m 218 #[.val (.int i0), .val (.int (0 : Int32)), .val (.int (2 : Int32)), .val (.ref b1), .val (.ref b3), .val (.int f0_v62), .val (.int f0_v69), .val (.int f0_v76), .val (.int f0_v83), .val (.int f0_v90), .val (.int f0_v97), .val (.int f0_v104), .val (.int f0_v111), .val (.int f0_v118), .val (.int f0_v125), .val (.int f0_v132), .val (.int f0_v139)] [(.int (8 : Int32)), (.int (2 : Int32)), (.int f0_v111)])) (fun t k => ?_) ?_
    · refine XS.icmpNo X50.here hx rfl (hb hby at_210) rfl (teq (show f0_v104 = (F_f9 (2 : Int32) (7 : Int32)) from (by decide +kernel))).2 ?_
      refine XS.iload X50.here hx rfl (hb hby at_213) rfl ?_
      refine XS.iloadN X50.here hx rfl (hb hby at_215) rfl ?_
      refine XS.bipush X50.here hx rfl (hb hby at_216) ?_
      exact k
    obtain ⟨_, _, ⟨T51, L51, k51, n51⟩, -, X51, ⟨Lc51, hQ51, l51, y51, z51⟩, st51⟩ := Jvm.LawKit.callS X50 hx (y := (⟨"com/example/bitmend/bitmend/DataPositionsNextPinLaw", "expected", "(II)I"⟩ : MethodName)) hown (mvT hZ (hw _ (List.mem_of_getElem? (i := 56) rfl))) (mvT hZ (hw _ (List.mem_of_getElem? (i := 57) rfl))) (mvT hZ (hw _ (List.mem_of_getElem? (i := 58) rfl))) (mvT hZ (hw _ (List.mem_of_getElem? (i := 59) rfl))) (by decide) (backOf (W := 1) (rm9 l Z a0 hw [] (2 : Int32) (8 : Int32) T41.heap n0 ) hZ (hw _ (List.mem_of_getElem? (i := 59) rfl)) (hw _ (List.mem_of_getElem? (i := 58) rfl)) (by decide) (by decide)) (g := (mkF m 218 #[.val (.int i0), .val (.int (0 : Int32)), .val (.int (2 : Int32)), .val (.ref b1), .val (.ref b3), .val (.int f0_v62), .val (.int f0_v69), .val (.int f0_v76), .val (.int f0_v83), .val (.int f0_v90), .val (.int f0_v97), .val (.int f0_v104), .val (.int f0_v111), .val (.int f0_v118), .val (.int f0_v125), .val (.int f0_v132), .val (.int f0_v139)] [(.int (8 : Int32)), (.int (2 : Int32)), (.int f0_v111)])) rfl (by rw [hml]; rfl) (argsL := [(.int (2 : Int32)), (.int (8 : Int32))]) (rest := [(.int f0_v111)]) (lenOf pd_4 rfl) rfl (by show 2 * 0 + _ ≤ _; exact Nat.le_of_eq rfl) (hb hby at_218) (fun _ _ => ⟨rfl, e50, (by decide : 4 + 0 ≤ _), (by decide : 71 + 0 ≤ _)⟩)
    dsimp only [Pt.U, Pt.locs, Pt.cells, Pt.slots] at X51 l51 y51 z51 st51 hQ51
    subst l51 y51 z51
    obtain ⟨rfl, N51q, e51⟩ := hQ51
    have N51 := Fr.app N50 N51q
    obtain ⟨Lh51, X51, N51⟩ := hide X51 N51 (C := 4) (S := 71) (by decide) (by decide)
    refine Outs.of st51 ?_
    refine Outs.of (U' := T51.setTop (mkF m 229 #[.val (.int i0), .val (.int (0 : Int32)), .val (.int (2 : Int32)), .val (.ref b1), .val (.ref b3), .val (.int f0_v62), .val (.int f0_v69), .val (.int f0_v76), .val (.int f0_v83), .val (.int f0_v90), .val (.int f0_v97), .val (.int f0_v104), .val (.int f0_v111), .val (.int f0_v118), .val (.int f0_v125), .val (.int f0_v132), .val (.int f0_v139)] [(.int (9 : Int32)), (.int (2 : Int32)), (.int f0_v118)])) (fun t k => ?_) ?_
    · refine XS.icmpNo X51.here hx rfl (hb hby at_221) rfl (teq (show f0_v111 = (F_f9 (2 : Int32) (8 : Int32)) from (by decide +kernel))).2 ?_
      refine XS.iload X51.here hx rfl (hb hby at_224) rfl ?_
      refine XS.iloadN X51.here hx rfl (hb hby at_226) rfl ?_
      refine XS.bipush X51.here hx rfl (hb hby at_227) ?_
      exact k
    obtain ⟨_, _, ⟨T52, L52, k52, n52⟩, -, X52, ⟨Lc52, hQ52, l52, y52, z52⟩, st52⟩ := Jvm.LawKit.callS X51 hx (y := (⟨"com/example/bitmend/bitmend/DataPositionsNextPinLaw", "expected", "(II)I"⟩ : MethodName)) hown (mvT hZ (hw _ (List.mem_of_getElem? (i := 56) rfl))) (mvT hZ (hw _ (List.mem_of_getElem? (i := 57) rfl))) (mvT hZ (hw _ (List.mem_of_getElem? (i := 58) rfl))) (mvT hZ (hw _ (List.mem_of_getElem? (i := 59) rfl))) (by decide) (backOf (W := 1) (rm9 l Z a0 hw [] (2 : Int32) (9 : Int32) T41.heap n0 ) hZ (hw _ (List.mem_of_getElem? (i := 59) rfl)) (hw _ (List.mem_of_getElem? (i := 58) rfl)) (by decide) (by decide)) (g := (mkF m 229 #[.val (.int i0), .val (.int (0 : Int32)), .val (.int (2 : Int32)), .val (.ref b1), .val (.ref b3), .val (.int f0_v62), .val (.int f0_v69), .val (.int f0_v76), .val (.int f0_v83), .val (.int f0_v90), .val (.int f0_v97), .val (.int f0_v104), .val (.int f0_v111), .val (.int f0_v118), .val (.int f0_v125), .val (.int f0_v132), .val (.int f0_v139)] [(.int (9 : Int32)), (.int (2 : Int32)), (.int f0_v118)])) rfl (by rw [hml]; rfl) (argsL := [(.int (2 : Int32)), (.int (9 : Int32))]) (rest := [(.int f0_v118)]) (lenOf pd_4 rfl) rfl (by show 2 * 0 + _ ≤ _; exact Nat.le_of_eq rfl) (hb hby at_229) (fun _ _ => ⟨rfl, e51, (by decide : 4 + 0 ≤ _), (by decide : 71 + 0 ≤ _)⟩)
    dsimp only [Pt.U, Pt.locs, Pt.cells, Pt.slots] at X52 l52 y52 z52 st52 hQ52
    subst l52 y52 z52
    obtain ⟨rfl, N52q, e52⟩ := hQ52
    have N52 := Fr.app N51 N52q
    obtain ⟨Lh52, X52, N52⟩ := hide X52 N52 (C := 4) (S := 71) (by decide) (by decide)
    refine Outs.of st52 ?_
    refine Outs.of (U' := T52.setTop (mkF m 240 #[.val (.int i0), .val (.int (0 : Int32)), .val (.int (2 : Int32)), .val (.ref b1), .val (.ref b3), .val (.int f0_v62), .val (.int f0_v69), .val (.int f0_v76), .val (.int f0_v83), .val (.int f0_v90), .val (.int f0_v97), .val (.int f0_v104), .val (.int f0_v111), .val (.int f0_v118), .val (.int f0_v125), .val (.int f0_v132), .val (.int f0_v139)] [(.int (10 : Int32)), (.int (2 : Int32)), (.int f0_v125)])) (fun t k => ?_) ?_
    · refine XS.icmpNo X52.here hx rfl (hb hby at_232) rfl (teq (show f0_v118 = (F_f9 (2 : Int32) (9 : Int32)) from (by decide +kernel))).2 ?_
      refine XS.iload X52.here hx rfl (hb hby at_235) rfl ?_
      refine XS.iloadN X52.here hx rfl (hb hby at_237) rfl ?_
      refine XS.bipush X52.here hx rfl (hb hby at_238) ?_
      exact k
    obtain ⟨_, _, ⟨T53, L53, k53, n53⟩, -, X53, ⟨Lc53, hQ53, l53, y53, z53⟩, st53⟩ := Jvm.LawKit.callS X52 hx (y := (⟨"com/example/bitmend/bitmend/DataPositionsNextPinLaw", "expected", "(II)I"⟩ : MethodName)) hown (mvT hZ (hw _ (List.mem_of_getElem? (i := 56) rfl))) (mvT hZ (hw _ (List.mem_of_getElem? (i := 57) rfl))) (mvT hZ (hw _ (List.mem_of_getElem? (i := 58) rfl))) (mvT hZ (hw _ (List.mem_of_getElem? (i := 59) rfl))) (by decide) (backOf (W := 1) (rm9 l Z a0 hw [] (2 : Int32) (10 : Int32) T41.heap n0 ) hZ (hw _ (List.mem_of_getElem? (i := 59) rfl)) (hw _ (List.mem_of_getElem? (i := 58) rfl)) (by decide) (by decide)) (g := (mkF m 240 #[.val (.int i0), .val (.int (0 : Int32)), .val (.int (2 : Int32)), .val (.ref b1), .val (.ref b3), .val (.int f0_v62), .val (.int f0_v69), .val (.int f0_v76), .val (.int f0_v83), .val (.int f0_v90), .val (.int f0_v97), .val (.int f0_v104), .val (.int f0_v111), .val (.int f0_v118), .val (.int f0_v125), .val (.int f0_v132), .val (.int f0_v139)] [(.int (10 : Int32)), (.int (2 : Int32)), (.int f0_v125)])) rfl (by rw [hml]; rfl) (argsL := [(.int (2 : Int32)), (.int (10 : Int32))]) (rest := [(.int f0_v125)]) (lenOf pd_4 rfl) rfl (by show 2 * 0 + _ ≤ _; exact Nat.le_of_eq rfl) (hb hby at_240) (fun _ _ => ⟨rfl, e52, (by decide : 4 + 0 ≤ _), (by decide : 71 + 0 ≤ _)⟩)
    dsimp only [Pt.U, Pt.locs, Pt.cells, Pt.slots] at X53 l53 y53 z53 st53 hQ53
    subst l53 y53 z53
    obtain ⟨rfl, N53q, e53⟩ := hQ53
    have N53 := Fr.app N52 N53q
    obtain ⟨Lh53, X53, N53⟩ := hide X53 N53 (C := 4) (S := 71) (by decide) (by decide)
    refine Outs.of st53 ?_
    refine Outs.of (U' := T53.setTop (mkF m 251 #[.val (.int i0), .val (.int (0 : Int32)), .val (.int (2 : Int32)), .val (.ref b1), .val (.ref b3), .val (.int f0_v62), .val (.int f0_v69), .val (.int f0_v76), .val (.int f0_v83), .val (.int f0_v90), .val (.int f0_v97), .val (.int f0_v104), .val (.int f0_v111), .val (.int f0_v118), .val (.int f0_v125), .val (.int f0_v132), .val (.int f0_v139)] [(.int (11 : Int32)), (.int (2 : Int32)), (.int f0_v132)])) (fun t k => ?_) ?_
    · refine XS.icmpNo X53.here hx rfl (hb hby at_243) rfl (teq (show f0_v125 = (F_f9 (2 : Int32) (10 : Int32)) from (by decide +kernel))).2 ?_
      refine XS.iload X53.here hx rfl (hb hby at_246) rfl ?_
      refine XS.iloadN X53.here hx rfl (hb hby at_248) rfl ?_
      refine XS.bipush X53.here hx rfl (hb hby at_249) ?_
      exact k
    obtain ⟨_, _, ⟨T54, L54, k54, n54⟩, -, X54, ⟨Lc54, hQ54, l54, y54, z54⟩, st54⟩ := Jvm.LawKit.callS X53 hx (y := (⟨"com/example/bitmend/bitmend/DataPositionsNextPinLaw", "expected", "(II)I"⟩ : MethodName)) hown (mvT hZ (hw _ (List.mem_of_getElem? (i := 56) rfl))) (mvT hZ (hw _ (List.mem_of_getElem? (i := 57) rfl))) (mvT hZ (hw _ (List.mem_of_getElem? (i := 58) rfl))) (mvT hZ (hw _ (List.mem_of_getElem? (i := 59) rfl))) (by decide) (backOf (W := 1) (rm9 l Z a0 hw [] (2 : Int32) (11 : Int32) T41.heap n0 ) hZ (hw _ (List.mem_of_getElem? (i := 59) rfl)) (hw _ (List.mem_of_getElem? (i := 58) rfl)) (by decide) (by decide)) (g := (mkF m 251 #[.val (.int i0), .val (.int (0 : Int32)), .val (.int (2 : Int32)), .val (.ref b1), .val (.ref b3), .val (.int f0_v62), .val (.int f0_v69), .val (.int f0_v76), .val (.int f0_v83), .val (.int f0_v90), .val (.int f0_v97), .val (.int f0_v104), .val (.int f0_v111), .val (.int f0_v118), .val (.int f0_v125), .val (.int f0_v132), .val (.int f0_v139)] [(.int (11 : Int32)), (.int (2 : Int32)), (.int f0_v132)])) rfl (by rw [hml]; rfl) (argsL := [(.int (2 : Int32)), (.int (11 : Int32))]) (rest := [(.int f0_v132)]) (lenOf pd_4 rfl) rfl (by show 2 * 0 + _ ≤ _; exact Nat.le_of_eq rfl) (hb hby at_251) (fun _ _ => ⟨rfl, e53, (by decide : 4 + 0 ≤ _), (by decide : 71 + 0 ≤ _)⟩)
    dsimp only [Pt.U, Pt.locs, Pt.cells, Pt.slots] at X54 l54 y54 z54 st54 hQ54
    subst l54 y54 z54
    obtain ⟨rfl, N54q, e54⟩ := hQ54
    have N54 := Fr.app N53 N54q
    obtain ⟨Lh54, X54, N54⟩ := hide X54 N54 (C := 4) (S := 71) (by decide) (by decide)
    refine Outs.of st54 ?_
    refine Outs.of (U' := T54.setTop (mkF m 262 #[.val (.int i0), .val (.int (0 : Int32)), .val (.int (2 : Int32)), .val (.ref b1), .val (.ref b3), .val (.int f0_v62), .val (.int f0_v69), .val (.int f0_v76), .val (.int f0_v83), .val (.int f0_v90), .val (.int f0_v97), .val (.int f0_v104), .val (.int f0_v111), .val (.int f0_v118), .val (.int f0_v125), .val (.int f0_v132), .val (.int f0_v139)] [(.int (12 : Int32)), (.int (2 : Int32)), (.int f0_v139)])) (fun t k => ?_) ?_
    · refine XS.icmpNo X54.here hx rfl (hb hby at_254) rfl (teq (show f0_v132 = (F_f9 (2 : Int32) (11 : Int32)) from (by decide +kernel))).2 ?_
      refine XS.iload X54.here hx rfl (hb hby at_257) rfl ?_
      refine XS.iloadN X54.here hx rfl (hb hby at_259) rfl ?_
      refine XS.bipush X54.here hx rfl (hb hby at_260) ?_
      exact k
    obtain ⟨_, _, ⟨T55, L55, k55, n55⟩, -, X55, ⟨Lc55, hQ55, l55, y55, z55⟩, st55⟩ := Jvm.LawKit.callS X54 hx (y := (⟨"com/example/bitmend/bitmend/DataPositionsNextPinLaw", "expected", "(II)I"⟩ : MethodName)) hown (mvT hZ (hw _ (List.mem_of_getElem? (i := 56) rfl))) (mvT hZ (hw _ (List.mem_of_getElem? (i := 57) rfl))) (mvT hZ (hw _ (List.mem_of_getElem? (i := 58) rfl))) (mvT hZ (hw _ (List.mem_of_getElem? (i := 59) rfl))) (by decide) (backOf (W := 1) (rm9 l Z a0 hw [] (2 : Int32) (12 : Int32) T41.heap n0 ) hZ (hw _ (List.mem_of_getElem? (i := 59) rfl)) (hw _ (List.mem_of_getElem? (i := 58) rfl)) (by decide) (by decide)) (g := (mkF m 262 #[.val (.int i0), .val (.int (0 : Int32)), .val (.int (2 : Int32)), .val (.ref b1), .val (.ref b3), .val (.int f0_v62), .val (.int f0_v69), .val (.int f0_v76), .val (.int f0_v83), .val (.int f0_v90), .val (.int f0_v97), .val (.int f0_v104), .val (.int f0_v111), .val (.int f0_v118), .val (.int f0_v125), .val (.int f0_v132), .val (.int f0_v139)] [(.int (12 : Int32)), (.int (2 : Int32)), (.int f0_v139)])) rfl (by rw [hml]; rfl) (argsL := [(.int (2 : Int32)), (.int (12 : Int32))]) (rest := [(.int f0_v139)]) (lenOf pd_4 rfl) rfl (by show 2 * 0 + _ ≤ _; exact Nat.le_of_eq rfl) (hb hby at_262) (fun _ _ => ⟨rfl, e54, (by decide : 4 + 0 ≤ _), (by decide : 71 + 0 ≤ _)⟩)
    dsimp only [Pt.U, Pt.locs, Pt.cells, Pt.slots] at X55 l55 y55 z55 st55 hQ55
    subst l55 y55 z55
    obtain ⟨rfl, N55q, e55⟩ := hQ55
    have N55 := Fr.app N54 N55q
    obtain ⟨Lh55, X55, N55⟩ := hide X55 N55 (C := 4) (S := 71) (by decide) (by decide)
    refine Outs.of st55 ?_
    refine Outs.of (U' := T55.setTop (mkF m 273 #[.val (.int i0), .val (.int (0 : Int32)), .val (.int (2 : Int32)), .val (.ref b1), .val (.ref b3), .val (.int f0_v62), .val (.int f0_v69), .val (.int f0_v76), .val (.int f0_v83), .val (.int f0_v90), .val (.int f0_v97), .val (.int f0_v104), .val (.int f0_v111), .val (.int f0_v118), .val (.int f0_v125), .val (.int f0_v132), .val (.int f0_v139)] [(.int (1 : Int32))])) (fun t k => ?_) ?_
    · refine XS.icmpNo X55.here hx rfl (hb hby at_265) rfl (teq (show f0_v139 = (F_f9 (2 : Int32) (12 : Int32)) from (by decide +kernel))).2 ?_
      refine XS.iconst X55.here hx rfl (hb hby at_268) ?_
      refine XS.goto X55.here hx rfl (pc0 := 269) (pc' := 273) rfl (hb hby at_269) (by decide) (by decide) ?_
      exact k
    exact Outs.retN (t := .boolean) (z := (1 : Int32)) X55 hx hret (by simp) (hb hby at_273) hlk (by decide) (by decide) e55 ⟨rfl, N55⟩
  · rw [qk]
    show Outs p e below s _ _ _ (s₁.setTop (mkF m 4 #[.val (.int i0), .val (.int (1 : Int32)), .unset, .unset, .unset, .unset, .unset, .unset, .unset, .unset, .unset, .unset, .unset, .unset, .unset, .unset, .unset] []))
    refine Outs.of (U' := s₁.setTop (mkF m 33 #[.val (.int i0), .val (.int (1 : Int32)), .val (.int (3 : Int32)), .unset, .unset, .unset, .unset, .unset, .unset, .unset, .unset, .unset, .unset, .unset, .unset, .unset, .unset] [])) (fun t k => ?_) ?_
    · refine XS.iloadN X0.here hx rfl (hb hby at_4) rfl ?_
      refine XS.ifYes X0.here hx rfl (pc0 := 5) (pc' := 12) rfl (hb hby at_5) rfl ((if0 _ _).trans (feq (show ¬ ((1 : Int32) = (0 : Int32)) from (by decide))).2) (by decide) (by decide) ?_
      refine XS.iloadN X0.here hx rfl (hb hby at_12) rfl ?_
      refine XS.iconst X0.here hx rfl (hb hby at_13) ?_
      refine XS.icmpNo X0.here hx rfl (hb hby at_14) rfl (teq (show (1 : Int32) = (1 : Int32) from (by decide))).2 ?_
      refine XS.iconst X0.here hx rfl (hb hby at_17) ?_
      refine XS.goto X0.here hx rfl (pc0 := 18) (pc' := 32) rfl (hb hby at_18) (by decide) (by decide) ?_
      refine XS.istoreN X0.here hx rfl (hb hby at_32) rfl (l' := #[.val (.int i0), .val (.int (1 : Int32)), .val (.int (3 : Int32)), .unset, .unset, .unset, .unset, .unset, .unset, .unset, .unset, .unset, .unset, .unset, .unset, .unset, .unset]) rfl ?_
      exact k
    obtain ⟨T56, h56, X56, e56, E56, A56, D56, -, st56⟩ := newO X0 hx hZ hown (hw _ (List.mem_of_getElem? (i := 0) rfl)) (hw _ (List.mem_of_getElem? (i := 1) rfl)) (hw _ (List.mem_of_getElem? (i := 2) rfl)) e0 (g := (mkF m 33 #[.val (.int i0), .val (.int (1 : Int32)), .val (.int (3 : Int32)), .unset, .unset, .unset, .unset, .unset, .unset, .unset, .unset, .unset, .unset, .unset, .unset, .unset, .unset] [])) rfl (hb hby at_33) (by decide) (by decide)
    obtain ⟨b56, g56⟩ : ∃ z, z = h0.size := ⟨_, rfl⟩
    rw [← g56] at A56 D56 st56
    have g_b56 : n0 ≤ b56 := Nat.le_trans Z0 (Nat.le_of_eq g56.symm)
    have F56_10 : Fld Z h56 b56 "com/example/bitmend/bitmend/PositionalColumns" "fieldSize" "I" (.int (0 : Int32)) := D56 (Or.inr (hw _ (List.mem_of_getElem? (i := 10) rfl))) (ty := .int) (by decide)
    have F56_30 : Fld Z h56 b56 "com/example/bitmend/bitmend/PositionalColumns" "checkPositions" "[J" .null := D56 (Or.inr (hw _ (List.mem_of_getElem? (i := 30) rfl))) (ty := (.array .long)) (by decide)
    refine Outs.of st56 ?_
    refine Outs.of (U' := T56.setTop (mkF m 38 #[.val (.int i0), .val (.int (1 : Int32)), .val (.int (3 : Int32)), .unset, .unset, .unset, .unset, .unset, .unset, .unset, .unset, .unset, .unset, .unset, .unset, .unset, .unset] [(.int (3 : Int32)), (.ref b56), (.ref b56)])) (fun t k => ?_) ?_
    · refine XS.dup X56.here hx rfl (hb hby at_36) rfl rfl ?_
      refine XS.iloadN X56.here hx rfl (hb hby at_37) rfl ?_
      exact k
    obtain ⟨_, _, ⟨T57, L57, k57, n57⟩, -, X57, ⟨Lc57, hQ57, l57, y57, z57⟩, st57⟩ := X56.specialBack hx (y := (⟨"com/example/bitmend/bitmend/PositionalColumns", "<init>", "(I)V"⟩ : MethodName)) rfl hown (mvT hZ (hw _ (List.mem_of_getElem? (i := 3) rfl))) (mvT hZ (hw _ (List.mem_of_getElem? (i := 4) rfl))) (mvT hZ (hw _ (List.mem_of_getElem? (i := 5) rfl))) (by decide) (backOf (W := 1) (rmct3 l Z a0 hw [] b56 h56 n0 (Nat.le_trans Z0 E56.1) A56 g_b56 F56_10 F56_30) hZ (hw _ (List.mem_of_getElem? (i := 5) rfl)) (hw _ (List.mem_of_getElem? (i := 2) rfl)) (by decide) (by decide)) (g := (mkF m 38 #[.val (.int i0), .val (.int (1 : Int32)), .val (.int (3 : Int32)), .unset, .unset, .unset, .unset, .unset, .unset, .unset, .unset, .unset, .unset, .unset, .unset, .unset, .unset] [(.int (3 : Int32)), (.ref b56), (.ref b56)])) rfl (by rw [hml]; rfl) (Steps.refl _) (a := b56) (argsL := [(.int (3 : Int32))]) (rest := [(.ref b56)]) (lenOf pd_0 rfl) rfl (by show 2 * 0 + _ ≤ _; exact Nat.le_of_eq rfl) (hb hby at_38) (fun _ _ => ⟨rfl, e56, (by decide : 1 + 2 ≤ _), (by decide : 2 + 55 ≤ _)⟩)
    dsimp only [Pt.U, Pt.locs, Pt.cells, Pt.slots] at X57 l57 y57 z57 st57 hQ57
    subst l57 y57 z57
    obtain ⟨b57, g_b57, hs_b57, rfl, N57q, K57, u57_0, u57_1, u57_2⟩ := hQ57
    have N57 := Fr.app N0 N57q
    have ne_b56_b57 : b56 ≠ b57 := Nat.ne_of_lt (Nat.lt_of_lt_of_le A56.lt hs_b57)
    obtain ⟨Lh57, X57, N57⟩ := hide X57 N57 (C := 3) (S := 57) (by decide) (by decide)
    refine Outs.to st57 ?_
    refine Outs.of (U' := T57.setTop (mkF m 42 #[.val (.int i0), .val (.int (1 : Int32)), .val (.int (3 : Int32)), .val (.ref b56), .unset, .unset, .unset, .unset, .unset, .unset, .unset, .unset, .unset, .unset, .unset, .unset, .unset] [])) (fun t k => ?_) ?_
    · refine XS.astoreN X57.here hx rfl (hb hby at_41) rfl rfl (l' := #[.val (.int i0), .val (.int (1 : Int32)), .val (.int (3 : Int32)), .val (.ref b56), .unset, .unset, .unset, .unset, .unset, .unset, .unset, .unset, .unset, .unset, .unset, .unset, .unset]) rfl ?_
      exact k
    obtain ⟨T58, h58, X58, e58, E58, A58, D58, -, st58⟩ := newO X57 hx hZ hown (hw _ (List.mem_of_getElem? (i := 31) rfl)) (hw _ (List.mem_of_getElem? (i := 32) rfl)) (hw _ (List.mem_of_getElem? (i := 33) rfl)) rfl (g := (mkF m 42 #[.val (.int i0), .val (.int (1 : Int32)), .val (.int (3 : Int32)), .val (.ref b56), .unset, .unset, .unset, .unset, .unset, .unset, .unset, .unset, .unset, .unset, .unset, .unset, .unset] [])) rfl (hb hby at_42) (by decide) (by decide)
    obtain ⟨b58, g58⟩ : ∃ z, z = T57.heap.size := ⟨_, rfl⟩
    rw [← g58] at A58 D58 st58
    have g_b58 : n0 ≤ b58 := Nat.le_trans (Nat.le_trans (Nat.le_trans Z0 E56.1) K57.1) (Nat.le_of_eq g58.symm)
    have ne_b56_b58 : b56 ≠ b58 := Nat.ne_of_lt (Nat.lt_of_lt_of_eq u57_0.lt g58.symm)
    have ne_b57_b58 : b57 ≠ b58 := Nat.ne_of_lt (Nat.lt_of_lt_of_eq u57_2.lt g58.symm)
    have F58_42 : Fld Z h58 b58 "com/example/bitmend/bitmend/PositionalColumns$DataPositions" "this$0" "Lcom/example/bitmend/bitmend/PositionalColumns;" .null := D58 (Or.inr (hw _ (List.mem_of_getElem? (i := 42) rfl))) (ty := (.object "com/example/bitmend/bitmend/PositionalColumns")) (by decide)
    have F58_46 : Fld Z h58 b58 "com/example/bitmend/bitmend/PositionalColumns$DataPositions" "checkPosition" "J" (.long (0 : Int64)) := D58 (Or.inl (hw _ (List.mem_of_getElem? (i := 46) rfl))) (ty := .long) (by decide)
    have F58_53 : Fld Z h58 b58 "com/example/bitmend/bitmend/PositionalColumns$DataPositions" "position" "I" (.int (0 : Int32)) := D58 (Or.inl (hw _ (List.mem_of_getElem? (i := 53) rfl))) (ty := .int) (by decide)
    have F58_55 : Fld Z h58 b58 "com/example/bitmend/bitmend/PositionalColumns$DataPositions" "check" "I" (.int (0 : Int32)) := D58 (Or.inl (hw _ (List.mem_of_getElem? (i := 55) rfl))) (ty := .int) (by decide)
    refine Outs.of st58 ?_
    refine Outs.of (U' := T58.setTop (mkF m 48 #[.val (.int i0), .val (.int (1 : Int32)), .val (.int (3 : Int32)), .val (.ref b56), .unset, .unset, .unset, .unset, .unset, .unset, .unset, .unset, .unset, .unset, .unset, .unset, .unset] [(.ref b56), (.ref b56), (.ref b58), (.ref b58)])) (fun t k => ?_) ?_
    · refine XS.dup X58.here hx rfl (hb hby at_45) rfl rfl ?_
      refine XS.aloadN X58.here hx rfl (hb hby at_46) rfl rfl ?_
      refine XS.dup X58.here hx rfl (hb hby at_47) rfl rfl ?_
      exact k
    obtain ⟨_, _, ⟨T59, L59, k59, n59⟩, -, X59, ⟨Lc59, hQ59, l59, y59, z59⟩, st59⟩ := Jvm.LawKit.callS X58 hx (y := (⟨"java/util/Objects", "requireNonNull", "(Ljava/lang/Object;)Ljava/lang/Object;"⟩ : MethodName)) hown (mvT hZ (hw _ (List.mem_of_getElem? (i := 34) rfl))) (mvT hZ (hw _ (List.mem_of_getElem? (i := 35) rfl))) (mvT hZ (hw _ (List.mem_of_getElem? (i := 36) rfl))) (mvT hZ (hw _ (List.mem_of_getElem? (i := 37) rfl))) (by decide) (backOf (W := 3) (rm6 l Z a0 hw [] b56 h58 n0 ) hZ (hw _ (List.mem_of_getElem? (i := 37) rfl)) (hw _ (List.mem_of_getElem? (i := 36) rfl)) (by decide) (by decide)) (g := (mkF m 48 #[.val (.int i0), .val (.int (1 : Int32)), .val (.int (3 : Int32)), .val (.ref b56), .unset, .unset, .unset, .unset, .unset, .unset, .unset, .unset, .unset, .unset, .unset, .unset, .unset] [(.ref b56), (.ref b56), (.ref b58), (.ref b58)])) rfl (by rw [hml]; rfl) (argsL := [(.ref b56)]) (rest := [(.ref b56), (.ref b58), (.ref b58)]) (lenOf pd_6 rfl) rfl (by show 2 * 0 + _ ≤ _; exact Nat.le_of_eq rfl) (hb hby at_48) (fun _ _ => ⟨rfl, e58, (by decide : 4 + 0 ≤ _), (by decide : 61 + 0 ≤ _)⟩)
    dsimp only [Pt.U, Pt.locs, Pt.cells, Pt.slots] at X59 l59 y59 z59 st59 hQ59
    subst l59 y59 z59
    obtain ⟨rfl, N59q, e59⟩ := hQ59
    have N59 := Fr.app N57 N59q
    obtain ⟨Lh59, X59, N59⟩ := hide X59 N59 (C := 4) (S := 61) (by decide) (by decide)
    refine Outs.of st59 ?_
    refine Outs.of (U' := T59.setTop (mkF m 52 #[.val (.int i0), .val (.int (1 : Int32)), .val (.int (3 : Int32)), .val (.ref b56), .unset, .unset, .unset, .unset, .unset, .unset, .unset, .unset, .unset, .unset, .unset, .unset, .unset] [(.ref b56), (.ref b58), (.ref b58)])) (fun t k => ?_) ?_
    · refine XS.pop X59.here hx rfl (hb hby at_51) rfl rfl ?_
      exact k
    have f61 : Fld Z h58 b56 "com/example/bitmend/bitmend/PositionalColumns" "checkPositions" "[J" (.ref b57) := (u57_1.ext E58)
    have f62 : AJ Z h58 b57 .long 22 (cp3_g28 ct3_g25u) := (u57_2.ext E58)
    obtain ⟨_, _, ⟨T60, L60, k60, n60⟩, -, X60, ⟨Lc60, hQ60, l60, y60, z60⟩, st60⟩ := X59.specialBack hx (y := (⟨"com/example/bitmend/bitmend/PositionalColumns$DataPositions", "<init>", "(Lcom/example/bitmend/bitmend/PositionalColumns;)V"⟩ : MethodName)) rfl hown (mvT hZ (hw _ (List.mem_of_getElem? (i := 38) rfl))) (mvT hZ (hw _ (List.mem_of_getElem? (i := 39) rfl))) (mvT hZ (hw _ (List.mem_of_getElem? (i := 40) rfl))) (by decide) (backOf (W := 1) (rm7 l Z a0 hw [] b58 b56 b57 22 (cp3_g28 ct3_g25u) h58 n0 A58 g_b58 F58_42 F58_46 F58_53 F58_55 f61 f62 ne_b56_b58 ne_b57_b58 (by decide)) hZ (hw _ (List.mem_of_getElem? (i := 40) rfl)) (hw _ (List.mem_of_getElem? (i := 33) rfl)) (by decide) (by decide)) (g := (mkF m 52 #[.val (.int i0), .val (.int (1 : Int32)), .val (.int (3 : Int32)), .val (.ref b56), .unset, .unset, .unset, .unset, .unset, .unset, .unset, .unset, .unset, .unset, .unset, .unset, .unset] [(.ref b56), (.ref b58), (.ref b58)])) rfl (by rw [hml]; rfl) (Steps.refl _) (a := b58) (argsL := [(.ref b56)]) (rest := [(.ref b58)]) (lenOf pd_7 rfl) rfl (by show 2 * 0 + _ ≤ _; exact Nat.le_of_eq rfl) (hb hby at_52) (fun _ _ => ⟨rfl, e59, (by decide : 4 + 0 ≤ _), (by decide : 61 + 0 ≤ _)⟩)
    dsimp only [Pt.U, Pt.locs, Pt.cells, Pt.slots] at X60 l60 y60 z60 st60 hQ60
    subst l60 y60 z60
    obtain ⟨rfl, N60q, K60, u60_0, u60_1, u60_2, u60_3, u60_4⟩ := hQ60
    have N60 := Fr.app N59 N60q
    obtain ⟨Lh60, X60, N60⟩ := hide X60 N60 (C := 4) (S := 61) (by decide) (by decide)
    refine Outs.to st60 ?_
    refine Outs.of (U' := T60.setTop (mkF m 59 #[.val (.int i0), .val (.int (1 : Int32)), .val (.int (3 : Int32)), .val (.ref b56), .val (.ref b58), .unset, .unset, .unset, .unset, .unset, .unset, .unset, .unset, .unset, .unset, .unset, .unset] [(.ref b58)])) (fun t k => ?_) ?_
    · refine XS.astore X60.here hx rfl (hb hby at_55) rfl rfl (l' := #[.val (.int i0), .val (.int (1 : Int32)), .val (.int (3 : Int32)), .val (.ref b56), .val (.ref b58), .unset, .unset, .unset, .unset, .unset, .unset, .unset, .unset, .unset, .unset, .unset, .unset]) rfl ?_
      refine XS.aload X60.here hx rfl (hb hby at_57) rfl rfl ?_
      exact k
    have f64 : Fld Z T60.heap b56 "com/example/bitmend/bitmend/PositionalColumns" "checkPositions" "[J" (.ref b57) := (f61.keep K60 (ninS ne_b56_b58 nin0))
    have f65 : AJ Z T60.heap b57 .long 22 (cp3_g28 ct3_g25u) := (f62.keep K60 (ninS ne_b57_b58 nin0))
    obtain ⟨cq63, kq63, q63a, q63b, q63c⟩ := isOf hZ rfl u60_0
    obtain ⟨_, _, ⟨T63, L63, k63, n63⟩, -, X63, ⟨Lc63, hQ63, l63, y63, z63⟩, st63⟩ := X60.virtualBack hx (y := (⟨"com/example/bitmend/bitmend/PositionalColumns$DataPositions", "next", "()I"⟩ : MethodName)) (z := (⟨"com/example/bitmend/bitmend/PositionalColumns$DataPositions", "next", "()I"⟩ : MethodName)) hown (mvT hZ (hw _ (List.mem_of_getElem? (i := 47) rfl))) (mvT hZ (hw _ (List.mem_of_getElem? (i := 48) rfl))) (notFace_of_selects (args := #[]) (mvT hZ (hw _ (List.mem_of_getElem? (i := 50) rfl)))) (mvT hZ (hw _ (List.mem_of_getElem? (i := 50) rfl))) (mvT hZ (hw _ (List.mem_of_getElem? (i := 49) rfl))) (by decide) (backOf (W := 0) (rmnx2 l Z a0 hw [] b58 (0 : Int32) (0 : Int32) ((cp3_g28 ct3_g25u) 0) b56 b57 22 (cp3_g28 ct3_g25u) 1 2 T60.heap n0 u60_0 g_b58 u60_3 u60_4 u60_2 u60_1 f64 f65 ne_b56_b58 ne_b57_b58 (by decide +kernel) ⟨by decide, by decide⟩ (by decide +kernel) ⟨by decide, by decide⟩ (by decide +kernel)) hZ (hw _ (List.mem_of_getElem? (i := 51) rfl)) (hw _ (List.mem_of_getElem? (i := 33) rfl)) (by decide) (by decide)) q63a q63c (g := (mkF m 59 #[.val (.int i0), .val (.int (1 : Int32)), .val (.int (3 : Int32)), .val (.ref b56), .val (.ref b58), .unset, .unset, .unset, .unset, .unset, .unset, .unset, .unset, .unset, .unset, .unset, .unset] [(.ref b58)])) rfl (by rw [hml]; rfl) (Steps.refl _) (argsL := []) (rest := []) (lenOf pd_8 rfl) rfl (by show 2 * 0 + _ ≤ _; exact Nat.le_of_eq rfl) (hb hby at_59) (fun _ _ => ⟨rfl, rfl, (by decide : 4 + 0 ≤ _), (by decide : 61 + 0 ≤ _)⟩)
    dsimp only [Pt.U, Pt.locs, Pt.cells, Pt.slots] at X63 l63 y63 z63 st63 hQ63
    subst l63 y63 z63
    obtain ⟨rfl, N63q, K63, u63_0, u63_1, u63_2, u63_3, u63_4⟩ := hQ63
    have N63 := Fr.app N60 N63q
    obtain ⟨Lh63, X63, N63⟩ := hide X63 N63 (C := 4) (S := 61) (by decide) (by decide)
    refine Outs.to st63 ?_
    refine Outs.of (U' := T63.setTop (mkF m 66 #[.val (.int i0), .val (.int (1 : Int32)), .val (.int (3 : Int32)), .val (.ref b56), .val (.ref b58), .val (.int f0_v62a), .unset, .unset, .unset, .unset, .unset, .unset, .unset, .unset, .unset, .unset, .unset] [(.ref b58)])) (fun t k => ?_) ?_
    · refine XS.istore X63.here hx rfl (hb hby at_62) rfl (l' := #[.val (.int i0), .val (.int (1 : Int32)), .val (.int (3 : Int32)), .val (.ref b56), .val (.ref b58), .val (.int f0_v62a), .unset, .unset, .unset, .unset, .unset, .unset, .unset, .unset, .unset, .unset, .unset]) rfl ?_
      refine XS.aload X63.here hx rfl (hb hby at_64) rfl rfl ?_
      exact k
    have f67 : Fld Z T63.heap b56 "com/example/bitmend/bitmend/PositionalColumns" "checkPositions" "[J" (.ref b57) := (f64.keep K63 (ninS ne_b56_b58 nin0))
    have f68 : AJ Z T63.heap b57 .long 22 (cp3_g28 ct3_g25u) := (f65.keep K63 (ninS ne_b57_b58 nin0))
    obtain ⟨cq66, kq66, q66a, q66b, q66c⟩ := isOf hZ rfl u63_0
    obtain ⟨_, _, ⟨T66, L66, k66, n66⟩, -, X66, ⟨Lc66, hQ66, l66, y66, z66⟩, st66⟩ := X63.virtualBack hx (y := (⟨"com/example/bitmend/bitmend/PositionalColumns$DataPositions", "next", "()I"⟩ : MethodName)) (z := (⟨"com/example/bitmend/bitmend/PositionalColumns$DataPositions", "next", "()I"⟩ : MethodName)) hown (mvT hZ (hw _ (List.mem_of_getElem? (i := 47) rfl))) (mvT hZ (hw _ (List.mem_of_getElem? (i := 48) rfl))) (notFace_of_selects (args := #[]) (mvT hZ (hw _ (List.mem_of_getElem? (i := 50) rfl)))) (mvT hZ (hw _ (List.mem_of_getElem? (i := 50) rfl))) (mvT hZ (hw _ (List.mem_of_getElem? (i := 49) rfl))) (by decide) (backOf (W := 0) (rmnx0 l Z a0 hw [] b58 (3 : Int32) (2 : Int32) ((cp3_g28 ct3_g25u) 2) b56 b57 22 (cp3_g28 ct3_g25u) T63.heap n0 u63_0 g_b58 u63_2 u63_3 u63_4 u63_1 f67 f68 ne_b56_b58 ne_b57_b58 (by decide +kernel)) hZ (hw _ (List.mem_of_getElem? (i := 51) rfl)) (hw _ (List.mem_of_getElem? (i := 33) rfl)) (by decide) (by decide)) q66a q66c (g := (mkF m 66 #[.val (.int i0), .val (.int (1 : Int32)), .val (.int (3 : Int32)), .val (.ref b56), .val (.ref b58), .val (.int f0_v62a), .unset, .unset, .unset, .unset, .unset, .unset, .unset, .unset, .unset, .unset, .unset] [(.ref b58)])) rfl (by rw [hml]; rfl) (Steps.refl _) (argsL := []) (rest := []) (lenOf pd_8 rfl) rfl (by show 2 * 0 + _ ≤ _; exact Nat.le_of_eq rfl) (hb hby at_66) (fun _ _ => ⟨rfl, rfl, (by decide : 4 + 0 ≤ _), (by decide : 61 + 0 ≤ _)⟩)
    dsimp only [Pt.U, Pt.locs, Pt.cells, Pt.slots] at X66 l66 y66 z66 st66 hQ66
    subst l66 y66 z66
    obtain ⟨rfl, N66q, K66, u66_0, u66_1, u66_2, u66_3, u66_4⟩ := hQ66
    have N66 := Fr.app N63 N66q
    obtain ⟨Lh66, X66, N66⟩ := hide X66 N66 (C := 4) (S := 61) (by decide) (by decide)
    refine Outs.to st66 ?_
    refine Outs.of (U' := T66.setTop (mkF m 73 #[.val (.int i0), .val (.int (1 : Int32)), .val (.int (3 : Int32)), .val (.ref b56), .val (.ref b58), .val (.int f0_v62a), .val (.int f0_v69a), .unset, .unset, .unset, .unset, .unset, .unset, .unset, .unset, .unset, .unset] [(.ref b58)])) (fun t k => ?_) ?_
    · refine XS.istore X66.here hx rfl (hb hby at_69) rfl (l' := #[.val (.int i0), .val (.int (1 : Int32)), .val (.int (3 : Int32)), .val (.ref b56), .val (.ref b58), .val (.int f0_v62a), .val (.int f0_v69a), .unset, .unset, .unset, .unset, .unset, .unset, .unset, .unset, .unset, .unset]) rfl ?_
      refine XS.aload X66.here hx rfl (hb hby at_71) rfl rfl ?_
      exact k
    have f70 : Fld Z T66.heap b56 "com/example/bitmend/bitmend/PositionalColumns" "checkPositions" "[J" (.ref b57) := (f67.keep K66 (ninS ne_b56_b58 nin0))
    have f71 : AJ Z T66.heap b57 .long 22 (cp3_g28 ct3_g25u) := (f68.keep K66 (ninS ne_b57_b58 nin0))
    obtain ⟨cq69, kq69, q69a, q69b, q69c⟩ := isOf hZ rfl u66_0
    obtain ⟨_, _, ⟨T69, L69, k69, n69⟩, -, X69, ⟨Lc69, hQ69, l69, y69, z69⟩, st69⟩ := X66.virtualBack hx (y := (⟨"com/example/bitmend/bitmend/PositionalColumns$DataPositions", "next", "()I"⟩ : MethodName)) (z := (⟨"com/example/bitmend/bitmend/PositionalColumns$DataPositions", "next", "()I"⟩ : MethodName)) hown (mvT hZ (hw _ (List.mem_of_getElem? (i := 47) rfl))) (mvT hZ (hw _ (List.mem_of_getElem? (i := 48) rfl))) (notFace_of_selects (args := #[]) (mvT hZ (hw _ (List.mem_of_getElem? (i := 50) rfl)))) (mvT hZ (hw _ (List.mem_of_getElem? (i := 50) rfl))) (mvT hZ (hw _ (List.mem_of_getElem? (i := 49) rfl))) (by decide) (backOf (W := 0) (rmnx1 l Z a0 hw [] b58 (4 : Int32) (2 : Int32) ((cp3_g28 ct3_g25u) 2) b56 b57 22 (cp3_g28 ct3_g25u) 3 T66.heap n0 u66_0 g_b58 u66_2 u66_3 u66_4 u66_1 f70 f71 ne_b56_b58 ne_b57_b58 (by decide +kernel) ⟨by decide, by decide⟩ (by decide +kernel)) hZ (hw _ (List.mem_of_getElem? (i := 51) rfl)) (hw _ (List.mem_of_getElem? (i := 33) rfl)) (by decide) (by decide)) q69a q69c (g := (mkF m 73 #[.val (.int i0), .val (.int (1 : Int32)), .val (.int (3 : Int32)), .val (.ref b56), .val (.ref b58), .val (.int f0_v62a), .val (.int f0_v69a), .unset, .unset, .unset, .unset, .unset, .unset, .unset, .unset, .unset, .unset] [(.ref b58)])) rfl (by rw [hml]; rfl) (Steps.refl _) (argsL := []) (rest := []) (lenOf pd_8 rfl) rfl (by show 2 * 0 + _ ≤ _; exact Nat.le_of_eq rfl) (hb hby at_73) (fun _ _ => ⟨rfl, rfl, (by decide : 4 + 0 ≤ _), (by decide : 61 + 0 ≤ _)⟩)
    dsimp only [Pt.U, Pt.locs, Pt.cells, Pt.slots] at X69 l69 y69 z69 st69 hQ69
    subst l69 y69 z69
    obtain ⟨rfl, N69q, K69, u69_0, u69_1, u69_2, u69_3, u69_4⟩ := hQ69
    have N69 := Fr.app N66 N69q
    obtain ⟨Lh69, X69, N69⟩ := hide X69 N69 (C := 4) (S := 61) (by decide) (by decide)
    refine Outs.to st69 ?_
    refine Outs.of (U' := T69.setTop (mkF m 80 #[.val (.int i0), .val (.int (1 : Int32)), .val (.int (3 : Int32)), .val (.ref b56), .val (.ref b58), .val (.int f0_v62a), .val (.int f0_v69a), .val (.int f0_v76a), .unset, .unset, .unset, .unset, .unset, .unset, .unset, .unset, .unset] [(.ref b58)])) (fun t k => ?_) ?_
    · refine XS.istore X69.here hx rfl (hb hby at_76) rfl (l' := #[.val (.int i0), .val (.int (1 : Int32)), .val (.int (3 : Int32)), .val (.ref b56), .val (.ref b58), .val (.int f0_v62a), .val (.int f0_v69a), .val (.int f0_v76a), .unset, .unset, .unset, .unset, .unset, .unset, .unset, .unset, .unset]) rfl ?_
      refine XS.aload X69.here hx rfl (hb hby at_78) rfl rfl ?_
      exact k
    have f73 : Fld Z T69.heap b56 "com/example/bitmend/bitmend/PositionalColumns" "checkPositions" "[J" (.ref b57) := (f70.keep K69 (ninS ne_b56_b58 nin0))
    have f74 : AJ Z T69.heap b57 .long 22 (cp3_g28 ct3_g25u) := (f71.keep K69 (ninS ne_b57_b58 nin0))
    obtain ⟨cq72, kq72, q72a, q72b, q72c⟩ := isOf hZ rfl u69_0
    obtain ⟨_, _, ⟨T72, L72, k72, n72⟩, -, X72, ⟨Lc72, hQ72, l72, y72, z72⟩, st72⟩ := X69.virtualBack hx (y := (⟨"com/example/bitmend/bitmend/PositionalColumns$DataPositions", "next", "()I"⟩ : MethodName)) (z := (⟨"com/example/bitmend/bitmend/PositionalColumns$DataPositions", "next", "()I"⟩ : MethodName)) hown (mvT hZ (hw _ (List.mem_of_getElem? (i := 47) rfl))) (mvT hZ (hw _ (List.mem_of_getElem? (i := 48) rfl))) (notFace_of_selects (args := #[]) (mvT hZ (hw _ (List.mem_of_getElem? (i := 50) rfl)))) (mvT hZ (hw _ (List.mem_of_getElem? (i := 50) rfl))) (mvT hZ (hw _ (List.mem_of_getElem? (i := 49) rfl))) (by decide) (backOf (W := 0) (rmnx0 l Z a0 hw [] b58 (6 : Int32) (3 : Int32) ((cp3_g28 ct3_g25u) 3) b56 b57 22 (cp3_g28 ct3_g25u) T69.heap n0 u69_0 g_b58 u69_2 u69_3 u69_4 u69_1 f73 f74 ne_b56_b58 ne_b57_b58 (by decide +kernel)) hZ (hw _ (List.mem_of_getElem? (i := 51) rfl)) (hw _ (List.mem_of_getElem? (i := 33) rfl)) (by decide) (by decide)) q72a q72c (g := (mkF m 80 #[.val (.int i0), .val (.int (1 : Int32)), .val (.int (3 : Int32)), .val (.ref b56), .val (.ref b58), .val (.int f0_v62a), .val (.int f0_v69a), .val (.int f0_v76a), .unset, .unset, .unset, .unset, .unset, .unset, .unset, .unset, .unset] [(.ref b58)])) rfl (by rw [hml]; rfl) (Steps.refl _) (argsL := []) (rest := []) (lenOf pd_8 rfl) rfl (by show 2 * 0 + _ ≤ _; exact Nat.le_of_eq rfl) (hb hby at_80) (fun _ _ => ⟨rfl, rfl, (by decide : 4 + 0 ≤ _), (by decide : 61 + 0 ≤ _)⟩)
    dsimp only [Pt.U, Pt.locs, Pt.cells, Pt.slots] at X72 l72 y72 z72 st72 hQ72
    subst l72 y72 z72
    obtain ⟨rfl, N72q, K72, u72_0, u72_1, u72_2, u72_3, u72_4⟩ := hQ72
    have N72 := Fr.app N69 N72q
    obtain ⟨Lh72, X72, N72⟩ := hide X72 N72 (C := 4) (S := 61) (by decide) (by decide)
    refine Outs.to st72 ?_
    refine Outs.of (U' := T72.setTop (mkF m 87 #[.val (.int i0), .val (.int (1 : Int32)), .val (.int (3 : Int32)), .val (.ref b56), .val (.ref b58), .val (.int f0_v62a), .val (.int f0_v69a), .val (.int f0_v76a), .val (.int f0_v83a), .unset, .unset, .unset, .unset, .unset, .unset, .unset, .unset] [(.ref b58)])) (fun t k => ?_) ?_
    · refine XS.istore X72.here hx rfl (hb hby at_83) rfl (l' := #[.val (.int i0), .val (.int (1 : Int32)), .val (.int (3 : Int32)), .val (.ref b56), .val (.ref b58), .val (.int f0_v62a), .val (.int f0_v69a), .val (.int f0_v76a), .val (.int f0_v83a), .unset, .unset, .unset, .unset, .unset, .unset, .unset, .unset]) rfl ?_
      refine XS.aload X72.here hx rfl (hb hby at_85) rfl rfl ?_
      exact k
    have f76 : Fld Z T72.heap b56 "com/example/bitmend/bitmend/PositionalColumns" "checkPositions" "[J" (.ref b57) := (f73.keep K72 (ninS ne_b56_b58 nin0))
    have f77 : AJ Z T72.heap b57 .long 22 (cp3_g28 ct3_g25u) := (f74.keep K72 (ninS ne_b57_b58 nin0))
    obtain ⟨cq75, kq75, q75a, q75b, q75c⟩ := isOf hZ rfl u72_0
    obtain ⟨_, _, ⟨T75, L75, k75, n75⟩, -, X75, ⟨Lc75, hQ75, l75, y75, z75⟩, st75⟩ := X72.virtualBack hx (y := (⟨"com/example/bitmend/bitmend/PositionalColumns$DataPositions", "next", "()I"⟩ : MethodName)) (z := (⟨"com/example/bitmend/bitmend/PositionalColumns$DataPositions", "next", "()I"⟩ : MethodName)) hown (mvT hZ (hw _ (List.mem_of_getElem? (i := 47) rfl))) (mvT hZ (hw _ (List.mem_of_getElem? (i := 48) rfl))) (notFace_of_selects (args := #[]) (mvT hZ (hw _ (List.mem_of_getElem? (i := 50) rfl)))) (mvT hZ (hw _ (List.mem_of_getElem? (i := 50) rfl))) (mvT hZ (hw _ (List.mem_of_getElem? (i := 49) rfl))) (by decide) (backOf (W := 0) (rmnx0 l Z a0 hw [] b58 (7 : Int32) (3 : Int32) ((cp3_g28 ct3_g25u) 3) b56 b57 22 (cp3_g28 ct3_g25u) T72.heap n0 u72_0 g_b58 u72_2 u72_3 u72_4 u72_1 f76 f77 ne_b56_b58 ne_b57_b58 (by decide +kernel)) hZ (hw _ (List.mem_of_getElem? (i := 51) rfl)) (hw _ (List.mem_of_getElem? (i := 33) rfl)) (by decide) (by decide)) q75a q75c (g := (mkF m 87 #[.val (.int i0), .val (.int (1 : Int32)), .val (.int (3 : Int32)), .val (.ref b56), .val (.ref b58), .val (.int f0_v62a), .val (.int f0_v69a), .val (.int f0_v76a), .val (.int f0_v83a), .unset, .unset, .unset, .unset, .unset, .unset, .unset, .unset] [(.ref b58)])) rfl (by rw [hml]; rfl) (Steps.refl _) (argsL := []) (rest := []) (lenOf pd_8 rfl) rfl (by show 2 * 0 + _ ≤ _; exact Nat.le_of_eq rfl) (hb hby at_87) (fun _ _ => ⟨rfl, rfl, (by decide : 4 + 0 ≤ _), (by decide : 61 + 0 ≤ _)⟩)
    dsimp only [Pt.U, Pt.locs, Pt.cells, Pt.slots] at X75 l75 y75 z75 st75 hQ75
    subst l75 y75 z75
    obtain ⟨rfl, N75q, K75, u75_0, u75_1, u75_2, u75_3, u75_4⟩ := hQ75
    have N75 := Fr.app N72 N75q
    obtain ⟨Lh75, X75, N75⟩ := hide X75 N75 (C := 4) (S := 61) (by decide) (by decide)
    refine Outs.to st75 ?_
    refine Outs.of (U' := T75.setTop (mkF m 94 #[.val (.int i0), .val (.int (1 : Int32)), .val (.int (3 : Int32)), .val (.ref b56), .val (.ref b58), .val (.int f0_v62a), .val (.int f0_v69a), .val (.int f0_v76a), .val (.int f0_v83a), .val (.int f0_v90a), .unset, .unset, .unset, .unset, .unset, .unset, .unset] [(.ref b58)])) (fun t k => ?_) ?_
    · refine XS.istore X75.here hx rfl (hb hby at_90) rfl (l' := #[.val (.int i0), .val (.int (1 : Int32)), .val (.int (3 : Int32)), .val (.ref b56), .val (.ref b58), .val (.int f0_v62a), .val (.int f0_v69a), .val (.int f0_v76a), .val (.int f0_v83a), .val (.int f0_v90a), .unset, .unset, .unset, .unset, .unset, .unset, .unset]) rfl ?_
      refine XS.aload X75.here hx rfl (hb hby at_92) rfl rfl ?_
      exact k
    have f79 : Fld Z T75.heap b56 "com/example/bitmend/bitmend/PositionalColumns" "checkPositions" "[J" (.ref b57) := (f76.keep K75 (ninS ne_b56_b58 nin0))
    have f80 : AJ Z T75.heap b57 .long 22 (cp3_g28 ct3_g25u) := (f77.keep K75 (ninS ne_b57_b58 nin0))
    obtain ⟨cq78, kq78, q78a, q78b, q78c⟩ := isOf hZ rfl u75_0
    obtain ⟨_, _, ⟨T78, L78, k78, n78⟩, -, X78, ⟨Lc78, hQ78, l78, y78, z78⟩, st78⟩ := X75.virtualBack hx (y := (⟨"com/example/bitmend/bitmend/PositionalColumns$DataPositions", "next", "()I"⟩ : MethodName)) (z := (⟨"com/example/bitmend/bitmend/PositionalColumns$DataPositions", "next", "()I"⟩ : MethodName)) hown (mvT hZ (hw _ (List.mem_of_getElem? (i := 47) rfl))) (mvT hZ (hw _ (List.mem_of_getElem? (i := 48) rfl))) (notFace_of_selects (args := #[]) (mvT hZ (hw _ (List.mem_of_getElem? (i := 50) rfl)))) (mvT hZ (hw _ (List.mem_of_getElem? (i := 50) rfl))) (mvT hZ (hw _ (List.mem_of_getElem? (i := 49) rfl))) (by decide) (backOf (W := 0) (rmnx0 l Z a0 hw [] b58 (8 : Int32) (3 : Int32) ((cp3_g28 ct3_g25u) 3) b56 b57 22 (cp3_g28 ct3_g25u) T75.heap n0 u75_0 g_b58 u75_2 u75_3 u75_4 u75_1 f79 f80 ne_b56_b58 ne_b57_b58 (by decide +kernel)) hZ (hw _ (List.mem_of_getElem? (i := 51) rfl)) (hw _ (List.mem_of_getElem? (i := 33) rfl)) (by decide) (by decide)) q78a q78c (g := (mkF m 94 #[.val (.int i0), .val (.int (1 : Int32)), .val (.int (3 : Int32)), .val (.ref b56), .val (.ref b58), .val (.int f0_v62a), .val (.int f0_v69a), .val (.int f0_v76a), .val (.int f0_v83a), .val (.int f0_v90a), .unset, .unset, .unset, .unset, .unset, .unset, .unset] [(.ref b58)])) rfl (by rw [hml]; rfl) (Steps.refl _) (argsL := []) (rest := []) (lenOf pd_8 rfl) rfl (by show 2 * 0 + _ ≤ _; exact Nat.le_of_eq rfl) (hb hby at_94) (fun _ _ => ⟨rfl, rfl, (by decide : 4 + 0 ≤ _), (by decide : 61 + 0 ≤ _)⟩)
    dsimp only [Pt.U, Pt.locs, Pt.cells, Pt.slots] at X78 l78 y78 z78 st78 hQ78
    subst l78 y78 z78
    obtain ⟨rfl, N78q, K78, u78_0, u78_1, u78_2, u78_3, u78_4⟩ := hQ78
    have N78 := Fr.app N75 N78q
    obtain ⟨Lh78, X78, N78⟩ := hide X78 N78 (C := 4) (S := 61) (by decide) (by decide)
    refine Outs.to st78 ?_
    refine Outs.of (U' := T78.setTop (mkF m 101 #[.val (.int i0), .val (.int (1 : Int32)), .val (.int (3 : Int32)), .val (.ref b56), .val (.ref b58), .val (.int f0_v62a), .val (.int f0_v69a), .val (.int f0_v76a), .val (.int f0_v83a), .val (.int f0_v90a), .val (.int f0_v97a), .unset, .unset, .unset, .unset, .unset, .unset] [(.ref b58)])) (fun t k => ?_) ?_
    · refine XS.istore X78.here hx rfl (hb hby at_97) rfl (l' := #[.val (.int i0), .val (.int (1 : Int32)), .val (.int (3 : Int32)), .val (.ref b56), .val (.ref b58), .val (.int f0_v62a), .val (.int f0_v69a), .val (.int f0_v76a), .val (.int f0_v83a), .val (.int f0_v90a), .val (.int f0_v97a), .unset, .unset, .unset, .unset, .unset, .unset]) rfl ?_
      refine XS.aload X78.here hx rfl (hb hby at_99) rfl rfl ?_
      exact k
    have f82 : Fld Z T78.heap b56 "com/example/bitmend/bitmend/PositionalColumns" "checkPositions" "[J" (.ref b57) := (f79.keep K78 (ninS ne_b56_b58 nin0))
    have f83 : AJ Z T78.heap b57 .long 22 (cp3_g28 ct3_g25u) := (f80.keep K78 (ninS ne_b57_b58 nin0))
    obtain ⟨cq81, kq81, q81a, q81b, q81c⟩ := isOf hZ rfl u78_0
    obtain ⟨_, _, ⟨T81, L81, k81, n81⟩, -, X81, ⟨Lc81, hQ81, l81, y81, z81⟩, st81⟩ := X78.virtualBack hx (y := (⟨"com/example/bitmend/bitmend/PositionalColumns$DataPositions", "next", "()I"⟩ : MethodName)) (z := (⟨"com/example/bitmend/bitmend/PositionalColumns$DataPositions", "next", "()I"⟩ : MethodName)) hown (mvT hZ (hw _ (List.mem_of_getElem? (i := 47) rfl))) (mvT hZ (hw _ (List.mem_of_getElem? (i := 48) rfl))) (notFace_of_selects (args := #[]) (mvT hZ (hw _ (List.mem_of_getElem? (i := 50) rfl)))) (mvT hZ (hw _ (List.mem_of_getElem? (i := 50) rfl))) (mvT hZ (hw _ (List.mem_of_getElem? (i := 49) rfl))) (by decide) (backOf (W := 0) (rmnx0 l Z a0 hw [] b58 (9 : Int32) (3 : Int32) ((cp3_g28 ct3_g25u) 3) b56 b57 22 (cp3_g28 ct3_g25u) T78.heap n0 u78_0 g_b58 u78_2 u78_3 u78_4 u78_1 f82 f83 ne_b56_b58 ne_b57_b58 (by decide +kernel)) hZ (hw _ (List.mem_of_getElem? (i := 51) rfl)) (hw _ (List.mem_of_getElem? (i := 33) rfl)) (by decide) (by decide)) q81a q81c (g := (mkF m 101 #[.val (.int i0), .val (.int (1 : Int32)), .val (.int (3 : Int32)), .val (.ref b56), .val (.ref b58), .val (.int f0_v62a), .val (.int f0_v69a), .val (.int f0_v76a), .val (.int f0_v83a), .val (.int f0_v90a), .val (.int f0_v97a), .unset, .unset, .unset, .unset, .unset, .unset] [(.ref b58)])) rfl (by rw [hml]; rfl) (Steps.refl _) (argsL := []) (rest := []) (lenOf pd_8 rfl) rfl (by show 2 * 0 + _ ≤ _; exact Nat.le_of_eq rfl) (hb hby at_101) (fun _ _ => ⟨rfl, rfl, (by decide : 4 + 0 ≤ _), (by decide : 61 + 0 ≤ _)⟩)
    dsimp only [Pt.U, Pt.locs, Pt.cells, Pt.slots] at X81 l81 y81 z81 st81 hQ81
    subst l81 y81 z81
    obtain ⟨rfl, N81q, K81, u81_0, u81_1, u81_2, u81_3, u81_4⟩ := hQ81
    have N81 := Fr.app N78 N81q
    obtain ⟨Lh81, X81, N81⟩ := hide X81 N81 (C := 4) (S := 61) (by decide) (by decide)
    refine Outs.to st81 ?_
    refine Outs.of (U' := T81.setTop (mkF m 108 #[.val (.int i0), .val (.int (1 : Int32)), .val (.int (3 : Int32)), .val (.ref b56), .val (.ref b58), .val (.int f0_v62a), .val (.int f0_v69a), .val (.int f0_v76a), .val (.int f0_v83a), .val (.int f0_v90a), .val (.int f0_v97a), .val (.int f0_v104a), .unset, .unset, .unset, .unset, .unset] [(.ref b58)])) (fun t k => ?_) ?_
    · refine XS.istore X81.here hx rfl (hb hby at_104) rfl (l' := #[.val (.int i0), .val (.int (1 : Int32)), .val (.int (3 : Int32)), .val (.ref b56), .val (.ref b58), .val (.int f0_v62a), .val (.int f0_v69a), .val (.int f0_v76a), .val (.int f0_v83a), .val (.int f0_v90a), .val (.int f0_v97a), .val (.int f0_v104a), .unset, .unset, .unset, .unset, .unset]) rfl ?_
      refine XS.aload X81.here hx rfl (hb hby at_106) rfl rfl ?_
      exact k
    have f85 : Fld Z T81.heap b56 "com/example/bitmend/bitmend/PositionalColumns" "checkPositions" "[J" (.ref b57) := (f82.keep K81 (ninS ne_b56_b58 nin0))
    have f86 : AJ Z T81.heap b57 .long 22 (cp3_g28 ct3_g25u) := (f83.keep K81 (ninS ne_b57_b58 nin0))
    obtain ⟨cq84, kq84, q84a, q84b, q84c⟩ := isOf hZ rfl u81_0
    obtain ⟨_, _, ⟨T84, L84, k84, n84⟩, -, X84, ⟨Lc84, hQ84, l84, y84, z84⟩, st84⟩ := X81.virtualBack hx (y := (⟨"com/example/bitmend/bitmend/PositionalColumns$DataPositions", "next", "()I"⟩ : MethodName)) (z := (⟨"com/example/bitmend/bitmend/PositionalColumns$DataPositions", "next", "()I"⟩ : MethodName)) hown (mvT hZ (hw _ (List.mem_of_getElem? (i := 47) rfl))) (mvT hZ (hw _ (List.mem_of_getElem? (i := 48) rfl))) (notFace_of_selects (args := #[]) (mvT hZ (hw _ (List.mem_of_getElem? (i := 50) rfl)))) (mvT hZ (hw _ (List.mem_of_getElem? (i := 50) rfl))) (mvT hZ (hw _ (List.mem_of_getElem? (i := 49) rfl))) (by decide) (backOf (W := 0) (rmnx0 l Z a0 hw [] b58 (10 : Int32) (3 : Int32) ((cp3_g28 ct3_g25u) 3) b56 b57 22 (cp3_g28 ct3_g25u) T81.heap n0 u81_0 g_b58 u81_2 u81_3 u81_4 u81_1 f85 f86 ne_b56_b58 ne_b57_b58 (by decide +kernel)) hZ (hw _ (List.mem_of_getElem? (i := 51) rfl)) (hw _ (List.mem_of_getElem? (i := 33) rfl)) (by decide) (by decide)) q84a q84c (g := (mkF m 108 #[.val (.int i0), .val (.int (1 : Int32)), .val (.int (3 : Int32)), .val (.ref b56), .val (.ref b58), .val (.int f0_v62a), .val (.int f0_v69a), .val (.int f0_v76a), .val (.int f0_v83a), .val (.int f0_v90a), .val (.int f0_v97a), .val (.int f0_v104a), .unset, .unset, .unset, .unset, .unset] [(.ref b58)])) rfl (by rw [hml]; rfl) (Steps.refl _) (argsL := []) (rest := []) (lenOf pd_8 rfl) rfl (by show 2 * 0 + _ ≤ _; exact Nat.le_of_eq rfl) (hb hby at_108) (fun _ _ => ⟨rfl, rfl, (by decide : 4 + 0 ≤ _), (by decide : 61 + 0 ≤ _)⟩)
    dsimp only [Pt.U, Pt.locs, Pt.cells, Pt.slots] at X84 l84 y84 z84 st84 hQ84
    subst l84 y84 z84
    obtain ⟨rfl, N84q, K84, u84_0, u84_1, u84_2, u84_3, u84_4⟩ := hQ84
    have N84 := Fr.app N81 N84q
    obtain ⟨Lh84, X84, N84⟩ := hide X84 N84 (C := 4) (S := 61) (by decide) (by decide)
    refine Outs.to st84 ?_
    refine Outs.of (U' := T84.setTop (mkF m 115 #[.val (.int i0), .val (.int (1 : Int32)), .val (.int (3 : Int32)), .val (.ref b56), .val (.ref b58), .val (.int f0_v62a), .val (.int f0_v69a), .val (.int f0_v76a), .val (.int f0_v83a), .val (.int f0_v90a), .val (.int f0_v97a), .val (.int f0_v104a), .val (.int f0_v111a), .unset, .unset, .unset, .unset] [(.ref b58)])) (fun t k => ?_) ?_
    · refine XS.istore X84.here hx rfl (hb hby at_111) rfl (l' := #[.val (.int i0), .val (.int (1 : Int32)), .val (.int (3 : Int32)), .val (.ref b56), .val (.ref b58), .val (.int f0_v62a), .val (.int f0_v69a), .val (.int f0_v76a), .val (.int f0_v83a), .val (.int f0_v90a), .val (.int f0_v97a), .val (.int f0_v104a), .val (.int f0_v111a), .unset, .unset, .unset, .unset]) rfl ?_
      refine XS.aload X84.here hx rfl (hb hby at_113) rfl rfl ?_
      exact k
    have f88 : Fld Z T84.heap b56 "com/example/bitmend/bitmend/PositionalColumns" "checkPositions" "[J" (.ref b57) := (f85.keep K84 (ninS ne_b56_b58 nin0))
    have f89 : AJ Z T84.heap b57 .long 22 (cp3_g28 ct3_g25u) := (f86.keep K84 (ninS ne_b57_b58 nin0))
    obtain ⟨cq87, kq87, q87a, q87b, q87c⟩ := isOf hZ rfl u84_0
    obtain ⟨_, _, ⟨T87, L87, k87, n87⟩, -, X87, ⟨Lc87, hQ87, l87, y87, z87⟩, st87⟩ := X84.virtualBack hx (y := (⟨"com/example/bitmend/bitmend/PositionalColumns$DataPositions", "next", "()I"⟩ : MethodName)) (z := (⟨"com/example/bitmend/bitmend/PositionalColumns$DataPositions", "next", "()I"⟩ : MethodName)) hown (mvT hZ (hw _ (List.mem_of_getElem? (i := 47) rfl))) (mvT hZ (hw _ (List.mem_of_getElem? (i := 48) rfl))) (notFace_of_selects (args := #[]) (mvT hZ (hw _ (List.mem_of_getElem? (i := 50) rfl)))) (mvT hZ (hw _ (List.mem_of_getElem? (i := 50) rfl))) (mvT hZ (hw _ (List.mem_of_getElem? (i := 49) rfl))) (by decide) (backOf (W := 0) (rmnx0 l Z a0 hw [] b58 (11 : Int32) (3 : Int32) ((cp3_g28 ct3_g25u) 3) b56 b57 22 (cp3_g28 ct3_g25u) T84.heap n0 u84_0 g_b58 u84_2 u84_3 u84_4 u84_1 f88 f89 ne_b56_b58 ne_b57_b58 (by decide +kernel)) hZ (hw _ (List.mem_of_getElem? (i := 51) rfl)) (hw _ (List.mem_of_getElem? (i := 33) rfl)) (by decide) (by decide)) q87a q87c (g := (mkF m 115 #[.val (.int i0), .val (.int (1 : Int32)), .val (.int (3 : Int32)), .val (.ref b56), .val (.ref b58), .val (.int f0_v62a), .val (.int f0_v69a), .val (.int f0_v76a), .val (.int f0_v83a), .val (.int f0_v90a), .val (.int f0_v97a), .val (.int f0_v104a), .val (.int f0_v111a), .unset, .unset, .unset, .unset] [(.ref b58)])) rfl (by rw [hml]; rfl) (Steps.refl _) (argsL := []) (rest := []) (lenOf pd_8 rfl) rfl (by show 2 * 0 + _ ≤ _; exact Nat.le_of_eq rfl) (hb hby at_115) (fun _ _ => ⟨rfl, rfl, (by decide : 4 + 0 ≤ _), (by decide : 61 + 0 ≤ _)⟩)
    dsimp only [Pt.U, Pt.locs, Pt.cells, Pt.slots] at X87 l87 y87 z87 st87 hQ87
    subst l87 y87 z87
    obtain ⟨rfl, N87q, K87, u87_0, u87_1, u87_2, u87_3, u87_4⟩ := hQ87
    have N87 := Fr.app N84 N87q
    obtain ⟨Lh87, X87, N87⟩ := hide X87 N87 (C := 4) (S := 61) (by decide) (by decide)
    refine Outs.to st87 ?_
    refine Outs.of (U' := T87.setTop (mkF m 122 #[.val (.int i0), .val (.int (1 : Int32)), .val (.int (3 : Int32)), .val (.ref b56), .val (.ref b58), .val (.int f0_v62a), .val (.int f0_v69a), .val (.int f0_v76a), .val (.int f0_v83a), .val (.int f0_v90a), .val (.int f0_v97a), .val (.int f0_v104a), .val (.int f0_v111a), .val (.int f0_v118a), .unset, .unset, .unset] [(.ref b58)])) (fun t k => ?_) ?_
    · refine XS.istore X87.here hx rfl (hb hby at_118) rfl (l' := #[.val (.int i0), .val (.int (1 : Int32)), .val (.int (3 : Int32)), .val (.ref b56), .val (.ref b58), .val (.int f0_v62a), .val (.int f0_v69a), .val (.int f0_v76a), .val (.int f0_v83a), .val (.int f0_v90a), .val (.int f0_v97a), .val (.int f0_v104a), .val (.int f0_v111a), .val (.int f0_v118a), .unset, .unset, .unset]) rfl ?_
      refine XS.aload X87.here hx rfl (hb hby at_120) rfl rfl ?_
      exact k
    have f91 : Fld Z T87.heap b56 "com/example/bitmend/bitmend/PositionalColumns" "checkPositions" "[J" (.ref b57) := (f88.keep K87 (ninS ne_b56_b58 nin0))
    have f92 : AJ Z T87.heap b57 .long 22 (cp3_g28 ct3_g25u) := (f89.keep K87 (ninS ne_b57_b58 nin0))
    obtain ⟨cq90, kq90, q90a, q90b, q90c⟩ := isOf hZ rfl u87_0
    obtain ⟨_, _, ⟨T90, L90, k90, n90⟩, -, X90, ⟨Lc90, hQ90, l90, y90, z90⟩, st90⟩ := X87.virtualBack hx (y := (⟨"com/example/bitmend/bitmend/PositionalColumns$DataPositions", "next", "()I"⟩ : MethodName)) (z := (⟨"com/example/bitmend/bitmend/PositionalColumns$DataPositions", "next", "()I"⟩ : MethodName)) hown (mvT hZ (hw _ (List.mem_of_getElem? (i := 47) rfl))) (mvT hZ (hw _ (List.mem_of_getElem? (i := 48) rfl))) (notFace_of_selects (args := #[]) (mvT hZ (hw _ (List.mem_of_getElem? (i := 50) rfl)))) (mvT hZ (hw _ (List.mem_of_getElem? (i := 50) rfl))) (mvT hZ (hw _ (List.mem_of_getElem? (i := 49) rfl))) (by decide) (backOf (W := 0) (rmnx0 l Z a0 hw [] b58 (12 : Int32) (3 : Int32) ((cp3_g28 ct3_g25u) 3) b56 b57 22 (cp3_g28 ct3_g25u) T87.heap n0 u87_0 g_b58 u87_2 u87_3 u87_4 u87_1 f91 f92 ne_b56_b58 ne_b57_b58 (by decide +kernel)) hZ (hw _ (List.mem_of_getElem? (i := 51) rfl)) (hw _ (List.mem_of_getElem? (i := 33) rfl)) (by decide) (by decide)) q90a q90c (g := (mkF m 122 #[.val (.int i0), .val (.int (1 : Int32)), .val (.int (3 : Int32)), .val (.ref b56), .val (.ref b58), .val (.int f0_v62a), .val (.int f0_v69a), .val (.int f0_v76a), .val (.int f0_v83a), .val (.int f0_v90a), .val (.int f0_v97a), .val (.int f0_v104a), .val (.int f0_v111a), .val (.int f0_v118a), .unset, .unset, .unset] [(.ref b58)])) rfl (by rw [hml]; rfl) (Steps.refl _) (argsL := []) (rest := []) (lenOf pd_8 rfl) rfl (by show 2 * 0 + _ ≤ _; exact Nat.le_of_eq rfl) (hb hby at_122) (fun _ _ => ⟨rfl, rfl, (by decide : 4 + 0 ≤ _), (by decide : 61 + 0 ≤ _)⟩)
    dsimp only [Pt.U, Pt.locs, Pt.cells, Pt.slots] at X90 l90 y90 z90 st90 hQ90
    subst l90 y90 z90
    obtain ⟨rfl, N90q, K90, u90_0, u90_1, u90_2, u90_3, u90_4⟩ := hQ90
    have N90 := Fr.app N87 N90q
    obtain ⟨Lh90, X90, N90⟩ := hide X90 N90 (C := 4) (S := 61) (by decide) (by decide)
    refine Outs.to st90 ?_
    refine Outs.of (U' := T90.setTop (mkF m 129 #[.val (.int i0), .val (.int (1 : Int32)), .val (.int (3 : Int32)), .val (.ref b56), .val (.ref b58), .val (.int f0_v62a), .val (.int f0_v69a), .val (.int f0_v76a), .val (.int f0_v83a), .val (.int f0_v90a), .val (.int f0_v97a), .val (.int f0_v104a), .val (.int f0_v111a), .val (.int f0_v118a), .val (.int f0_v125a), .unset, .unset] [(.ref b58)])) (fun t k => ?_) ?_
    · refine XS.istore X90.here hx rfl (hb hby at_125) rfl (l' := #[.val (.int i0), .val (.int (1 : Int32)), .val (.int (3 : Int32)), .val (.ref b56), .val (.ref b58), .val (.int f0_v62a), .val (.int f0_v69a), .val (.int f0_v76a), .val (.int f0_v83a), .val (.int f0_v90a), .val (.int f0_v97a), .val (.int f0_v104a), .val (.int f0_v111a), .val (.int f0_v118a), .val (.int f0_v125a), .unset, .unset]) rfl ?_
      refine XS.aload X90.here hx rfl (hb hby at_127) rfl rfl ?_
      exact k
    have f94 : Fld Z T90.heap b56 "com/example/bitmend/bitmend/PositionalColumns" "checkPositions" "[J" (.ref b57) := (f91.keep K90 (ninS ne_b56_b58 nin0))
    have f95 : AJ Z T90.heap b57 .long 22 (cp3_g28 ct3_g25u) := (f92.keep K90 (ninS ne_b57_b58 nin0))
    obtain ⟨cq93, kq93, q93a, q93b, q93c⟩ := isOf hZ rfl u90_0
    obtain ⟨_, _, ⟨T93, L93, k93, n93⟩, -, X93, ⟨Lc93, hQ93, l93, y93, z93⟩, st93⟩ := X90.virtualBack hx (y := (⟨"com/example/bitmend/bitmend/PositionalColumns$DataPositions", "next", "()I"⟩ : MethodName)) (z := (⟨"com/example/bitmend/bitmend/PositionalColumns$DataPositions", "next", "()I"⟩ : MethodName)) hown (mvT hZ (hw _ (List.mem_of_getElem? (i := 47) rfl))) (mvT hZ (hw _ (List.mem_of_getElem? (i := 48) rfl))) (notFace_of_selects (args := #[]) (mvT hZ (hw _ (List.mem_of_getElem? (i := 50) rfl)))) (mvT hZ (hw _ (List.mem_of_getElem? (i := 50) rfl))) (mvT hZ (hw _ (List.mem_of_getElem? (i := 49) rfl))) (by decide) (backOf (W := 0) (rmnx1 l Z a0 hw [] b58 (13 : Int32) (3 : Int32) ((cp3_g28 ct3_g25u) 3) b56 b57 22 (cp3_g28 ct3_g25u) 4 T90.heap n0 u90_0 g_b58 u90_2 u90_3 u90_4 u90_1 f94 f95 ne_b56_b58 ne_b57_b58 (by decide +kernel) ⟨by decide, by decide⟩ (by decide +kernel)) hZ (hw _ (List.mem_of_getElem? (i := 51) rfl)) (hw _ (List.mem_of_getElem? (i := 33) rfl)) (by decide) (by decide)) q93a q93c (g := (mkF m 129 #[.val (.int i0), .val (.int (1 : Int32)), .val (.int (3 : Int32)), .val (.ref b56), .val (.ref b58), .val (.int f0_v62a), .val (.int f0_v69a), .val (.int f0_v76a), .val (.int f0_v83a), .val (.int f0_v90a), .val (.int f0_v97a), .val (.int f0_v104a), .val (.int f0_v111a), .val (.int f0_v118a), .val (.int f0_v125a), .unset, .unset] [(.ref b58)])) rfl (by rw [hml]; rfl) (Steps.refl _) (argsL := []) (rest := []) (lenOf pd_8 rfl) rfl (by show 2 * 0 + _ ≤ _; exact Nat.le_of_eq rfl) (hb hby at_129) (fun _ _ => ⟨rfl, rfl, (by decide : 4 + 0 ≤ _), (by decide : 61 + 0 ≤ _)⟩)
    dsimp only [Pt.U, Pt.locs, Pt.cells, Pt.slots] at X93 l93 y93 z93 st93 hQ93
    subst l93 y93 z93
    obtain ⟨rfl, N93q, K93, u93_0, u93_1, u93_2, u93_3, u93_4⟩ := hQ93
    have N93 := Fr.app N90 N93q
    obtain ⟨Lh93, X93, N93⟩ := hide X93 N93 (C := 4) (S := 61) (by decide) (by decide)
    refine Outs.to st93 ?_
    refine Outs.of (U' := T93.setTop (mkF m 136 #[.val (.int i0), .val (.int (1 : Int32)), .val (.int (3 : Int32)), .val (.ref b56), .val (.ref b58), .val (.int f0_v62a), .val (.int f0_v69a), .val (.int f0_v76a), .val (.int f0_v83a), .val (.int f0_v90a), .val (.int f0_v97a), .val (.int f0_v104a), .val (.int f0_v111a), .val (.int f0_v118a), .val (.int f0_v125a), .val (.int f0_v132a), .unset] [(.ref b58)])) (fun t k => ?_) ?_
    · refine XS.istore X93.here hx rfl (hb hby at_132) rfl (l' := #[.val (.int i0), .val (.int (1 : Int32)), .val (.int (3 : Int32)), .val (.ref b56), .val (.ref b58), .val (.int f0_v62a), .val (.int f0_v69a), .val (.int f0_v76a), .val (.int f0_v83a), .val (.int f0_v90a), .val (.int f0_v97a), .val (.int f0_v104a), .val (.int f0_v111a), .val (.int f0_v118a), .val (.int f0_v125a), .val (.int f0_v132a), .unset]) rfl ?_
      refine XS.aload X93.here hx rfl (hb hby at_134) rfl rfl ?_
      exact k
    have f97 : Fld Z T93.heap b56 "com/example/bitmend/bitmend/PositionalColumns" "checkPositions" "[J" (.ref b57) := (f94.keep K93 (ninS ne_b56_b58 nin0))
    have f98 : AJ Z T93.heap b57 .long 22 (cp3_g28 ct3_g25u) := (f95.keep K93 (ninS ne_b57_b58 nin0))
    obtain ⟨cq96, kq96, q96a, q96b, q96c⟩ := isOf hZ rfl u93_0
    obtain ⟨_, _, ⟨T96, L96, k96, n96⟩, -, X96, ⟨Lc96, hQ96, l96, y96, z96⟩, st96⟩ := X93.virtualBack hx (y := (⟨"com/example/bitmend/bitmend/PositionalColumns$DataPositions", "next", "()I"⟩ : MethodName)) (z := (⟨"com/example/bitmend/bitmend/PositionalColumns$DataPositions", "next", "()I"⟩ : MethodName)) hown (mvT hZ (hw _ (List.mem_of_getElem? (i := 47) rfl))) (mvT hZ (hw _ (List.mem_of_getElem? (i := 48) rfl))) (notFace_of_selects (args := #[]) (mvT hZ (hw _ (List.mem_of_getElem? (i := 50) rfl)))) (mvT hZ (hw _ (List.mem_of_getElem? (i := 50) rfl))) (mvT hZ (hw _ (List.mem_of_getElem? (i := 49) rfl))) (by decide) (backOf (W := 0) (rmnx0 l Z a0 hw [] b58 (15 : Int32) (4 : Int32) ((cp3_g28 ct3_g25u) 4) b56 b57 22 (cp3_g28 ct3_g25u) T93.heap n0 u93_0 g_b58 u93_2 u93_3 u93_4 u93_1 f97 f98 ne_b56_b58 ne_b57_b58 (by decide +kernel)) hZ (hw _ (List.mem_of_getElem? (i := 51) rfl)) (hw _ (List.mem_of_getElem? (i := 33) rfl)) (by decide) (by decide)) q96a q96c (g := (mkF m 136 #[.val (.int i0), .val (.int (1 : Int32)), .val (.int (3 : Int32)), .val (.ref b56), .val (.ref b58), .val (.int f0_v62a), .val (.int f0_v69a), .val (.int f0_v76a), .val (.int f0_v83a), .val (.int f0_v90a), .val (.int f0_v97a), .val (.int f0_v104a), .val (.int f0_v111a), .val (.int f0_v118a), .val (.int f0_v125a), .val (.int f0_v132a), .unset] [(.ref b58)])) rfl (by rw [hml]; rfl) (Steps.refl _) (argsL := []) (rest := []) (lenOf pd_8 rfl) rfl (by show 2 * 0 + _ ≤ _; exact Nat.le_of_eq rfl) (hb hby at_136) (fun _ _ => ⟨rfl, rfl, (by decide : 4 + 0 ≤ _), (by decide : 61 + 0 ≤ _)⟩)
    dsimp only [Pt.U, Pt.locs, Pt.cells, Pt.slots] at X96 l96 y96 z96 st96 hQ96
    subst l96 y96 z96
    obtain ⟨rfl, N96q, K96, u96_0, u96_1, u96_2, u96_3, u96_4⟩ := hQ96
    have N96 := Fr.app N93 N96q
    obtain ⟨Lh96, X96, N96⟩ := hide X96 N96 (C := 4) (S := 61) (by decide) (by decide)
    refine Outs.to st96 ?_
    refine Outs.of (U' := T96.setTop (mkF m 145 #[.val (.int i0), .val (.int (1 : Int32)), .val (.int (3 : Int32)), .val (.ref b56), .val (.ref b58), .val (.int f0_v62a), .val (.int f0_v69a), .val (.int f0_v76a), .val (.int f0_v83a), .val (.int f0_v90a), .val (.int f0_v97a), .val (.int f0_v104a), .val (.int f0_v111a), .val (.int f0_v118a), .val (.int f0_v125a), .val (.int f0_v132a), .val (.int f0_v139a)] [(.int (1 : Int32)), (.int (3 : Int32)), (.int f0_v62a)])) (fun t k => ?_) ?_
    · refine XS.istore X96.here hx rfl (hb hby at_139) rfl (l' := #[.val (.int i0), .val (.int (1 : Int32)), .val (.int (3 : Int32)), .val (.ref b56), .val (.ref b58), .val (.int f0_v62a), .val (.int f0_v69a), .val (.int f0_v76a), .val (.int f0_v83a), .val (.int f0_v90a), .val (.int f0_v97a), .val (.int f0_v104a), .val (.int f0_v111a), .val (.int f0_v118a), .val (.int f0_v125a), .val (.int f0_v132a), .val (.int f0_v139a)]) rfl ?_
      refine XS.iload X96.here hx rfl (hb hby at_141) rfl ?_
      refine XS.iloadN X96.here hx rfl (hb hby at_143) rfl ?_
      refine XS.iconst X96.here hx rfl (hb hby at_144) ?_
      exact k
    obtain ⟨_, _, ⟨T99, L99, k99, n99⟩, -, X99, ⟨Lc99, hQ99, l99, y99, z99⟩, st99⟩ := Jvm.LawKit.callS X96 hx (y := (⟨"com/example/bitmend/bitmend/DataPositionsNextPinLaw", "expected", "(II)I"⟩ : MethodName)) hown (mvT hZ (hw _ (List.mem_of_getElem? (i := 56) rfl))) (mvT hZ (hw _ (List.mem_of_getElem? (i := 57) rfl))) (mvT hZ (hw _ (List.mem_of_getElem? (i := 58) rfl))) (mvT hZ (hw _ (List.mem_of_getElem? (i := 59) rfl))) (by decide) (backOf (W := 1) (rm9 l Z a0 hw [] (3 : Int32) (1 : Int32) T96.heap n0 ) hZ (hw _ (List.mem_of_getElem? (i := 59) rfl)) (hw _ (List.mem_of_getElem? (i := 58) rfl)) (by decide) (by decide)) (g := (mkF m 145 #[.val (.int i0), .val (.int (1 : Int32)), .val (.int (3 : Int32)), .val (.ref b56), .val (.ref b58), .val (.int f0_v62a), .val (.int f0_v69a), .val (.int f0_v76a), .val (.int f0_v83a), .val (.int f0_v90a), .val (.int f0_v97a), .val (.int f0_v104a), .val (.int f0_v111a), .val (.int f0_v118a), .val (.int f0_v125a), .val (.int f0_v132a), .val (.int f0_v139a)] [(.int (1 : Int32)), (.int (3 : Int32)), (.int f0_v62a)])) rfl (by rw [hml]; rfl) (argsL := [(.int (3 : Int32)), (.int (1 : Int32))]) (rest := [(.int f0_v62a)]) (lenOf pd_4 rfl) rfl (by show 2 * 0 + _ ≤ _; exact Nat.le_of_eq rfl) (hb hby at_145) (fun _ _ => ⟨rfl, rfl, (by decide : 4 + 0 ≤ _), (by decide : 61 + 0 ≤ _)⟩)
    dsimp only [Pt.U, Pt.locs, Pt.cells, Pt.slots] at X99 l99 y99 z99 st99 hQ99
    subst l99 y99 z99
    obtain ⟨rfl, N99q, e99⟩ := hQ99
    have N99 := Fr.app N96 N99q
    obtain ⟨Lh99, X99, N99⟩ := hide X99 N99 (C := 4) (S := 61) (by decide) (by decide)
    refine Outs.of st99 ?_
    refine Outs.of (U' := T99.setTop (mkF m 155 #[.val (.int i0), .val (.int (1 : Int32)), .val (.int (3 : Int32)), .val (.ref b56), .val (.ref b58), .val (.int f0_v62a), .val (.int f0_v69a), .val (.int f0_v76a), .val (.int f0_v83a), .val (.int f0_v90a), .val (.int f0_v97a), .val (.int f0_v104a), .val (.int f0_v111a), .val (.int f0_v118a), .val (.int f0_v125a), .val (.int f0_v132a), .val (.int f0_v139a)] [(.int (2 : Int32)), (.int (3 : Int32)), (.int f0_v69a)])) (fun t k => ?_) ?_
    · refine XS.icmpNo X99.here hx rfl (hb hby at_148) rfl (teq (show f0_v62a = (F_f9 (3 : Int32) (1 : Int32)) from (by decide +kernel))).2 ?_
      refine XS.iload X99.here hx rfl (hb hby at_151) rfl ?_
      refine XS.iloadN X99.here hx rfl (hb hby at_153) rfl ?_
      refine XS.iconst X99.here hx rfl (hb hby at_154) ?_
      exact k
    obtain ⟨_, _, ⟨T100, L100, k100, n100⟩, -, X100, ⟨Lc100, hQ100, l100, y100, z100⟩, st100⟩ := Jvm.LawKit.callS X99 hx (y := (⟨"com/example/bitmend/bitmend/DataPositionsNextPinLaw", "expected", "(II)I"⟩ : MethodName)) hown (mvT hZ (hw _ (List.mem_of_getElem? (i := 56) rfl))) (mvT hZ (hw _ (List.mem_of_getElem? (i := 57) rfl))) (mvT hZ (hw _ (List.mem_of_getElem? (i := 58) rfl))) (mvT hZ (hw _ (List.mem_of_getElem? (i := 59) rfl))) (by decide) (backOf (W := 1) (rm9 l Z a0 hw [] (3 : Int32) (2 : Int32) T96.heap n0 ) hZ (hw _ (List.mem_of_getElem? (i := 59) rfl)) (hw _ (List.mem_of_getElem? (i := 58) rfl)) (by decide) (by decide)) (g := (mkF m 155 #[.val (.int i0), .val (.int (1 : Int32)), .val (.int (3 : Int32)), .val (.ref b56), .val (.ref b58), .val (.int f0_v62a), .val (.int f0_v69a), .val (.int f0_v76a), .val (.int f0_v83a), .val (.int f0_v90a), .val (.int f0_v97a), .val (.int f0_v104a), .val (.int f0_v111a), .val (.int f0_v118a), .val (.int f0_v125a), .val (.int f0_v132a), .val (.int f0_v139a)] [(.int (2 : Int32)), (.int (3 : Int32)), (.int f0_v69a)])) rfl (by rw [hml]; rfl) (argsL := [(.int (3 : Int32)), (.int (2 : Int32))]) (rest := [(.int f0_v69a)]) (lenOf pd_4 rfl) rfl (by show 2 * 0 + _ ≤ _; exact Nat.le_of_eq rfl) (hb hby at_155) (fun _ _ => ⟨rfl, e99, (by decide : 4 + 0 ≤ _), (by decide : 61 + 0 ≤ _)⟩)
    dsimp only [Pt.U, Pt.locs, Pt.cells, Pt.slots] at X100 l100 y100 z100 st100 hQ100
    subst l100 y100 z100
    obtain ⟨rfl, N100q, e100⟩ := hQ100
    have N100 := Fr.app N99 N100q
    obtain ⟨Lh100, X100, N100⟩ := hide X100 N100 (C := 4) (S := 61) (by decide) (by decide)
    refine Outs.of st100 ?_
    refine Outs.of (U' := T100.setTop (mkF m 165 #[.val (.int i0), .val (.int (1 : Int32)), .val (.int (3 : Int32)), .val (.ref b56), .val (.ref b58), .val (.int f0_v62a), .val (.int f0_v69a), .val (.int f0_v76a), .val (.int f0_v83a), .val (.int f0_v90a), .val (.int f0_v97a), .val (.int f0_v104a), .val (.int f0_v111a), .val (.int f0_v118a), .val (.int f0_v125a), .val (.int f0_v132a), .val (.int f0_v139a)] [(.int (3 : Int32)), (.int (3 : Int32)), (.int f0_v76a)])) (fun t k => ?_) ?_
    · refine XS.icmpNo X100.here hx rfl (hb hby at_158) rfl (teq (show f0_v69a = (F_f9 (3 : Int32) (2 : Int32)) from (by decide +kernel))).2 ?_
      refine XS.iload X100.here hx rfl (hb hby at_161) rfl ?_
      refine XS.iloadN X100.here hx rfl (hb hby at_163) rfl ?_
      refine XS.iconst X100.here hx rfl (hb hby at_164) ?_
      exact k
    obtain ⟨_, _, ⟨T101, L101, k101, n101⟩, -, X101, ⟨Lc101, hQ101, l101, y101, z101⟩, st101⟩ := Jvm.LawKit.callS X100 hx (y := (⟨"com/example/bitmend/bitmend/DataPositionsNextPinLaw", "expected", "(II)I"⟩ : MethodName)) hown (mvT hZ (hw _ (List.mem_of_getElem? (i := 56) rfl))) (mvT hZ (hw _ (List.mem_of_getElem? (i := 57) rfl))) (mvT hZ (hw _ (List.mem_of_getElem? (i := 58) rfl))) (mvT hZ (hw _ (List.mem_of_getElem? (i := 59) rfl))) (by decide) (backOf (W := 1) (rm9 l Z a0 hw [] (3 : Int32) (3 : Int32) T96.heap n0 ) hZ (hw _ (List.mem_of_getElem? (i := 59) rfl)) (hw _ (List.mem_of_getElem? (i := 58) rfl)) (by decide) (by decide)) (g := (mkF m 165 #[.val (.int i0), .val (.int (1 : Int32)), .val (.int (3 : Int32)), .val (.ref b56), .val (.ref b58), .val (.int f0_v62a), .val (.int f0_v69a), .val (.int f0_v76a), .val (.int f0_v83a), .val (.int f0_v90a), .val (.int f0_v97a), .val (.int f0_v104a), .val (.int f0_v111a), .val (.int f0_v118a), .val (.int f0_v125a), .val (.int f0_v132a), .val (.int f0_v139a)] [(.int (3 : Int32)), (.int (3 : Int32)), (.int f0_v76a)])) rfl (by rw [hml]; rfl) (argsL := [(.int (3 : Int32)), (.int (3 : Int32))]) (rest := [(.int f0_v76a)]) (lenOf pd_4 rfl) rfl (by show 2 * 0 + _ ≤ _; exact Nat.le_of_eq rfl) (hb hby at_165) (fun _ _ => ⟨rfl, e100, (by decide : 4 + 0 ≤ _), (by decide : 61 + 0 ≤ _)⟩)
    dsimp only [Pt.U, Pt.locs, Pt.cells, Pt.slots] at X101 l101 y101 z101 st101 hQ101
    subst l101 y101 z101
    obtain ⟨rfl, N101q, e101⟩ := hQ101
    have N101 := Fr.app N100 N101q
    obtain ⟨Lh101, X101, N101⟩ := hide X101 N101 (C := 4) (S := 61) (by decide) (by decide)
    refine Outs.of st101 ?_
    refine Outs.of (U' := T101.setTop (mkF m 175 #[.val (.int i0), .val (.int (1 : Int32)), .val (.int (3 : Int32)), .val (.ref b56), .val (.ref b58), .val (.int f0_v62a), .val (.int f0_v69a), .val (.int f0_v76a), .val (.int f0_v83a), .val (.int f0_v90a), .val (.int f0_v97a), .val (.int f0_v104a), .val (.int f0_v111a), .val (.int f0_v118a), .val (.int f0_v125a), .val (.int f0_v132a), .val (.int f0_v139a)] [(.int (4 : Int32)), (.int (3 : Int32)), (.int f0_v83a)])) (fun t k => ?_) ?_
    · refine XS.icmpNo X101.here hx rfl (hb hby at_168) rfl (teq (show f0_v76a = (F_f9 (3 : Int32) (3 : Int32)) from (by decide +kernel))).2 ?_
      refine XS.iload X101.here hx rfl (hb hby at_171) rfl ?_
      refine XS.iloadN X101.here hx rfl (hb hby at_173) rfl ?_
      refine XS.iconst X101.here hx rfl (hb hby at_174) ?_
      exact k
    obtain ⟨_, _, ⟨T102, L102, k102, n102⟩, -, X102, ⟨Lc102, hQ102, l102, y102, z102⟩, st102⟩ := Jvm.LawKit.callS X101 hx (y := (⟨"com/example/bitmend/bitmend/DataPositionsNextPinLaw", "expected", "(II)I"⟩ : MethodName)) hown (mvT hZ (hw _ (List.mem_of_getElem? (i := 56) rfl))) (mvT hZ (hw _ (List.mem_of_getElem? (i := 57) rfl))) (mvT hZ (hw _ (List.mem_of_getElem? (i := 58) rfl))) (mvT hZ (hw _ (List.mem_of_getElem? (i := 59) rfl))) (by decide) (backOf (W := 1) (rm9 l Z a0 hw [] (3 : Int32) (4 : Int32) T96.heap n0 ) hZ (hw _ (List.mem_of_getElem? (i := 59) rfl)) (hw _ (List.mem_of_getElem? (i := 58) rfl)) (by decide) (by decide)) (g := (mkF m 175 #[.val (.int i0), .val (.int (1 : Int32)), .val (.int (3 : Int32)), .val (.ref b56), .val (.ref b58), .val (.int f0_v62a), .val (.int f0_v69a), .val (.int f0_v76a), .val (.int f0_v83a), .val (.int f0_v90a), .val (.int f0_v97a), .val (.int f0_v104a), .val (.int f0_v111a), .val (.int f0_v118a), .val (.int f0_v125a), .val (.int f0_v132a), .val (.int f0_v139a)] [(.int (4 : Int32)), (.int (3 : Int32)), (.int f0_v83a)])) rfl (by rw [hml]; rfl) (argsL := [(.int (3 : Int32)), (.int (4 : Int32))]) (rest := [(.int f0_v83a)]) (lenOf pd_4 rfl) rfl (by show 2 * 0 + _ ≤ _; exact Nat.le_of_eq rfl) (hb hby at_175) (fun _ _ => ⟨rfl, e101, (by decide : 4 + 0 ≤ _), (by decide : 61 + 0 ≤ _)⟩)
    dsimp only [Pt.U, Pt.locs, Pt.cells, Pt.slots] at X102 l102 y102 z102 st102 hQ102
    subst l102 y102 z102
    obtain ⟨rfl, N102q, e102⟩ := hQ102
    have N102 := Fr.app N101 N102q
    obtain ⟨Lh102, X102, N102⟩ := hide X102 N102 (C := 4) (S := 61) (by decide) (by decide)
    refine Outs.of st102 ?_
    refine Outs.of (U' := T102.setTop (mkF m 185 #[.val (.int i0), .val (.int (1 : Int32)), .val (.int (3 : Int32)), .val (.ref b56), .val (.ref b58), .val (.int f0_v62a), .val (.int f0_v69a), .val (.int f0_v76a), .val (.int f0_v83a), .val (.int f0_v90a), .val (.int f0_v97a), .val (.int f0_v104a), .val (.int f0_v111a), .val (.int f0_v118a), .val (.int f0_v125a), .val (.int f0_v132a), .val (.int f0_v139a)] [(.int (5 : Int32)), (.int (3 : Int32)), (.int f0_v90a)])) (fun t k => ?_) ?_
    · refine XS.icmpNo X102.here hx rfl (hb hby at_178) rfl (teq (show f0_v83a = (F_f9 (3 : Int32) (4 : Int32)) from (by decide +kernel))).2 ?_
      refine XS.iload X102.here hx rfl (hb hby at_181) rfl ?_
      refine XS.iloadN X102.here hx rfl (hb hby at_183) rfl ?_
      refine XS.iconst X102.here hx rfl (hb hby at_184) ?_
      exact k
    obtain ⟨_, _, ⟨T103, L103, k103, n103⟩, -, X103, ⟨Lc103, hQ103, l103, y103, z103⟩, st103⟩ := Jvm.LawKit.callS X102 hx (y := (⟨"com/example/bitmend/bitmend/DataPositionsNextPinLaw", "expected", "(II)I"⟩ : MethodName)) hown (mvT hZ (hw _ (List.mem_of_getElem? (i := 56) rfl))) (mvT hZ (hw _ (List.mem_of_getElem? (i := 57) rfl))) (mvT hZ (hw _ (List.mem_of_getElem? (i := 58) rfl))) (mvT hZ (hw _ (List.mem_of_getElem? (i := 59) rfl))) (by decide) (backOf (W := 1) (rm9 l Z a0 hw [] (3 : Int32) (5 : Int32) T96.heap n0 ) hZ (hw _ (List.mem_of_getElem? (i := 59) rfl)) (hw _ (List.mem_of_getElem? (i := 58) rfl)) (by decide) (by decide)) (g := (mkF m 185 #[.val (.int i0), .val (.int (1 : Int32)), .val (.int (3 : Int32)), .val (.ref b56), .val (.ref b58), .val (.int f0_v62a), .val (.int f0_v69a), .val (.int f0_v76a), .val (.int f0_v83a), .val (.int f0_v90a), .val (.int f0_v97a), .val (.int f0_v104a), .val (.int f0_v111a), .val (.int f0_v118a), .val (.int f0_v125a), .val (.int f0_v132a), .val (.int f0_v139a)] [(.int (5 : Int32)), (.int (3 : Int32)), (.int f0_v90a)])) rfl (by rw [hml]; rfl) (argsL := [(.int (3 : Int32)), (.int (5 : Int32))]) (rest := [(.int f0_v90a)]) (lenOf pd_4 rfl) rfl (by show 2 * 0 + _ ≤ _; exact Nat.le_of_eq rfl) (hb hby at_185) (fun _ _ => ⟨rfl, e102, (by decide : 4 + 0 ≤ _), (by decide : 61 + 0 ≤ _)⟩)
    dsimp only [Pt.U, Pt.locs, Pt.cells, Pt.slots] at X103 l103 y103 z103 st103 hQ103
    subst l103 y103 z103
    obtain ⟨rfl, N103q, e103⟩ := hQ103
    have N103 := Fr.app N102 N103q
    obtain ⟨Lh103, X103, N103⟩ := hide X103 N103 (C := 4) (S := 61) (by decide) (by decide)
    refine Outs.of st103 ?_
    refine Outs.of (U' := T103.setTop (mkF m 196 #[.val (.int i0), .val (.int (1 : Int32)), .val (.int (3 : Int32)), .val (.ref b56), .val (.ref b58), .val (.int f0_v62a), .val (.int f0_v69a), .val (.int f0_v76a), .val (.int f0_v83a), .val (.int f0_v90a), .val (.int f0_v97a), .val (.int f0_v104a), .val (.int f0_v111a), .val (.int f0_v118a), .val (.int f0_v125a), .val (.int f0_v132a), .val (.int f0_v139a)] [(.int (6 : Int32)), (.int (3 : Int32)), (.int f0_v97a)])) (fun t k => ?_) ?_
    · refine XS.icmpNo X103.here hx rfl (hb hby at_188) rfl (teq (show f0_v90a = (F_f9 (3 : Int32) (5 : Int32)) from (by decide +kernel))).2 ?_
      refine XS.iload X103.here hx rfl (hb hby at_191) rfl ?_
      refine XS.iloadN X103.here hx rfl (hb hby at_193) rfl ?_
      refine XS.bipush X103.here hx rfl (hb hby at_194) ?_
      exact k
    obtain ⟨_, _, ⟨T104, L104, k104, n104⟩, -, X104, ⟨Lc104, hQ104, l104, y104, z104⟩, st104⟩ := Jvm.LawKit.callS X103 hx (y := (⟨"com/example/bitmend/bitmend/DataPositionsNextPinLaw", "expected", "(II)I"⟩ : MethodName)) hown (mvT hZ (hw _ (List.mem_of_getElem? (i := 56) rfl))) (mvT hZ (hw _ (List.mem_of_getElem? (i := 57) rfl))) (mvT hZ (hw _ (List.mem_of_getElem? (i := 58) rfl))) (mvT hZ (hw _ (List.mem_of_getElem? (i := 59) rfl))) (by decide) (backOf (W := 1) (rm9 l Z a0 hw [] (3 : Int32) (6 : Int32) T96.heap n0 ) hZ (hw _ (List.mem_of_getElem? (i := 59) rfl)) (hw _ (List.mem_of_getElem? (i := 58) rfl)) (by decide) (by decide)) (g := (mkF m 196 #[.val (.int i0), .val (.int (1 : Int32)), .val (.int (3 : Int32)), .val (.ref b56), .val (.ref b58), .val (.int f0_v62a), .val (.int f0_v69a), .val (.int f0_v76a), .val (.int f0_v83a), .val (.int f0_v90a), .val (.int f0_v97a), .val (.int f0_v104a), .val (.int f0_v111a), .val (.int f0_v118a), .val (.int f0_v125a), .val (.int f0_v132a), .val (.int f0_v139a)] [(.int (6 : Int32)), (.int (3 : Int32)), (.int f0_v97a)])) rfl (by rw [hml]; rfl) (argsL := [(.int (3 : Int32)), (.int (6 : Int32))]) (rest := [(.int f0_v97a)]) (lenOf pd_4 rfl) rfl (by show 2 * 0 + _ ≤ _; exact Nat.le_of_eq rfl) (hb hby at_196) (fun _ _ => ⟨rfl, e103, (by decide : 4 + 0 ≤ _), (by decide : 61 + 0 ≤ _)⟩)
    dsimp only [Pt.U, Pt.locs, Pt.cells, Pt.slots] at X104 l104 y104 z104 st104 hQ104
    subst l104 y104 z104
    obtain ⟨rfl, N104q, e104⟩ := hQ104
    have N104 := Fr.app N103 N104q
    obtain ⟨Lh104, X104, N104⟩ := hide X104 N104 (C := 4) (S := 61) (by decide) (by decide)
    refine Outs.of st104 ?_
    refine Outs.of (U' := T104.setTop (mkF m 207 #[.val (.int i0), .val (.int (1 : Int32)), .val (.int (3 : Int32)), .val (.ref b56), .val (.ref b58), .val (.int f0_v62a), .val (.int f0_v69a), .val (.int f0_v76a), .val (.int f0_v83a), .val (.int f0_v90a), .val (.int f0_v97a), .val (.int f0_v104a), .val (.int f0_v111a), .val (.int f0_v118a), .val (.int f0_v125a), .val (.int f0_v132a), .val (.int f0_v139a)] [(.int (7 : Int32)), (.int (3 : Int32)), (.int f0_v104a)])) (fun t k => ?_) ?_
    · refine XS.icmpNo X104.here hx rfl (hb hby at_199) rfl (teq (show f0_v97a = (F_f9 (3 : Int32) (6 : Int32)) from (by decide +kernel))).2 ?_
      refine XS.iload X104.here hx rfl (hb hby at_202) rfl ?_
      refine XS.iloadN X104.here hx rfl (hb hby at_204) rfl ?_
      refine XS.bipush X104.here hx rfl (hb hby at_205) ?_
      exact k
    obtain ⟨_, _, ⟨T105, L105, k105, n105⟩, -, X105, ⟨Lc105, hQ105, l105, y105, z105⟩, st105⟩ := Jvm.LawKit.callS X104 hx (y := (⟨"com/example/bitmend/bitmend/DataPositionsNextPinLaw", "expected", "(II)I"⟩ : MethodName)) hown (mvT hZ (hw _ (List.mem_of_getElem? (i := 56) rfl))) (mvT hZ (hw _ (List.mem_of_getElem? (i := 57) rfl))) (mvT hZ (hw _ (List.mem_of_getElem? (i := 58) rfl))) (mvT hZ (hw _ (List.mem_of_getElem? (i := 59) rfl))) (by decide) (backOf (W := 1) (rm9 l Z a0 hw [] (3 : Int32) (7 : Int32) T96.heap n0 ) hZ (hw _ (List.mem_of_getElem? (i := 59) rfl)) (hw _ (List.mem_of_getElem? (i := 58) rfl)) (by decide) (by decide)) (g := (mkF m 207 #[.val (.int i0), .val (.int (1 : Int32)), .val (.int (3 : Int32)), .val (.ref b56), .val (.ref b58), .val (.int f0_v62a), .val (.int f0_v69a), .val (.int f0_v76a), .val (.int f0_v83a), .val (.int f0_v90a), .val (.int f0_v97a), .val (.int f0_v104a), .val (.int f0_v111a), .val (.int f0_v118a), .val (.int f0_v125a), .val (.int f0_v132a), .val (.int f0_v139a)] [(.int (7 : Int32)), (.int (3 : Int32)), (.int f0_v104a)])) rfl (by rw [hml]; rfl) (argsL := [(.int (3 : Int32)), (.int (7 : Int32))]) (rest := [(.int f0_v104a)]) (lenOf pd_4 rfl) rfl (by show 2 * 0 + _ ≤ _; exact Nat.le_of_eq rfl) (hb hby at_207) (fun _ _ => ⟨rfl, e104, (by decide : 4 + 0 ≤ _), (by decide : 61 + 0 ≤ _)⟩)
    dsimp only [Pt.U, Pt.locs, Pt.cells, Pt.slots] at X105 l105 y105 z105 st105 hQ105
    subst l105 y105 z105
    obtain ⟨rfl, N105q, e105⟩ := hQ105
    have N105 := Fr.app N104 N105q
    obtain ⟨Lh105, X105, N105⟩ := hide X105 N105 (C := 4) (S := 61) (by decide) (by decide)
    refine Outs.of st105 ?_
    refine Outs.of (U' := T105.setTop (mkF m 218 #[.val (.int i0), .val (.int (1 : Int32)), .val (.int (3 : Int32)), .val (.ref b56), .val (.ref b58), .val (.int f0_v62a), .val (.int f0_v69a), .val (.int f0_v76a), .val (.int f0_v83a), .val (.int f0_v90a), .val (.int f0_v97a), .val (.int f0_v104a), .val (.int f0_v111a), .val (.int f0_v118a), .val (.int f0_v125a), .val (.int f0_v132a), .val (.int f0_v139a)] [(.int (8 : Int32)), (.int (3 : Int32)), (.int f0_v111a)])) (fun t k => ?_) ?_
    · refine XS.icmpNo X105.here hx rfl (hb hby at_210) rfl (teq (show f0_v104a = (F_f9 (3 : Int32) (7 : Int32)) from (by decide +kernel))).2 ?_
      refine XS.iload X105.here hx rfl (hb hby at_213) rfl ?_
      refine XS.iloadN X105.here hx rfl (hb hby at_215) rfl ?_
      refine XS.bipush X105.here hx rfl (hb hby at_216) ?_
      exact k
    obtain ⟨_, _, ⟨T106, L106, k106, n106⟩, -, X106, ⟨Lc106, hQ106, l106, y106, z106⟩, st106⟩ := Jvm.LawKit.callS X105 hx (y := (⟨"com/example/bitmend/bitmend/DataPositionsNextPinLaw", "expected", "(II)I"⟩ : MethodName)) hown (mvT hZ (hw _ (List.mem_of_getElem? (i := 56) rfl))) (mvT hZ (hw _ (List.mem_of_getElem? (i := 57) rfl))) (mvT hZ (hw _ (List.mem_of_getElem? (i := 58) rfl))) (mvT hZ (hw _ (List.mem_of_getElem? (i := 59) rfl))) (by decide) (backOf (W := 1) (rm9 l Z a0 hw [] (3 : Int32) (8 : Int32) T96.heap n0 ) hZ (hw _ (List.mem_of_getElem? (i := 59) rfl)) (hw _ (List.mem_of_getElem? (i := 58) rfl)) (by decide) (by decide)) (g := (mkF m 218 #[.val (.int i0), .val (.int (1 : Int32)), .val (.int (3 : Int32)), .val (.ref b56), .val (.ref b58), .val (.int f0_v62a), .val (.int f0_v69a), .val (.int f0_v76a), .val (.int f0_v83a), .val (.int f0_v90a), .val (.int f0_v97a), .val (.int f0_v104a), .val (.int f0_v111a), .val (.int f0_v118a), .val (.int f0_v125a), .val (.int f0_v132a), .val (.int f0_v139a)] [(.int (8 : Int32)), (.int (3 : Int32)), (.int f0_v111a)])) rfl (by rw [hml]; rfl) (argsL := [(.int (3 : Int32)), (.int (8 : Int32))]) (rest := [(.int f0_v111a)]) (lenOf pd_4 rfl) rfl (by show 2 * 0 + _ ≤ _; exact Nat.le_of_eq rfl) (hb hby at_218) (fun _ _ => ⟨rfl, e105, (by decide : 4 + 0 ≤ _), (by decide : 61 + 0 ≤ _)⟩)
    dsimp only [Pt.U, Pt.locs, Pt.cells, Pt.slots] at X106 l106 y106 z106 st106 hQ106
    subst l106 y106 z106
    obtain ⟨rfl, N106q, e106⟩ := hQ106
    have N106 := Fr.app N105 N106q
    obtain ⟨Lh106, X106, N106⟩ := hide X106 N106 (C := 4) (S := 61) (by decide) (by decide)
    refine Outs.of st106 ?_
    refine Outs.of (U' := T106.setTop (mkF m 229 #[.val (.int i0), .val (.int (1 : Int32)), .val (.int (3 : Int32)), .val (.ref b56), .val (.ref b58), .val (.int f0_v62a), .val (.int f0_v69a), .val (.int f0_v76a), .val (.int f0_v83a), .val (.int f0_v90a), .val (.int f0_v97a), .val (.int f0_v104a), .val (.int f0_v111a), .val (.int f0_v118a), .val (.int f0_v125a), .val (.int f0_v132a), .val (.int f0_v139a)] [(.int (9 : Int32)), (.int (3 : Int32)), (.int f0_v118a)])) (fun t k => ?_) ?_
    · refine XS.icmpNo X106.here hx rfl (hb hby at_221) rfl (teq (show f0_v111a = (F_f9 (3 : Int32) (8 : Int32)) from (by decide +kernel))).2 ?_
      refine XS.iload X106.here hx rfl (hb hby at_224) rfl ?_
      refine XS.iloadN X106.here hx rfl (hb hby at_226) rfl ?_
      refine XS.bipush X106.here hx rfl (hb hby at_227) ?_
      exact k
    obtain ⟨_, _, ⟨T107, L107, k107, n107⟩, -, X107, ⟨Lc107, hQ107, l107, y107, z107⟩, st107⟩ := Jvm.LawKit.callS X106 hx (y := (⟨"com/example/bitmend/bitmend/DataPositionsNextPinLaw", "expected", "(II)I"⟩ : MethodName)) hown (mvT hZ (hw _ (List.mem_of_getElem? (i := 56) rfl))) (mvT hZ (hw _ (List.mem_of_getElem? (i := 57) rfl))) (mvT hZ (hw _ (List.mem_of_getElem? (i := 58) rfl))) (mvT hZ (hw _ (List.mem_of_getElem? (i := 59) rfl))) (by decide) (backOf (W := 1) (rm9 l Z a0 hw [] (3 : Int32) (9 : Int32) T96.heap n0 ) hZ (hw _ (List.mem_of_getElem? (i := 59) rfl)) (hw _ (List.mem_of_getElem? (i := 58) rfl)) (by decide) (by decide)) (g := (mkF m 229 #[.val (.int i0), .val (.int (1 : Int32)), .val (.int (3 : Int32)), .val (.ref b56), .val (.ref b58), .val (.int f0_v62a), .val (.int f0_v69a), .val (.int f0_v76a), .val (.int f0_v83a), .val (.int f0_v90a), .val (.int f0_v97a), .val (.int f0_v104a), .val (.int f0_v111a), .val (.int f0_v118a), .val (.int f0_v125a), .val (.int f0_v132a), .val (.int f0_v139a)] [(.int (9 : Int32)), (.int (3 : Int32)), (.int f0_v118a)])) rfl (by rw [hml]; rfl) (argsL := [(.int (3 : Int32)), (.int (9 : Int32))]) (rest := [(.int f0_v118a)]) (lenOf pd_4 rfl) rfl (by show 2 * 0 + _ ≤ _; exact Nat.le_of_eq rfl) (hb hby at_229) (fun _ _ => ⟨rfl, e106, (by decide : 4 + 0 ≤ _), (by decide : 61 + 0 ≤ _)⟩)
    dsimp only [Pt.U, Pt.locs, Pt.cells, Pt.slots] at X107 l107 y107 z107 st107 hQ107
    subst l107 y107 z107
    obtain ⟨rfl, N107q, e107⟩ := hQ107
    have N107 := Fr.app N106 N107q
    obtain ⟨Lh107, X107, N107⟩ := hide X107 N107 (C := 4) (S := 61) (by decide) (by decide)
    refine Outs.of st107 ?_
    refine Outs.of (U' := T107.setTop (mkF m 240 #[.val (.int i0), .val (.int (1 : Int32)), .val (.int (3 : Int32)), .val (.ref b56), .val (.ref b58), .val (.int f0_v62a), .val (.int f0_v69a), .val (.int f0_v76a), .val (.int f0_v83a), .val (.int f0_v90a), .val (.int f0_v97a), .val (.int f0_v104a), .val (.int f0_v111a), .val (.int f0_v118a), .val (.int f0_v125a), .val (.int f0_v132a), .val (.int f0_v139a)] [(.int (10 : Int32)), (.int (3 : Int32)), (.int f0_v125a)])) (fun t k => ?_) ?_
    · refine XS.icmpNo X107.here hx rfl (hb hby at_232) rfl (teq (show f0_v118a = (F_f9 (3 : Int32) (9 : Int32)) from (by decide +kernel))).2 ?_
      refine XS.iload X107.here hx rfl (hb hby at_235) rfl ?_
      refine XS.iloadN X107.here hx rfl (hb hby at_237) rfl ?_
      refine XS.bipush X107.here hx rfl (hb hby at_238) ?_
      exact k
    obtain ⟨_, _, ⟨T108, L108, k108, n108⟩, -, X108, ⟨Lc108, hQ108, l108, y108, z108⟩, st108⟩ := Jvm.LawKit.callS X107 hx (y := (⟨"com/example/bitmend/bitmend/DataPositionsNextPinLaw", "expected", "(II)I"⟩ : MethodName)) hown (mvT hZ (hw _ (List.mem_of_getElem? (i := 56) rfl))) (mvT hZ (hw _ (List.mem_of_getElem? (i := 57) rfl))) (mvT hZ (hw _ (List.mem_of_getElem? (i := 58) rfl))) (mvT hZ (hw _ (List.mem_of_getElem? (i := 59) rfl))) (by decide) (backOf (W := 1) (rm9 l Z a0 hw [] (3 : Int32) (10 : Int32) T96.heap n0 ) hZ (hw _ (List.mem_of_getElem? (i := 59) rfl)) (hw _ (List.mem_of_getElem? (i := 58) rfl)) (by decide) (by decide)) (g := (mkF m 240 #[.val (.int i0), .val (.int (1 : Int32)), .val (.int (3 : Int32)), .val (.ref b56), .val (.ref b58), .val (.int f0_v62a), .val (.int f0_v69a), .val (.int f0_v76a), .val (.int f0_v83a), .val (.int f0_v90a), .val (.int f0_v97a), .val (.int f0_v104a), .val (.int f0_v111a), .val (.int f0_v118a), .val (.int f0_v125a), .val (.int f0_v132a), .val (.int f0_v139a)] [(.int (10 : Int32)), (.int (3 : Int32)), (.int f0_v125a)])) rfl (by rw [hml]; rfl) (argsL := [(.int (3 : Int32)), (.int (10 : Int32))]) (rest := [(.int f0_v125a)]) (lenOf pd_4 rfl) rfl (by show 2 * 0 + _ ≤ _; exact Nat.le_of_eq rfl) (hb hby at_240) (fun _ _ => ⟨rfl, e107, (by decide : 4 + 0 ≤ _), (by decide : 61 + 0 ≤ _)⟩)
    dsimp only [Pt.U, Pt.locs, Pt.cells, Pt.slots] at X108 l108 y108 z108 st108 hQ108
    subst l108 y108 z108
    obtain ⟨rfl, N108q, e108⟩ := hQ108
    have N108 := Fr.app N107 N108q
    obtain ⟨Lh108, X108, N108⟩ := hide X108 N108 (C := 4) (S := 61) (by decide) (by decide)
    refine Outs.of st108 ?_
    refine Outs.of (U' := T108.setTop (mkF m 251 #[.val (.int i0), .val (.int (1 : Int32)), .val (.int (3 : Int32)), .val (.ref b56), .val (.ref b58), .val (.int f0_v62a), .val (.int f0_v69a), .val (.int f0_v76a), .val (.int f0_v83a), .val (.int f0_v90a), .val (.int f0_v97a), .val (.int f0_v104a), .val (.int f0_v111a), .val (.int f0_v118a), .val (.int f0_v125a), .val (.int f0_v132a), .val (.int f0_v139a)] [(.int (11 : Int32)), (.int (3 : Int32)), (.int f0_v132a)])) (fun t k => ?_) ?_
    · refine XS.icmpNo X108.here hx rfl (hb hby at_243) rfl (teq (show f0_v125a = (F_f9 (3 : Int32) (10 : Int32)) from (by decide +kernel))).2 ?_
      refine XS.iload X108.here hx rfl (hb hby at_246) rfl ?_
      refine XS.iloadN X108.here hx rfl (hb hby at_248) rfl ?_
      refine XS.bipush X108.here hx rfl (hb hby at_249) ?_
      exact k
    obtain ⟨_, _, ⟨T109, L109, k109, n109⟩, -, X109, ⟨Lc109, hQ109, l109, y109, z109⟩, st109⟩ := Jvm.LawKit.callS X108 hx (y := (⟨"com/example/bitmend/bitmend/DataPositionsNextPinLaw", "expected", "(II)I"⟩ : MethodName)) hown (mvT hZ (hw _ (List.mem_of_getElem? (i := 56) rfl))) (mvT hZ (hw _ (List.mem_of_getElem? (i := 57) rfl))) (mvT hZ (hw _ (List.mem_of_getElem? (i := 58) rfl))) (mvT hZ (hw _ (List.mem_of_getElem? (i := 59) rfl))) (by decide) (backOf (W := 1) (rm9 l Z a0 hw [] (3 : Int32) (11 : Int32) T96.heap n0 ) hZ (hw _ (List.mem_of_getElem? (i := 59) rfl)) (hw _ (List.mem_of_getElem? (i := 58) rfl)) (by decide) (by decide)) (g := (mkF m 251 #[.val (.int i0), .val (.int (1 : Int32)), .val (.int (3 : Int32)), .val (.ref b56), .val (.ref b58), .val (.int f0_v62a), .val (.int f0_v69a), .val (.int f0_v76a), .val (.int f0_v83a), .val (.int f0_v90a), .val (.int f0_v97a), .val (.int f0_v104a), .val (.int f0_v111a), .val (.int f0_v118a), .val (.int f0_v125a), .val (.int f0_v132a), .val (.int f0_v139a)] [(.int (11 : Int32)), (.int (3 : Int32)), (.int f0_v132a)])) rfl (by rw [hml]; rfl) (argsL := [(.int (3 : Int32)), (.int (11 : Int32))]) (rest := [(.int f0_v132a)]) (lenOf pd_4 rfl) rfl (by show 2 * 0 + _ ≤ _; exact Nat.le_of_eq rfl) (hb hby at_251) (fun _ _ => ⟨rfl, e108, (by decide : 4 + 0 ≤ _), (by decide : 61 + 0 ≤ _)⟩)
    dsimp only [Pt.U, Pt.locs, Pt.cells, Pt.slots] at X109 l109 y109 z109 st109 hQ109
    subst l109 y109 z109
    obtain ⟨rfl, N109q, e109⟩ := hQ109
    have N109 := Fr.app N108 N109q
    obtain ⟨Lh109, X109, N109⟩ := hide X109 N109 (C := 4) (S := 61) (by decide) (by decide)
    refine Outs.of st109 ?_
    refine Outs.of (U' := T109.setTop (mkF m 262 #[.val (.int i0), .val (.int (1 : Int32)), .val (.int (3 : Int32)), .val (.ref b56), .val (.ref b58), .val (.int f0_v62a), .val (.int f0_v69a), .val (.int f0_v76a), .val (.int f0_v83a), .val (.int f0_v90a), .val (.int f0_v97a), .val (.int f0_v104a), .val (.int f0_v111a), .val (.int f0_v118a), .val (.int f0_v125a), .val (.int f0_v132a), .val (.int f0_v139a)] [(.int (12 : Int32)), (.int (3 : Int32)), (.int f0_v139a)])) (fun t k => ?_) ?_
    · refine XS.icmpNo X109.here hx rfl (hb hby at_254) rfl (teq (show f0_v132a = (F_f9 (3 : Int32) (11 : Int32)) from (by decide +kernel))).2 ?_
      refine XS.iload X109.here hx rfl (hb hby at_257) rfl ?_
      refine XS.iloadN X109.here hx rfl (hb hby at_259) rfl ?_
      refine XS.bipush X109.here hx rfl (hb hby at_260) ?_
      exact k
    obtain ⟨_, _, ⟨T110, L110, k110, n110⟩, -, X110, ⟨Lc110, hQ110, l110, y110, z110⟩, st110⟩ := Jvm.LawKit.callS X109 hx (y := (⟨"com/example/bitmend/bitmend/DataPositionsNextPinLaw", "expected", "(II)I"⟩ : MethodName)) hown (mvT hZ (hw _ (List.mem_of_getElem? (i := 56) rfl))) (mvT hZ (hw _ (List.mem_of_getElem? (i := 57) rfl))) (mvT hZ (hw _ (List.mem_of_getElem? (i := 58) rfl))) (mvT hZ (hw _ (List.mem_of_getElem? (i := 59) rfl))) (by decide) (backOf (W := 1) (rm9 l Z a0 hw [] (3 : Int32) (12 : Int32) T96.heap n0 ) hZ (hw _ (List.mem_of_getElem? (i := 59) rfl)) (hw _ (List.mem_of_getElem? (i := 58) rfl)) (by decide) (by decide)) (g := (mkF m 262 #[.val (.int i0), .val (.int (1 : Int32)), .val (.int (3 : Int32)), .val (.ref b56), .val (.ref b58), .val (.int f0_v62a), .val (.int f0_v69a), .val (.int f0_v76a), .val (.int f0_v83a), .val (.int f0_v90a), .val (.int f0_v97a), .val (.int f0_v104a), .val (.int f0_v111a), .val (.int f0_v118a), .val (.int f0_v125a), .val (.int f0_v132a), .val (.int f0_v139a)] [(.int (12 : Int32)), (.int (3 : Int32)), (.int f0_v139a)])) rfl (by rw [hml]; rfl) (argsL := [(.int (3 : Int32)), (.int (12 : Int32))]) (rest := [(.int f0_v139a)]) (lenOf pd_4 rfl) rfl (by show 2 * 0 + _ ≤ _; exact Nat.le_of_eq rfl) (hb hby at_262) (fun _ _ => ⟨rfl, e109, (by decide : 4 + 0 ≤ _), (by decide : 61 + 0 ≤ _)⟩)
    dsimp only [Pt.U, Pt.locs, Pt.cells, Pt.slots] at X110 l110 y110 z110 st110 hQ110
    subst l110 y110 z110
    obtain ⟨rfl, N110q, e110⟩ := hQ110
    have N110 := Fr.app N109 N110q
    obtain ⟨Lh110, X110, N110⟩ := hide X110 N110 (C := 4) (S := 61) (by decide) (by decide)
    refine Outs.of st110 ?_
    refine Outs.of (U' := T110.setTop (mkF m 273 #[.val (.int i0), .val (.int (1 : Int32)), .val (.int (3 : Int32)), .val (.ref b56), .val (.ref b58), .val (.int f0_v62a), .val (.int f0_v69a), .val (.int f0_v76a), .val (.int f0_v83a), .val (.int f0_v90a), .val (.int f0_v97a), .val (.int f0_v104a), .val (.int f0_v111a), .val (.int f0_v118a), .val (.int f0_v125a), .val (.int f0_v132a), .val (.int f0_v139a)] [(.int (1 : Int32))])) (fun t k => ?_) ?_
    · refine XS.icmpNo X110.here hx rfl (hb hby at_265) rfl (teq (show f0_v139a = (F_f9 (3 : Int32) (12 : Int32)) from (by decide +kernel))).2 ?_
      refine XS.iconst X110.here hx rfl (hb hby at_268) ?_
      refine XS.goto X110.here hx rfl (pc0 := 269) (pc' := 273) rfl (hb hby at_269) (by decide) (by decide) ?_
      exact k
    exact Outs.retN (t := .boolean) (z := (1 : Int32)) X110 hx hret (by simp) (hb hby at_273) hlk (by decide) (by decide) e110 ⟨rfl, N110⟩
  · rw [qk]
    show Outs p e below s _ _ _ (s₁.setTop (mkF m 4 #[.val (.int i0), .val (.int (2 : Int32)), .unset, .unset, .unset, .unset, .unset, .unset, .unset, .unset, .unset, .unset, .unset, .unset, .unset, .unset, .unset] []))
    refine Outs.of (U' := s₁.setTop (mkF m 33 #[.val (.int i0), .val (.int (2 : Int32)), .val (.int (5 : Int32)), .unset, .unset, .unset, .unset, .unset, .unset, .unset, .unset, .unset, .unset, .unset, .unset, .unset, .unset] [])) (fun t k => ?_) ?_
    · refine XS.iloadN X0.here hx rfl (hb hby at_4) rfl ?_
      refine XS.ifYes X0.here hx rfl (pc0 := 5) (pc' := 12) rfl (hb hby at_5) rfl ((if0 _ _).trans (feq (show ¬ ((2 : Int32) = (0 : Int32)) from (by decide))).2) (by decide) (by decide) ?_
      refine XS.iloadN X0.here hx rfl (hb hby at_12) rfl ?_
      refine XS.iconst X0.here hx rfl (hb hby at_13) ?_
      refine XS.icmpYes X0.here hx rfl (pc0 := 14) (pc' := 21) rfl (hb hby at_14) rfl (feq (show ¬ ((2 : Int32) = (1 : Int32)) from (by decide))).2 (by decide) (by decide) ?_
      refine XS.iloadN X0.here hx rfl (hb hby at_21) rfl ?_
      refine XS.iconst X0.here hx rfl (hb hby at_22) ?_
      refine XS.icmpNo X0.here hx rfl (hb hby at_23) rfl (teq (show (2 : Int32) = (2 : Int32) from (by decide))).2 ?_
      refine XS.iconst X0.here hx rfl (hb hby at_26) ?_
      refine XS.goto X0.here hx rfl (pc0 := 27) (pc' := 32) rfl (hb hby at_27) (by decide) (by decide) ?_
      refine XS.istoreN X0.here hx rfl (hb hby at_32) rfl (l' := #[.val (.int i0), .val (.int (2 : Int32)), .val (.int (5 : Int32)), .unset, .unset, .unset, .unset, .unset, .unset, .unset, .unset, .unset, .unset, .unset, .unset, .unset, .unset]) rfl ?_
      exact k
    obtain ⟨T111, h111, X111, e111, E111, A111, D111, -, st111⟩ := newO X0 hx hZ hown (hw _ (List.mem_of_getElem? (i := 0) rfl)) (hw _ (List.mem_of_getElem? (i := 1) rfl)) (hw _ (List.mem_of_getElem? (i := 2) rfl)) e0 (g := (mkF m 33 #[.val (.int i0), .val (.int (2 : Int32)), .val (.int (5 : Int32)), .unset, .unset, .unset, .unset, .unset, .unset, .unset, .unset, .unset, .unset, .unset, .unset, .unset, .unset] [])) rfl (hb hby at_33) (by decide) (by decide)
    obtain ⟨b111, g111⟩ : ∃ z, z = h0.size := ⟨_, rfl⟩
    rw [← g111] at A111 D111 st111
    have g_b111 : n0 ≤ b111 := Nat.le_trans Z0 (Nat.le_of_eq g111.symm)
    have F111_10 : Fld Z h111 b111 "com/example/bitmend/bitmend/PositionalColumns" "fieldSize" "I" (.int (0 : Int32)) := D111 (Or.inr (hw _ (List.mem_of_getElem? (i := 10) rfl))) (ty := .int) (by decide)
    have F111_30 : Fld Z h111 b111 "com/example/bitmend/bitmend/PositionalColumns" "checkPositions" "[J" .null := D111 (Or.inr (hw _ (List.mem_of_getElem? (i := 30) rfl))) (ty := (.array .long)) (by decide)
    refine Outs.of st111 ?_
    refine Outs.of (U' := T111.setTop (mkF m 38 #[.val (.int i0), .val (.int (2 : Int32)), .val (.int (5 : Int32)), .unset, .unset, .unset, .unset, .unset, .unset, .unset, .unset, .unset, .unset, .unset, .unset, .unset, .unset] [(.int (5 : Int32)), (.ref b111), (.ref b111)])) (fun t k => ?_) ?_
    · refine XS.dup X111.here hx rfl (hb hby at_36) rfl rfl ?_
      refine XS.iloadN X111.here hx rfl (hb hby at_37) rfl ?_
      exact k
    obtain ⟨_, _, ⟨T112, L112, k112, n112⟩, -, X112, ⟨Lc112, hQ112, l112, y112, z112⟩, st112⟩ := X111.specialBack hx (y := (⟨"com/example/bitmend/bitmend/PositionalColumns", "<init>", "(I)V"⟩ : MethodName)) rfl hown (mvT hZ (hw _ (List.mem_of_getElem? (i := 3) rfl))) (mvT hZ (hw _ (List.mem_of_getElem? (i := 4) rfl))) (mvT hZ (hw _ (List.mem_of_getElem? (i := 5) rfl))) (by decide) (backOf (W := 1) (rmct5 l Z a0 hw [] b111 h111 n0 (Nat.le_trans Z0 E111.1) A111 g_b111 F111_10 F111_30) hZ (hw _ (List.mem_of_getElem? (i := 5) rfl)) (hw _ (List.mem_of_getElem? (i := 2) rfl)) (by decide) (by decide)) (g := (mkF m 38 #[.val (.int i0), .val (.int (2 : Int32)), .val (.int (5 : Int32)), .unset, .unset, .unset, .unset, .unset, .unset, .unset, .unset, .unset, .unset, .unset, .unset, .unset, .unset] [(.int (5 : Int32)), (.ref b111), (.ref b111)])) rfl (by rw [hml]; rfl) (Steps.refl _) (a := b111) (argsL := [(.int (5 : Int32))]) (rest := [(.ref b111)]) (lenOf pd_0 rfl) rfl (by show 2 * 0 + _ ≤ _; exact Nat.le_of_eq rfl) (hb hby at_38) (fun _ _ => ⟨rfl, e111, (by decide : 1 + 2 ≤ _), (by decide : 2 + 49 ≤ _)⟩)
    dsimp only [Pt.U, Pt.locs, Pt.cells, Pt.slots] at X112 l112 y112 z112 st112 hQ112
    subst l112 y112 z112
    obtain ⟨b112, g_b112, hs_b112, rfl, N112q, K112, u112_0, u112_1, u112_2⟩ := hQ112
    have N112 := Fr.app N0 N112q
    have ne_b111_b112 : b111 ≠ b112 := Nat.ne_of_lt (Nat.lt_of_lt_of_le A111.lt hs_b112)
    obtain ⟨Lh112, X112, N112⟩ := hide X112 N112 (C := 3) (S := 51) (by decide) (by decide)
    refine Outs.to st112 ?_
    refine Outs.of (U' := T112.setTop (mkF m 42 #[.val (.int i0), .val (.int (2 : Int32)), .val (.int (5 : Int32)), .val (.ref b111), .unset, .unset, .unset, .unset, .unset, .unset, .unset, .unset, .unset, .unset, .unset, .unset, .unset] [])) (fun t k => ?_) ?_
    · refine XS.astoreN X112.here hx rfl (hb hby at_41) rfl rfl (l' := #[.val (.int i0), .val (.int (2 : Int32)), .val (.int (5 : Int32)), .val (.ref b111), .unset, .unset, .unset, .unset, .unset, .unset, .unset, .unset, .unset, .unset, .unset, .unset, .unset]) rfl ?_
      exact k
    obtain ⟨T113, h113, X113, e113, E113, A113, D113, -, st113⟩ := newO X112 hx hZ hown (hw _ (List.mem_of_getElem? (i := 31) rfl)) (hw _ (List.mem_of_getElem? (i := 32) rfl)) (hw _ (List.mem_of_getElem? (i := 33) rfl)) rfl (g := (mkF m 42 #[.val (.int i0), .val (.int (2 : Int32)), .val (.int (5 : Int32)), .val (.ref b111), .unset, .unset, .unset, .unset, .unset, .unset, .unset, .unset, .unset, .unset, .unset, .unset, .unset] [])) rfl (hb hby at_42) (by decide) (by decide)
    obtain ⟨b113, g113⟩ : ∃ z, z = T112.heap.size := ⟨_, rfl⟩
    rw [← g113] at A113 D113 st113
    have g_b113 : n0 ≤ b113 := Nat.le_trans (Nat.le_trans (Nat.le_trans Z0 E111.1) K112.1) (Nat.le_of_eq g113.symm)
    have ne_b111_b113 : b111 ≠ b113 := Nat.ne_of_lt (Nat.lt_of_lt_of_eq u112_0.lt g113.symm)
    have ne_b112_b113 : b112 ≠ b113 := Nat.ne_of_lt (Nat.lt_of_lt_of_eq u112_2.lt g113.symm)
    have F113_42 : Fld Z h113 b113 "com/example/bitmend/bitmend/PositionalColumns$DataPositions" "this$0" "Lcom/example/bitmend/bitmend/PositionalColumns;" .null := D113 (Or.inr (hw _ (List.mem_of_getElem? (i := 42) rfl))) (ty := (.object "com/example/bitmend/bitmend/PositionalColumns")) (by decide)
    have F113_46 : Fld Z h113 b113 "com/example/bitmend/bitmend/PositionalColumns$DataPositions" "checkPosition" "J" (.long (0 : Int64)) := D113 (Or.inl (hw _ (List.mem_of_getElem? (i := 46) rfl))) (ty := .long) (by decide)
    have F113_53 : Fld Z h113 b113 "com/example/bitmend/bitmend/PositionalColumns$DataPositions" "position" "I" (.int (0 : Int32)) := D113 (Or.inl (hw _ (List.mem_of_getElem? (i := 53) rfl))) (ty := .int) (by decide)
    have F113_55 : Fld Z h113 b113 "com/example/bitmend/bitmend/PositionalColumns$DataPositions" "check" "I" (.int (0 : Int32)) := D113 (Or.inl (hw _ (List.mem_of_getElem? (i := 55) rfl))) (ty := .int) (by decide)
    refine Outs.of st113 ?_
    refine Outs.of (U' := T113.setTop (mkF m 48 #[.val (.int i0), .val (.int (2 : Int32)), .val (.int (5 : Int32)), .val (.ref b111), .unset, .unset, .unset, .unset, .unset, .unset, .unset, .unset, .unset, .unset, .unset, .unset, .unset] [(.ref b111), (.ref b111), (.ref b113), (.ref b113)])) (fun t k => ?_) ?_
    · refine XS.dup X113.here hx rfl (hb hby at_45) rfl rfl ?_
      refine XS.aloadN X113.here hx rfl (hb hby at_46) rfl rfl ?_
      refine XS.dup X113.here hx rfl (hb hby at_47) rfl rfl ?_
      exact k
    obtain ⟨_, _, ⟨T114, L114, k114, n114⟩, -, X114, ⟨Lc114, hQ114, l114, y114, z114⟩, st114⟩ := Jvm.LawKit.callS X113 hx (y := (⟨"java/util/Objects", "requireNonNull", "(Ljava/lang/Object;)Ljava/lang/Object;"⟩ : MethodName)) hown (mvT hZ (hw _ (List.mem_of_getElem? (i := 34) rfl))) (mvT hZ (hw _ (List.mem_of_getElem? (i := 35) rfl))) (mvT hZ (hw _ (List.mem_of_getElem? (i := 36) rfl))) (mvT hZ (hw _ (List.mem_of_getElem? (i := 37) rfl))) (by decide) (backOf (W := 3) (rm6 l Z a0 hw [] b111 h113 n0 ) hZ (hw _ (List.mem_of_getElem? (i := 37) rfl)) (hw _ (List.mem_of_getElem? (i := 36) rfl)) (by decide) (by decide)) (g := (mkF m 48 #[.val (.int i0), .val (.int (2 : Int32)), .val (.int (5 : Int32)), .val (.ref b111), .unset, .unset, .unset, .unset, .unset, .unset, .unset, .unset, .unset, .unset, .unset, .unset, .unset] [(.ref b111), (.ref b111), (.ref b113), (.ref b113)])) rfl (by rw [hml]; rfl) (argsL := [(.ref b111)]) (rest := [(.ref b111), (.ref b113), (.ref b113)]) (lenOf pd_6 rfl) rfl (by show 2 * 0 + _ ≤ _; exact Nat.le_of_eq rfl) (hb hby at_48) (fun _ _ => ⟨rfl, e113, (by decide : 4 + 0 ≤ _), (by decide : 55 + 0 ≤ _)⟩)
    dsimp only [Pt.U, Pt.locs, Pt.cells, Pt.slots] at X114 l114 y114 z114 st114 hQ114
    subst l114 y114 z114
    obtain ⟨rfl, N114q, e114⟩ := hQ114
    have N114 := Fr.app N112 N114q
    obtain ⟨Lh114, X114, N114⟩ := hide X114 N114 (C := 4) (S := 55) (by decide) (by decide)
    refine Outs.of st114 ?_
    refine Outs.of (U' := T114.setTop (mkF m 52 #[.val (.int i0), .val (.int (2 : Int32)), .val (.int (5 : Int32)), .val (.ref b111), .unset, .unset, .unset, .unset, .unset, .unset, .unset, .unset, .unset, .unset, .unset, .unset, .unset] [(.ref b111), (.ref b113), (.ref b113)])) (fun t k => ?_) ?_
    · refine XS.pop X114.here hx rfl (hb hby at_51) rfl rfl ?_
      exact k
    have f116 : Fld Z h113 b111 "com/example/bitmend/bitmend/PositionalColumns" "checkPositions" "[J" (.ref b112) := (u112_1.ext E113)
    have f117 : AJ Z h113 b112 .long 16 (cp5_g28 ct5_g25o) := (u112_2.ext E113)
    obtain ⟨_, _, ⟨T115, L115, k115, n115⟩, -, X115, ⟨Lc115, hQ115, l115, y115, z115⟩, st115⟩ := X114.specialBack hx (y := (⟨"com/example/bitmend/bitmend/PositionalColumns$DataPositions", "<init>", "(Lcom/example/bitmend/bitmend/PositionalColumns;)V"⟩ : MethodName)) rfl hown (mvT hZ (hw _ (List.mem_of_getElem? (i := 38) rfl))) (mvT hZ (hw _ (List.mem_of_getElem? (i := 39) rfl))) (mvT hZ (hw _ (List.mem_of_getElem? (i := 40) rfl))) (by decide) (backOf (W := 1) (rm7 l Z a0 hw [] b113 b111 b112 16 (cp5_g28 ct5_g25o) h113 n0 A113 g_b113 F113_42 F113_46 F113_53 F113_55 f116 f117 ne_b111_b113 ne_b112_b113 (by decide)) hZ (hw _ (List.mem_of_getElem? (i := 40) rfl)) (hw _ (List.mem_of_getElem? (i := 33) rfl)) (by decide) (by decide)) (g := (mkF m 52 #[.val (.int i0), .val (.int (2 : Int32)), .val (.int (5 : Int32)), .val (.ref b111), .unset, .unset, .unset, .unset, .unset, .unset, .unset, .unset, .unset, .unset, .unset, .unset, .unset] [(.ref b111), (.ref b113), (.ref b113)])) rfl (by rw [hml]; rfl) (Steps.refl _) (a := b113) (argsL := [(.ref b111)]) (rest := [(.ref b113)]) (lenOf pd_7 rfl) rfl (by show 2 * 0 + _ ≤ _; exact Nat.le_of_eq rfl) (hb hby at_52) (fun _ _ => ⟨rfl, e114, (by decide : 4 + 0 ≤ _), (by decide : 55 + 0 ≤ _)⟩)
    dsimp only [Pt.U, Pt.locs, Pt.cells, Pt.slots] at X115 l115 y115 z115 st115 hQ115
    subst l115 y115 z115
    obtain ⟨rfl, N115q, K115, u115_0, u115_1, u115_2, u115_3, u115_4⟩ := hQ115
    have N115 := Fr.app N114 N115q
    obtain ⟨Lh115, X115, N115⟩ := hide X115 N115 (C := 4) (S := 55) (by decide) (by decide)
    refine Outs.to st115 ?_
    refine Outs.of (U' := T115.setTop (mkF m 59 #[.val (.int i0), .val (.int (2 : Int32)), .val (.int (5 : Int32)), .val (.ref b111), .val (.ref b113), .unset, .unset, .unset, .unset, .unset, .unset, .unset, .unset, .unset, .unset, .unset, .unset] [(.ref b113)])) (fun t k => ?_) ?_
    · refine XS.astore X115.here hx rfl (hb hby at_55) rfl rfl (l' := #[.val (.int i0), .val (.int (2 : Int32)), .val (.int (5 : Int32)), .val (.ref b111), .val (.ref b113), .unset, .unset, .unset, .unset, .unset, .unset, .unset, .unset, .unset, .unset, .unset, .unset]) rfl ?_
      refine XS.aload X115.here hx rfl (hb hby at_57) rfl rfl ?_
      exact k
    have f119 : Fld Z T115.heap b111 "com/example/bitmend/bitmend/PositionalColumns" "checkPositions" "[J" (.ref b112) := (f116.keep K115 (ninS ne_b111_b113 nin0))
    have f120 : AJ Z T115.heap b112 .long 16 (cp5_g28 ct5_g25o) := (f117.keep K115 (ninS ne_b112_b113 nin0))
    obtain ⟨cq118, kq118, q118a, q118b, q118c⟩ := isOf hZ rfl u115_0
    obtain ⟨_, _, ⟨T118, L118, k118, n118⟩, -, X118, ⟨Lc118, hQ118, l118, y118, z118⟩, st118⟩ := X115.virtualBack hx (y := (⟨"com/example/bitmend/bitmend/PositionalColumns$DataPositions", "next", "()I"⟩ : MethodName)) (z := (⟨"com/example/bitmend/bitmend/PositionalColumns$DataPositions", "next", "()I"⟩ : MethodName)) hown (mvT hZ (hw _ (List.mem_of_getElem? (i := 47) rfl))) (mvT hZ (hw _ (List.mem_of_getElem? (i := 48) rfl))) (notFace_of_selects (args := #[]) (mvT hZ (hw _ (List.mem_of_getElem? (i := 50) rfl)))) (mvT hZ (hw _ (List.mem_of_getElem? (i := 50) rfl))) (mvT hZ (hw _ (List.mem_of_getElem? (i := 49) rfl))) (by decide) (backOf (W := 0) (rmnx2 l Z a0 hw [] b113 (0 : Int32) (0 : Int32) ((cp5_g28 ct5_g25o) 0) b111 b112 16 (cp5_g28 ct5_g25o) 1 2 T115.heap n0 u115_0 g_b113 u115_3 u115_4 u115_2 u115_1 f119 f120 ne_b111_b113 ne_b112_b113 (by decide +kernel) ⟨by decide, by decide⟩ (by decide +kernel) ⟨by decide, by decide⟩ (by decide +kernel)) hZ (hw _ (List.mem_of_getElem? (i := 51) rfl)) (hw _ (List.mem_of_getElem? (i := 33) rfl)) (by decide) (by decide)) q118a q118c (g := (mkF m 59 #[.val (.int i0), .val (.int (2 : Int32)), .val (.int (5 : Int32)), .val (.ref b111), .val (.ref b113), .unset, .unset, .unset, .unset, .unset, .unset, .unset, .unset, .unset, .unset, .unset, .unset] [(.ref b113)])) rfl (by rw [hml]; rfl) (Steps.refl _) (argsL := []) (rest := []) (lenOf pd_8 rfl) rfl (by show 2 * 0 + _ ≤ _; exact Nat.le_of_eq rfl) (hb hby at_59) (fun _ _ => ⟨rfl, rfl, (by decide : 4 + 0 ≤ _), (by decide : 55 + 0 ≤ _)⟩)
    dsimp only [Pt.U, Pt.locs, Pt.cells, Pt.slots] at X118 l118 y118 z118 st118 hQ118
    subst l118 y118 z118
    obtain ⟨rfl, N118q, K118, u118_0, u118_1, u118_2, u118_3, u118_4⟩ := hQ118
    have N118 := Fr.app N115 N118q
    obtain ⟨Lh118, X118, N118⟩ := hide X118 N118 (C := 4) (S := 55) (by decide) (by decide)
    refine Outs.to st118 ?_
    refine Outs.of (U' := T118.setTop (mkF m 66 #[.val (.int i0), .val (.int (2 : Int32)), .val (.int (5 : Int32)), .val (.ref b111), .val (.ref b113), .val (.int f0_v62b), .unset, .unset, .unset, .unset, .unset, .unset, .unset, .unset, .unset, .unset, .unset] [(.ref b113)])) (fun t k => ?_) ?_
    · refine XS.istore X118.here hx rfl (hb hby at_62) rfl (l' := #[.val (.int i0), .val (.int (2 : Int32)), .val (.int (5 : Int32)), .val (.ref b111), .val (.ref b113), .val (.int f0_v62b), .unset, .unset, .unset, .unset, .unset, .unset, .unset, .unset, .unset, .unset, .unset]) rfl ?_
      refine XS.aload X118.here hx rfl (hb hby at_64) rfl rfl ?_
      exact k
    have f122 : Fld Z T118.heap b111 "com/example/bitmend/bitmend/PositionalColumns" "checkPositions" "[J" (.ref b112) := (f119.keep K118 (ninS ne_b111_b113 nin0))
    have f123 : AJ Z T118.heap b112 .long 16 (cp5_g28 ct5_g25o) := (f120.keep K118 (ninS ne_b112_b113 nin0))
    obtain ⟨cq121, kq121, q121a, q121b, q121c⟩ := isOf hZ rfl u118_0
    obtain ⟨_, _, ⟨T121, L121, k121, n121⟩, -, X121, ⟨Lc121, hQ121, l121, y121, z121⟩, st121⟩ := X118.virtualBack hx (y := (⟨"com/example/bitmend/bitmend/PositionalColumns$DataPositions", "next", "()I"⟩ : MethodName)) (z := (⟨"com/example/bitmend/bitmend/PositionalColumns$DataPositions", "next", "()I"⟩ : MethodName)) hown (mvT hZ (hw _ (List.mem_of_getElem? (i := 47) rfl))) (mvT hZ (hw _ (List.mem_of_getElem? (i := 48) rfl))) (notFace_of_selects (args := #[]) (mvT hZ (hw _ (List.mem_of_getElem? (i := 50) rfl)))) (mvT hZ (hw _ (List.mem_of_getElem? (i := 50) rfl))) (mvT hZ (hw _ (List.mem_of_getElem? (i := 49) rfl))) (by decide) (backOf (W := 0) (rmnx0 l Z a0 hw [] b113 (3 : Int32) (2 : Int32) ((cp5_g28 ct5_g25o) 2) b111 b112 16 (cp5_g28 ct5_g25o) T118.heap n0 u118_0 g_b113 u118_2 u118_3 u118_4 u118_1 f122 f123 ne_b111_b113 ne_b112_b113 (by decide +kernel)) hZ (hw _ (List.mem_of_getElem? (i := 51) rfl)) (hw _ (List.mem_of_getElem? (i := 33) rfl)) (by decide) (by decide)) q121a q121c (g := (mkF m 66 #[.val (.int i0), .val (.int (2 : Int32)), .val (.int (5 : Int32)), .val (.ref b111), .val (.ref b113), .val (.int f0_v62b), .unset, .unset, .unset, .unset, .unset, .unset, .unset, .unset, .unset, .unset, .unset] [(.ref b113)])) rfl (by rw [hml]; rfl) (Steps.refl _) (argsL := []) (rest := []) (lenOf pd_8 rfl) rfl (by show 2 * 0 + _ ≤ _; exact Nat.le_of_eq rfl) (hb hby at_66) (fun _ _ => ⟨rfl, rfl, (by decide : 4 + 0 ≤ _), (by decide : 55 + 0 ≤ _)⟩)
    dsimp only [Pt.U, Pt.locs, Pt.cells, Pt.slots] at X121 l121 y121 z121 st121 hQ121
    subst l121 y121 z121
    obtain ⟨rfl, N121q, K121, u121_0, u121_1, u121_2, u121_3, u121_4⟩ := hQ121
    have N121 := Fr.app N118 N121q
    obtain ⟨Lh121, X121, N121⟩ := hide X121 N121 (C := 4) (S := 55) (by decide) (by decide)
    refine Outs.to st121 ?_
    refine Outs.of (U' := T121.setTop (mkF m 73 #[.val (.int i0), .val (.int (2 : Int32)), .val (.int (5 : Int32)), .val (.ref b111), .val (.ref b113), .val (.int f0_v62b), .val (.int f0_v69b), .unset, .unset, .unset, .unset, .unset, .unset, .unset, .unset, .unset, .unset] [(.ref b113)])) (fun t k => ?_) ?_
    · refine XS.istore X121.here hx rfl (hb hby at_69) rfl (l' := #[.val (.int i0), .val (.int (2 : Int32)), .val (.int (5 : Int32)), .val (.ref b111), .val (.ref b113), .val (.int f0_v62b), .val (.int f0_v69b), .unset, .unset, .unset, .unset, .unset, .unset, .unset, .unset, .unset, .unset]) rfl ?_
      refine XS.aload X121.here hx rfl (hb hby at_71) rfl rfl ?_
      exact k
    have f125 : Fld Z T121.heap b111 "com/example/bitmend/bitmend/PositionalColumns" "checkPositions" "[J" (.ref b112) := (f122.keep K121 (ninS ne_b111_b113 nin0))
    have f126 : AJ Z T121.heap b112 .long 16 (cp5_g28 ct5_g25o) := (f123.keep K121 (ninS ne_b112_b113 nin0))
    obtain ⟨cq124, kq124, q124a, q124b, q124c⟩ := isOf hZ rfl u121_0
    obtain ⟨_, _, ⟨T124, L124, k124, n124⟩, -, X124, ⟨Lc124, hQ124, l124, y124, z124⟩, st124⟩ := X121.virtualBack hx (y := (⟨"com/example/bitmend/bitmend/PositionalColumns$DataPositions", "next", "()I"⟩ : MethodName)) (z := (⟨"com/example/bitmend/bitmend/PositionalColumns$DataPositions", "next", "()I"⟩ : MethodName)) hown (mvT hZ (hw _ (List.mem_of_getElem? (i := 47) rfl))) (mvT hZ (hw _ (List.mem_of_getElem? (i := 48) rfl))) (notFace_of_selects (args := #[]) (mvT hZ (hw _ (List.mem_of_getElem? (i := 50) rfl)))) (mvT hZ (hw _ (List.mem_of_getElem? (i := 50) rfl))) (mvT hZ (hw _ (List.mem_of_getElem? (i := 49) rfl))) (by decide) (backOf (W := 0) (rmnx0 l Z a0 hw [] b113 (4 : Int32) (2 : Int32) ((cp5_g28 ct5_g25o) 2) b111 b112 16 (cp5_g28 ct5_g25o) T121.heap n0 u121_0 g_b113 u121_2 u121_3 u121_4 u121_1 f125 f126 ne_b111_b113 ne_b112_b113 (by decide +kernel)) hZ (hw _ (List.mem_of_getElem? (i := 51) rfl)) (hw _ (List.mem_of_getElem? (i := 33) rfl)) (by decide) (by decide)) q124a q124c (g := (mkF m 73 #[.val (.int i0), .val (.int (2 : Int32)), .val (.int (5 : Int32)), .val (.ref b111), .val (.ref b113), .val (.int f0_v62b), .val (.int f0_v69b), .unset, .unset, .unset, .unset, .unset, .unset, .unset, .unset, .unset, .unset] [(.ref b113)])) rfl (by rw [hml]; rfl) (Steps.refl _) (argsL := []) (rest := []) (lenOf pd_8 rfl) rfl (by show 2 * 0 + _ ≤ _; exact Nat.le_of_eq rfl) (hb hby at_73) (fun _ _ => ⟨rfl, rfl, (by decide : 4 + 0 ≤ _), (by decide : 55 + 0 ≤ _)⟩)
    dsimp only [Pt.U, Pt.locs, Pt.cells, Pt.slots] at X124 l124 y124 z124 st124 hQ124
    subst l124 y124 z124
    obtain ⟨rfl, N124q, K124, u124_0, u124_1, u124_2, u124_3, u124_4⟩ := hQ124
    have N124 := Fr.app N121 N124q
    obtain ⟨Lh124, X124, N124⟩ := hide X124 N124 (C := 4) (S := 55) (by decide) (by decide)
    refine Outs.to st124 ?_
    refine Outs.of (U' := T124.setTop (mkF m 80 #[.val (.int i0), .val (.int (2 : Int32)), .val (.int (5 : Int32)), .val (.ref b111), .val (.ref b113), .val (.int f0_v62b), .val (.int f0_v69b), .val (.int f0_v76b), .unset, .unset, .unset, .unset, .unset, .unset, .unset, .unset, .unset] [(.ref b113)])) (fun t k => ?_) ?_
    · refine XS.istore X124.here hx rfl (hb hby at_76) rfl (l' := #[.val (.int i0), .val (.int (2 : Int32)), .val (.int (5 : Int32)), .val (.ref b111), .val (.ref b113), .val (.int f0_v62b), .val (.int f0_v69b), .val (.int f0_v76b), .unset, .unset, .unset, .unset, .unset, .unset, .unset, .unset, .unset]) rfl ?_
      refine XS.aload X124.here hx rfl (hb hby at_78) rfl rfl ?_
      exact k
    have f128 : Fld Z T124.heap b111 "com/example/bitmend/bitmend/PositionalColumns" "checkPositions" "[J" (.ref b112) := (f125.keep K124 (ninS ne_b111_b113 nin0))
    have f129 : AJ Z T124.heap b112 .long 16 (cp5_g28 ct5_g25o) := (f126.keep K124 (ninS ne_b112_b113 nin0))
    obtain ⟨cq127, kq127, q127a, q127b, q127c⟩ := isOf hZ rfl u124_0
    obtain ⟨_, _, ⟨T127, L127, k127, n127⟩, -, X127, ⟨Lc127, hQ127, l127, y127, z127⟩, st127⟩ := X124.virtualBack hx (y := (⟨"com/example/bitmend/bitmend/PositionalColumns$DataPositions", "next", "()I"⟩ : MethodName)) (z := (⟨"com/example/bitmend/bitmend/PositionalColumns$DataPositions", "next", "()I"⟩ : MethodName)) hown (mvT hZ (hw _ (List.mem_of_getElem? (i := 47) rfl))) (mvT hZ (hw _ (List.mem_of_getElem? (i := 48) rfl))) (notFace_of_selects (args := #[]) (mvT hZ (hw _ (List.mem_of_getElem? (i := 50) rfl)))) (mvT hZ (hw _ (List.mem_of_getElem? (i := 50) rfl))) (mvT hZ (hw _ (List.mem_of_getElem? (i := 49) rfl))) (by decide) (backOf (W := 0) (rmnx0 l Z a0 hw [] b113 (5 : Int32) (2 : Int32) ((cp5_g28 ct5_g25o) 2) b111 b112 16 (cp5_g28 ct5_g25o) T124.heap n0 u124_0 g_b113 u124_2 u124_3 u124_4 u124_1 f128 f129 ne_b111_b113 ne_b112_b113 (by decide +kernel)) hZ (hw _ (List.mem_of_getElem? (i := 51) rfl)) (hw _ (List.mem_of_getElem? (i := 33) rfl)) (by decide) (by decide)) q127a q127c (g := (mkF m 80 #[.val (.int i0), .val (.int (2 : Int32)), .val (.int (5 : Int32)), .val (.ref b111), .val (.ref b113), .val (.int f0_v62b), .val (.int f0_v69b), .val (.int f0_v76b), .unset, .unset, .unset, .unset, .unset, .unset, .unset, .unset, .unset] [(.ref b113)])) rfl (by rw [hml]; rfl) (Steps.refl _) (argsL := []) (rest := []) (lenOf pd_8 rfl) rfl (by show 2 * 0 + _ ≤ _; exact Nat.le_of_eq rfl) (hb hby at_80) (fun _ _ => ⟨rfl, rfl, (by decide : 4 + 0 ≤ _), (by decide : 55 + 0 ≤ _)⟩)
    dsimp only [Pt.U, Pt.locs, Pt.cells, Pt.slots] at X127 l127 y127 z127 st127 hQ127
    subst l127 y127 z127
    obtain ⟨rfl, N127q, K127, u127_0, u127_1, u127_2, u127_3, u127_4⟩ := hQ127
    have N127 := Fr.app N124 N127q
    obtain ⟨Lh127, X127, N127⟩ := hide X127 N127 (C := 4) (S := 55) (by decide) (by decide)
    refine Outs.to st127 ?_
    refine Outs.of (U' := T127.setTop (mkF m 87 #[.val (.int i0), .val (.int (2 : Int32)), .val (.int (5 : Int32)), .val (.ref b111), .val (.ref b113), .val (.int f0_v62b), .val (.int f0_v69b), .val (.int f0_v76b), .val (.int f0_v83b), .unset, .unset, .unset, .unset, .unset, .unset, .unset, .unset] [(.ref b113)])) (fun t k => ?_) ?_
    · refine XS.istore X127.here hx rfl (hb hby at_83) rfl (l' := #[.val (.int i0), .val (.int (2 : Int32)), .val (.int (5 : Int32)), .val (.ref b111), .val (.ref b113), .val (.int f0_v62b), .val (.int f0_v69b), .val (.int f0_v76b), .val (.int f0_v83b), .unset, .unset, .unset, .unset, .unset, .unset, .unset, .unset]) rfl ?_
      refine XS.aload X127.here hx rfl (hb hby at_85) rfl rfl ?_
      exact k
    have f131 : Fld Z T127.heap b111 "com/example/bitmend/bitmend/PositionalColumns" "checkPositions" "[J" (.ref b112) := (f128.keep K127 (ninS ne_b111_b113 nin0))
    have f132 : AJ Z T127.heap b112 .long 16 (cp5_g28 ct5_g25o) := (f129.keep K127 (ninS ne_b112_b113 nin0))
    obtain ⟨cq130, kq130, q130a, q130b, q130c⟩ := isOf hZ rfl u127_0
    obtain ⟨_, _, ⟨T130, L130, k130, n130⟩, -, X130, ⟨Lc130, hQ130, l130, y130, z130⟩, st130⟩ := X127.virtualBack hx (y := (⟨"com/example/bitmend/bitmend/PositionalColumns$DataPositions", "next", "()I"⟩ : MethodName)) (z := (⟨"com/example/bitmend/bitmend/PositionalColumns$DataPositions", "next", "()I"⟩ : MethodName)) hown (mvT hZ (hw _ (List.mem_of_getElem? (i := 47) rfl))) (mvT hZ (hw _ (List.mem_of_getElem? (i := 48) rfl))) (notFace_of_selects (args := #[]) (mvT hZ (hw _ (List.mem_of_getElem? (i := 50) rfl)))) (mvT hZ (hw _ (List.mem_of_getElem? (i := 50) rfl))) (mvT hZ (hw _ (List.mem_of_getElem? (i := 49) rfl))) (by decide) (backOf (W := 0) (rmnx1 l Z a0 hw [] b113 (6 : Int32) (2 : Int32) ((cp5_g28 ct5_g25o) 2) b111 b112 16 (cp5_g28 ct5_g25o) 3 T127.heap n0 u127_0 g_b113 u127_2 u127_3 u127_4 u127_1 f131 f132 ne_b111_b113 ne_b112_b113 (by decide +kernel) ⟨by decide, by decide⟩ (by decide +kernel)) hZ (hw _ (List.mem_of_getElem? (i := 51) rfl)) (hw _ (List.mem_of_getElem? (i := 33) rfl)) (by decide) (by decide)) q130a q130c (g := (mkF m 87 #[.val (.int i0), .val (.int (2 : Int32)), .val (.int (5 : Int32)), .val (.ref b111), .val (.ref b113), .val (.int f0_v62b), .val (.int f0_v69b), .val (.int f0_v76b), .val (.int f0_v83b), .unset, .unset, .unset, .unset, .unset, .unset, .unset, .unset] [(.ref b113)])) rfl (by rw [hml]; rfl) (Steps.refl _) (argsL := []) (rest := []) (lenOf pd_8 rfl) rfl (by show 2 * 0 + _ ≤ _; exact Nat.le_of_eq rfl) (hb hby at_87) (fun _ _ => ⟨rfl, rfl, (by decide : 4 + 0 ≤ _), (by decide : 55 + 0 ≤ _)⟩)
    dsimp only [Pt.U, Pt.locs, Pt.cells, Pt.slots] at X130 l130 y130 z130 st130 hQ130
    subst l130 y130 z130
    obtain ⟨rfl, N130q, K130, u130_0, u130_1, u130_2, u130_3, u130_4⟩ := hQ130
    have N130 := Fr.app N127 N130q
    obtain ⟨Lh130, X130, N130⟩ := hide X130 N130 (C := 4) (S := 55) (by decide) (by decide)
    refine Outs.to st130 ?_
    refine Outs.of (U' := T130.setTop (mkF m 94 #[.val (.int i0), .val (.int (2 : Int32)), .val (.int (5 : Int32)), .val (.ref b111), .val (.ref b113), .val (.int f0_v62b), .val (.int f0_v69b), .val (.int f0_v76b), .val (.int f0_v83b), .val (.int f0_v90b), .unset, .unset, .unset, .unset, .unset, .unset, .unset] [(.ref b113)])) (fun t k => ?_) ?_
    · refine XS.istore X130.here hx rfl (hb hby at_90) rfl (l' := #[.val (.int i0), .val (.int (2 : Int32)), .val (.int (5 : Int32)), .val (.ref b111), .val (.ref b113), .val (.int f0_v62b), .val (.int f0_v69b), .val (.int f0_v76b), .val (.int f0_v83b), .val (.int f0_v90b), .unset, .unset, .unset, .unset, .unset, .unset, .unset]) rfl ?_
      refine XS.aload X130.here hx rfl (hb hby at_92) rfl rfl ?_
      exact k
    have f134 : Fld Z T130.heap b111 "com/example/bitmend/bitmend/PositionalColumns" "checkPositions" "[J" (.ref b112) := (f131.keep K130 (ninS ne_b111_b113 nin0))
    have f135 : AJ Z T130.heap b112 .long 16 (cp5_g28 ct5_g25o) := (f132.keep K130 (ninS ne_b112_b113 nin0))
    obtain ⟨cq133, kq133, q133a, q133b, q133c⟩ := isOf hZ rfl u130_0
    obtain ⟨_, _, ⟨T133, L133, k133, n133⟩, -, X133, ⟨Lc133, hQ133, l133, y133, z133⟩, st133⟩ := X130.virtualBack hx (y := (⟨"com/example/bitmend/bitmend/PositionalColumns$DataPositions", "next", "()I"⟩ : MethodName)) (z := (⟨"com/example/bitmend/bitmend/PositionalColumns$DataPositions", "next", "()I"⟩ : MethodName)) hown (mvT hZ (hw _ (List.mem_of_getElem? (i := 47) rfl))) (mvT hZ (hw _ (List.mem_of_getElem? (i := 48) rfl))) (notFace_of_selects (args := #[]) (mvT hZ (hw _ (List.mem_of_getElem? (i := 50) rfl)))) (mvT hZ (hw _ (List.mem_of_getElem? (i := 50) rfl))) (mvT hZ (hw _ (List.mem_of_getElem? (i := 49) rfl))) (by decide) (backOf (W := 0) (rmnx0 l Z a0 hw [] b113 (8 : Int32) (3 : Int32) ((cp5_g28 ct5_g25o) 3) b111 b112 16 (cp5_g28 ct5_g25o) T130.heap n0 u130_0 g_b113 u130_2 u130_3 u130_4 u130_1 f134 f135 ne_b111_b113 ne_b112_b113 (by decide +kernel)) hZ (hw _ (List.mem_of_getElem? (i := 51) rfl)) (hw _ (List.mem_of_getElem? (i := 33) rfl)) (by decide) (by decide)) q133a q133c (g := (mkF m 94 #[.val (.int i0), .val (.int (2 : Int32)), .val (.int (5 : Int32)), .val (.ref b111), .val (.ref b113), .val (.int f0_v62b), .val (.int f0_v69b), .val (.int f0_v76b), .val (.int f0_v83b), .val (.int f0_v90b), .unset, .unset, .unset, .unset, .unset, .unset, .unset] [(.ref b113)])) rfl (by rw [hml]; rfl) (Steps.refl _) (argsL := []) (rest := []) (lenOf pd_8 rfl) rfl (by show 2 * 0 + _ ≤ _; exact Nat.le_of_eq rfl) (hb hby at_94) (fun _ _ => ⟨rfl, rfl, (by decide : 4 + 0 ≤ _), (by decide : 55 + 0 ≤ _)⟩)
    dsimp only [Pt.U, Pt.locs, Pt.cells, Pt.slots] at X133 l133 y133 z133 st133 hQ133
    subst l133 y133 z133
    obtain ⟨rfl, N133q, K133, u133_0, u133_1, u133_2, u133_3, u133_4⟩ := hQ133
    have N133 := Fr.app N130 N133q
    obtain ⟨Lh133, X133, N133⟩ := hide X133 N133 (C := 4) (S := 55) (by decide) (by decide)
    refine Outs.to st133 ?_
    refine Outs.of (U' := T133.setTop (mkF m 101 #[.val (.int i0), .val (.int (2 : Int32)), .val (.int (5 : Int32)), .val (.ref b111), .val (.ref b113), .val (.int f0_v62b), .val (.int f0_v69b), .val (.int f0_v76b), .val (.int f0_v83b), .val (.int f0_v90b), .val (.int f0_v97b), .unset, .unset, .unset, .unset, .unset, .unset] [(.ref b113)])) (fun t k => ?_) ?_
    · refine XS.istore X133.here hx rfl (hb hby at_97) rfl (l' := #[.val (.int i0), .val (.int (2 : Int32)), .val (.int (5 : Int32)), .val (.ref b111), .val (.ref b113), .val (.int f0_v62b), .val (.int f0_v69b), .val (.int f0_v76b), .val (.int f0_v83b), .val (.int f0_v90b), .val (.int f0_v97b), .unset, .unset, .unset, .unset, .unset, .unset]) rfl ?_
      refine XS.aload X133.here hx rfl (hb hby at_99) rfl rfl ?_
      exact k
    have f137 : Fld Z T133.heap b111 "com/example/bitmend/bitmend/PositionalColumns" "checkPositions" "[J" (.ref b112) := (f134.keep K133 (ninS ne_b111_b113 nin0))
    have f138 : AJ Z T133.heap b112 .long 16 (cp5_g28 ct5_g25o) := (f135.keep K133 (ninS ne_b112_b113 nin0))
    obtain ⟨cq136, kq136, q136a, q136b, q136c⟩ := isOf hZ rfl u133_0
    obtain ⟨_, _, ⟨T136, L136, k136, n136⟩, -, X136, ⟨Lc136, hQ136, l136, y136, z136⟩, st136⟩ := X133.virtualBack hx (y := (⟨"com/example/bitmend/bitmend/PositionalColumns$DataPositions", "next", "()I"⟩ : MethodName)) (z := (⟨"com/example/bitmend/bitmend/PositionalColumns$DataPositions", "next", "()I"⟩ : MethodName)) hown (mvT hZ (hw _ (List.mem_of_getElem? (i := 47) rfl))) (mvT hZ (hw _ (List.mem_of_getElem? (i := 48) rfl))) (notFace_of_selects (args := #[]) (mvT hZ (hw _ (List.mem_of_getElem? (i := 50) rfl)))) (mvT hZ (hw _ (List.mem_of_getElem? (i := 50) rfl))) (mvT hZ (hw _ (List.mem_of_getElem? (i := 49) rfl))) (by decide) (backOf (W := 0) (rmnx0 l Z a0 hw [] b113 (9 : Int32) (3 : Int32) ((cp5_g28 ct5_g25o) 3) b111 b112 16 (cp5_g28 ct5_g25o) T133.heap n0 u133_0 g_b113 u133_2 u133_3 u133_4 u133_1 f137 f138 ne_b111_b113 ne_b112_b113 (by decide +kernel)) hZ (hw _ (List.mem_of_getElem? (i := 51) rfl)) (hw _ (List.mem_of_getElem? (i := 33) rfl)) (by decide) (by decide)) q136a q136c (g := (mkF m 101 #[.val (.int i0), .val (.int (2 : Int32)), .val (.int (5 : Int32)), .val (.ref b111), .val (.ref b113), .val (.int f0_v62b), .val (.int f0_v69b), .val (.int f0_v76b), .val (.int f0_v83b), .val (.int f0_v90b), .val (.int f0_v97b), .unset, .unset, .unset, .unset, .unset, .unset] [(.ref b113)])) rfl (by rw [hml]; rfl) (Steps.refl _) (argsL := []) (rest := []) (lenOf pd_8 rfl) rfl (by show 2 * 0 + _ ≤ _; exact Nat.le_of_eq rfl) (hb hby at_101) (fun _ _ => ⟨rfl, rfl, (by decide : 4 + 0 ≤ _), (by decide : 55 + 0 ≤ _)⟩)
    dsimp only [Pt.U, Pt.locs, Pt.cells, Pt.slots] at X136 l136 y136 z136 st136 hQ136
    subst l136 y136 z136
    obtain ⟨rfl, N136q, K136, u136_0, u136_1, u136_2, u136_3, u136_4⟩ := hQ136
    have N136 := Fr.app N133 N136q
    obtain ⟨Lh136, X136, N136⟩ := hide X136 N136 (C := 4) (S := 55) (by decide) (by decide)
    refine Outs.to st136 ?_
    refine Outs.of (U' := T136.setTop (mkF m 108 #[.val (.int i0), .val (.int (2 : Int32)), .val (.int (5 : Int32)), .val (.ref b111), .val (.ref b113), .val (.int f0_v62b), .val (.int f0_v69b), .val (.int f0_v76b), .val (.int f0_v83b), .val (.int f0_v90b), .val (.int f0_v97b), .val (.int f0_v104b), .unset, .unset, .unset, .unset, .unset] [(.ref b113)])) (fun t k => ?_) ?_
    · refine XS.istore X136.here hx rfl (hb hby at_104) rfl (l' := #[.val (.int i0), .val (.int (2 : Int32)), .val (.int (5 : Int32)), .val (.ref b111), .val (.ref b113), .val (.int f0_v62b), .val (.int f0_v69b), .val (.int f0_v76b), .val (.int f0_v83b), .val (.int f0_v90b), .val (.int f0_v97b), .val (.int f0_v104b), .unset, .unset, .unset, .unset, .unset]) rfl ?_
      refine XS.aload X136.here hx rfl (hb hby at_106) rfl rfl ?_
      exact k
    have f140 : Fld Z T136.heap b111 "com/example/bitmend/bitmend/PositionalColumns" "checkPositions" "[J" (.ref b112) := (f137.keep K136 (ninS ne_b111_b113 nin0))
    have f141 : AJ Z T136.heap b112 .long 16 (cp5_g28 ct5_g25o) := (f138.keep K136 (ninS ne_b112_b113 nin0))
    obtain ⟨cq139, kq139, q139a, q139b, q139c⟩ := isOf hZ rfl u136_0
    obtain ⟨_, _, ⟨T139, L139, k139, n139⟩, -, X139, ⟨Lc139, hQ139, l139, y139, z139⟩, st139⟩ := X136.virtualBack hx (y := (⟨"com/example/bitmend/bitmend/PositionalColumns$DataPositions", "next", "()I"⟩ : MethodName)) (z := (⟨"com/example/bitmend/bitmend/PositionalColumns$DataPositions", "next", "()I"⟩ : MethodName)) hown (mvT hZ (hw _ (List.mem_of_getElem? (i := 47) rfl))) (mvT hZ (hw _ (List.mem_of_getElem? (i := 48) rfl))) (notFace_of_selects (args := #[]) (mvT hZ (hw _ (List.mem_of_getElem? (i := 50) rfl)))) (mvT hZ (hw _ (List.mem_of_getElem? (i := 50) rfl))) (mvT hZ (hw _ (List.mem_of_getElem? (i := 49) rfl))) (by decide) (backOf (W := 0) (rmnx0 l Z a0 hw [] b113 (10 : Int32) (3 : Int32) ((cp5_g28 ct5_g25o) 3) b111 b112 16 (cp5_g28 ct5_g25o) T136.heap n0 u136_0 g_b113 u136_2 u136_3 u136_4 u136_1 f140 f141 ne_b111_b113 ne_b112_b113 (by decide +kernel)) hZ (hw _ (List.mem_of_getElem? (i := 51) rfl)) (hw _ (List.mem_of_getElem? (i := 33) rfl)) (by decide) (by decide)) q139a q139c (g := (mkF m 108 #[.val (.int i0), .val (.int (2 : Int32)), .val (.int (5 : Int32)), .val (.ref b111), .val (.ref b113), .val (.int f0_v62b), .val (.int f0_v69b), .val (.int f0_v76b), .val (.int f0_v83b), .val (.int f0_v90b), .val (.int f0_v97b), .val (.int f0_v104b), .unset, .unset, .unset, .unset, .unset] [(.ref b113)])) rfl (by rw [hml]; rfl) (Steps.refl _) (argsL := []) (rest := []) (lenOf pd_8 rfl) rfl (by show 2 * 0 + _ ≤ _; exact Nat.le_of_eq rfl) (hb hby at_108) (fun _ _ => ⟨rfl, rfl, (by decide : 4 + 0 ≤ _), (by decide : 55 + 0 ≤ _)⟩)
    dsimp only [Pt.U, Pt.locs, Pt.cells, Pt.slots] at X139 l139 y139 z139 st139 hQ139
    subst l139 y139 z139
    obtain ⟨rfl, N139q, K139, u139_0, u139_1, u139_2, u139_3, u139_4⟩ := hQ139
    have N139 := Fr.app N136 N139q
    obtain ⟨Lh139, X139, N139⟩ := hide X139 N139 (C := 4) (S := 55) (by decide) (by decide)
    refine Outs.to st139 ?_
    refine Outs.of (U' := T139.setTop (mkF m 115 #[.val (.int i0), .val (.int (2 : Int32)), .val (.int (5 : Int32)), .val (.ref b111), .val (.ref b113), .val (.int f0_v62b), .val (.int f0_v69b), .val (.int f0_v76b), .val (.int f0_v83b), .val (.int f0_v90b), .val (.int f0_v97b), .val (.int f0_v104b), .val (.int f0_v111b), .unset, .unset, .unset, .unset] [(.ref b113)])) (fun t k => ?_) ?_
    · refine XS.istore X139.here hx rfl (hb hby at_111) rfl (l' := #[.val (.int i0), .val (.int (2 : Int32)), .val (.int (5 : Int32)), .val (.ref b111), .val (.ref b113), .val (.int f0_v62b), .val (.int f0_v69b), .val (.int f0_v76b), .val (.int f0_v83b), .val (.int f0_v90b), .val (.int f0_v97b), .val (.int f0_v104b), .val (.int f0_v111b), .unset, .unset, .unset, .unset]) rfl ?_
      refine XS.aload X139.here hx rfl (hb hby at_113) rfl rfl ?_
      exact k
    have f143 : Fld Z T139.heap b111 "com/example/bitmend/bitmend/PositionalColumns" "checkPositions" "[J" (.ref b112) := (f140.keep K139 (ninS ne_b111_b113 nin0))
    have f144 : AJ Z T139.heap b112 .long 16 (cp5_g28 ct5_g25o) := (f141.keep K139 (ninS ne_b112_b113 nin0))
    obtain ⟨cq142, kq142, q142a, q142b, q142c⟩ := isOf hZ rfl u139_0
    obtain ⟨_, _, ⟨T142, L142, k142, n142⟩, -, X142, ⟨Lc142, hQ142, l142, y142, z142⟩, st142⟩ := X139.virtualBack hx (y := (⟨"com/example/bitmend/bitmend/PositionalColumns$DataPositions", "next", "()I"⟩ : MethodName)) (z := (⟨"com/example/bitmend/bitmend/PositionalColumns$DataPositions", "next", "()I"⟩ : MethodName)) hown (mvT hZ (hw _ (List.mem_of_getElem? (i := 47) rfl))) (mvT hZ (hw _ (List.mem_of_getElem? (i := 48) rfl))) (notFace_of_selects (args := #[]) (mvT hZ (hw _ (List.mem_of_getElem? (i := 50) rfl)))) (mvT hZ (hw _ (List.mem_of_getElem? (i := 50) rfl))) (mvT hZ (hw _ (List.mem_of_getElem? (i := 49) rfl))) (by decide) (backOf (W := 0) (rmnx0 l Z a0 hw [] b113 (11 : Int32) (3 : Int32) ((cp5_g28 ct5_g25o) 3) b111 b112 16 (cp5_g28 ct5_g25o) T139.heap n0 u139_0 g_b113 u139_2 u139_3 u139_4 u139_1 f143 f144 ne_b111_b113 ne_b112_b113 (by decide +kernel)) hZ (hw _ (List.mem_of_getElem? (i := 51) rfl)) (hw _ (List.mem_of_getElem? (i := 33) rfl)) (by decide) (by decide)) q142a q142c (g := (mkF m 115 #[.val (.int i0), .val (.int (2 : Int32)), .val (.int (5 : Int32)), .val (.ref b111), .val (.ref b113), .val (.int f0_v62b), .val (.int f0_v69b), .val (.int f0_v76b), .val (.int f0_v83b), .val (.int f0_v90b), .val (.int f0_v97b), .val (.int f0_v104b), .val (.int f0_v111b), .unset, .unset, .unset, .unset] [(.ref b113)])) rfl (by rw [hml]; rfl) (Steps.refl _) (argsL := []) (rest := []) (lenOf pd_8 rfl) rfl (by show 2 * 0 + _ ≤ _; exact Nat.le_of_eq rfl) (hb hby at_115) (fun _ _ => ⟨rfl, rfl, (by decide : 4 + 0 ≤ _), (by decide : 55 + 0 ≤ _)⟩)
    dsimp only [Pt.U, Pt.locs, Pt.cells, Pt.slots] at X142 l142 y142 z142 st142 hQ142
    subst l142 y142 z142
    obtain ⟨rfl, N142q, K142, u142_0, u142_1, u142_2, u142_3, u142_4⟩ := hQ142
    have N142 := Fr.app N139 N142q
    obtain ⟨Lh142, X142, N142⟩ := hide X142 N142 (C := 4) (S := 55) (by decide) (by decide)
    refine Outs.to st142 ?_
    refine Outs.of (U' := T142.setTop (mkF m 122 #[.val (.int i0), .val (.int (2 : Int32)), .val (.int (5 : Int32)), .val (.ref b111), .val (.ref b113), .val (.int f0_v62b), .val (.int f0_v69b), .val (.int f0_v76b), .val (.int f0_v83b), .val (.int f0_v90b), .val (.int f0_v97b), .val (.int f0_v104b), .val (.int f0_v111b), .val (.int f0_v118b), .unset, .unset, .unset] [(.ref b113)])) (fun t k => ?_) ?_
    · refine XS.istore X142.here hx rfl (hb hby at_118) rfl (l' := #[.val (.int i0), .val (.int (2 : Int32)), .val (.int (5 : Int32)), .val (.ref b111), .val (.ref b113), .val (.int f0_v62b), .val (.int f0_v69b), .val (.int f0_v76b), .val (.int f0_v83b), .val (.int f0_v90b), .val (.int f0_v97b), .val (.int f0_v104b), .val (.int f0_v111b), .val (.int f0_v118b), .unset, .unset, .unset]) rfl ?_
      refine XS.aload X142.here hx rfl (hb hby at_120) rfl rfl ?_
      exact k
    have f146 : Fld Z T142.heap b111 "com/example/bitmend/bitmend/PositionalColumns" "checkPositions" "[J" (.ref b112) := (f143.keep K142 (ninS ne_b111_b113 nin0))
    have f147 : AJ Z T142.heap b112 .long 16 (cp5_g28 ct5_g25o) := (f144.keep K142 (ninS ne_b112_b113 nin0))
    obtain ⟨cq145, kq145, q145a, q145b, q145c⟩ := isOf hZ rfl u142_0
    obtain ⟨_, _, ⟨T145, L145, k145, n145⟩, -, X145, ⟨Lc145, hQ145, l145, y145, z145⟩, st145⟩ := X142.virtualBack hx (y := (⟨"com/example/bitmend/bitmend/PositionalColumns$DataPositions", "next", "()I"⟩ : MethodName)) (z := (⟨"com/example/bitmend/bitmend/PositionalColumns$DataPositions", "next", "()I"⟩ : MethodName)) hown (mvT hZ (hw _ (List.mem_of_getElem? (i := 47) rfl))) (mvT hZ (hw _ (List.mem_of_getElem? (i := 48) rfl))) (notFace_of_selects (args := #[]) (mvT hZ (hw _ (List.mem_of_getElem? (i := 50) rfl)))) (mvT hZ (hw _ (List.mem_of_getElem? (i := 50) rfl))) (mvT hZ (hw _ (List.mem_of_getElem? (i := 49) rfl))) (by decide) (backOf (W := 0) (rmnx0 l Z a0 hw [] b113 (12 : Int32) (3 : Int32) ((cp5_g28 ct5_g25o) 3) b111 b112 16 (cp5_g28 ct5_g25o) T142.heap n0 u142_0 g_b113 u142_2 u142_3 u142_4 u142_1 f146 f147 ne_b111_b113 ne_b112_b113 (by decide +kernel)) hZ (hw _ (List.mem_of_getElem? (i := 51) rfl)) (hw _ (List.mem_of_getElem? (i := 33) rfl)) (by decide) (by decide)) q145a q145c (g := (mkF m 122 #[.val (.int i0), .val (.int (2 : Int32)), .val (.int (5 : Int32)), .val (.ref b111), .val (.ref b113), .val (.int f0_v62b), .val (.int f0_v69b), .val (.int f0_v76b), .val (.int f0_v83b), .val (.int f0_v90b), .val (.int f0_v97b), .val (.int f0_v104b), .val (.int f0_v111b), .val (.int f0_v118b), .unset, .unset, .unset] [(.ref b113)])) rfl (by rw [hml]; rfl) (Steps.refl _) (argsL := []) (rest := []) (lenOf pd_8 rfl) rfl (by show 2 * 0 + _ ≤ _; exact Nat.le_of_eq rfl) (hb hby at_122) (fun _ _ => ⟨rfl, rfl, (by decide : 4 + 0 ≤ _), (by decide : 55 + 0 ≤ _)⟩)
    dsimp only [Pt.U, Pt.locs, Pt.cells, Pt.slots] at X145 l145 y145 z145 st145 hQ145
    subst l145 y145 z145
    obtain ⟨rfl, N145q, K145, u145_0, u145_1, u145_2, u145_3, u145_4⟩ := hQ145
    have N145 := Fr.app N142 N145q
    obtain ⟨Lh145, X145, N145⟩ := hide X145 N145 (C := 4) (S := 55) (by decide) (by decide)
    refine Outs.to st145 ?_
    refine Outs.of (U' := T145.setTop (mkF m 129 #[.val (.int i0), .val (.int (2 : Int32)), .val (.int (5 : Int32)), .val (.ref b111), .val (.ref b113), .val (.int f0_v62b), .val (.int f0_v69b), .val (.int f0_v76b), .val (.int f0_v83b), .val (.int f0_v90b), .val (.int f0_v97b), .val (.int f0_v104b), .val (.int f0_v111b), .val (.int f0_v118b), .val (.int f0_v125b), .unset, .unset] [(.ref b113)])) (fun t k => ?_) ?_
    · refine XS.istore X145.here hx rfl (hb hby at_125) rfl (l' := #[.val (.int i0), .val (.int (2 : Int32)), .val (.int (5 : Int32)), .val (.ref b111), .val (.ref b113), .val (.int f0_v62b), .val (.int f0_v69b), .val (.int f0_v76b), .val (.int f0_v83b), .val (.int f0_v90b), .val (.int f0_v97b), .val (.int f0_v104b), .val (.int f0_v111b), .val (.int f0_v118b), .val (.int f0_v125b), .unset, .unset]) rfl ?_
      refine XS.aload X145.here hx rfl (hb hby at_127) rfl rfl ?_
      exact k
    have f149 : Fld Z T145.heap b111 "com/example/bitmend/bitmend/PositionalColumns" "checkPositions" "[J" (.ref b112) := (f146.keep K145 (ninS ne_b111_b113 nin0))
    have f150 : AJ Z T145.heap b112 .long 16 (cp5_g28 ct5_g25o) := (f147.keep K145 (ninS ne_b112_b113 nin0))
    obtain ⟨cq148, kq148, q148a, q148b, q148c⟩ := isOf hZ rfl u145_0
    obtain ⟨_, _, ⟨T148, L148, k148, n148⟩, -, X148, ⟨Lc148, hQ148, l148, y148, z148⟩, st148⟩ := X145.virtualBack hx (y := (⟨"com/example/bitmend/bitmend/PositionalColumns$DataPositions", "next", "()I"⟩ : MethodName)) (z := (⟨"com/example/bitmend/bitmend/PositionalColumns$DataPositions", "next", "()I"⟩ : MethodName)) hown (mvT hZ (hw _ (List.mem_of_getElem? (i := 47) rfl))) (mvT hZ (hw _ (List.mem_of_getElem? (i := 48) rfl))) (notFace_of_selects (args := #[]) (mvT hZ (hw _ (List.mem_of_getElem? (i := 50) rfl)))) (mvT hZ (hw _ (List.mem_of_getElem? (i := 50) rfl))) (mvT hZ (hw _ (List.mem_of_getElem? (i := 49) rfl))) (by decide) (backOf (W := 0) (rmnx0 l Z a0 hw [] b113 (13 : Int32) (3 : Int32) ((cp5_g28 ct5_g25o) 3) b111 b112 16 (cp5_g28 ct5_g25o) T145.heap n0 u145_0 g_b113 u145_2 u145_3 u145_4 u145_1 f149 f150 ne_b111_b113 ne_b112_b113 (by decide +kernel)) hZ (hw _ (List.mem_of_getElem? (i := 51) rfl)) (hw _ (List.mem_of_getElem? (i := 33) rfl)) (by decide) (by decide)) q148a q148c (g := (mkF m 129 #[.val (.int i0), .val (.int (2 : Int32)), .val (.int (5 : Int32)), .val (.ref b111), .val (.ref b113), .val (.int f0_v62b), .val (.int f0_v69b), .val (.int f0_v76b), .val (.int f0_v83b), .val (.int f0_v90b), .val (.int f0_v97b), .val (.int f0_v104b), .val (.int f0_v111b), .val (.int f0_v118b), .val (.int f0_v125b), .unset, .unset] [(.ref b113)])) rfl (by rw [hml]; rfl) (Steps.refl _) (argsL := []) (rest := []) (lenOf pd_8 rfl) rfl (by show 2 * 0 + _ ≤ _; exact Nat.le_of_eq rfl) (hb hby at_129) (fun _ _ => ⟨rfl, rfl, (by decide : 4 + 0 ≤ _), (by decide : 55 + 0 ≤ _)⟩)
    dsimp only [Pt.U, Pt.locs, Pt.cells, Pt.slots] at X148 l148 y148 z148 st148 hQ148
    subst l148 y148 z148
    obtain ⟨rfl, N148q, K148, u148_0, u148_1, u148_2, u148_3, u148_4⟩ := hQ148
    have N148 := Fr.app N145 N148q
    obtain ⟨Lh148, X148, N148⟩ := hide X148 N148 (C := 4) (S := 55) (by decide) (by decide)
    refine Outs.to st148 ?_
    refine Outs.of (U' := T148.setTop (mkF m 136 #[.val (.int i0), .val (.int (2 : Int32)), .val (.int (5 : Int32)), .val (.ref b111), .val (.ref b113), .val (.int f0_v62b), .val (.int f0_v69b), .val (.int f0_v76b), .val (.int f0_v83b), .val (.int f0_v90b), .val (.int f0_v97b), .val (.int f0_v104b), .val (.int f0_v111b), .val (.int f0_v118b), .val (.int f0_v125b), .val (.int f0_v132b), .unset] [(.ref b113)])) (fun t k => ?_) ?_
    · refine XS.istore X148.here hx rfl (hb hby at_132) rfl (l' := #[.val (.int i0), .val (.int (2 : Int32)), .val (.int (5 : Int32)), .val (.ref b111), .val (.ref b113), .val (.int f0_v62b), .val (.int f0_v69b), .val (.int f0_v76b), .val (.int f0_v83b), .val (.int f0_v90b), .val (.int f0_v97b), .val (.int f0_v104b), .val (.int f0_v111b), .val (.int f0_v118b), .val (.int f0_v125b), .val (.int f0_v132b), .unset]) rfl ?_
      refine XS.aload X148.here hx rfl (hb hby at_134) rfl rfl ?_
      exact k
    have f152 : Fld Z T148.heap b111 "com/example/bitmend/bitmend/PositionalColumns" "checkPositions" "[J" (.ref b112) := (f149.keep K148 (ninS ne_b111_b113 nin0))
    have f153 : AJ Z T148.heap b112 .long 16 (cp5_g28 ct5_g25o) := (f150.keep K148 (ninS ne_b112_b113 nin0))
    obtain ⟨cq151, kq151, q151a, q151b, q151c⟩ := isOf hZ rfl u148_0
    obtain ⟨_, _, ⟨T151, L151, k151, n151⟩, -, X151, ⟨Lc151, hQ151, l151, y151, z151⟩, st151⟩ := X148.virtualBack hx (y := (⟨"com/example/bitmend/bitmend/PositionalColumns$DataPositions", "next", "()I"⟩ : MethodName)) (z := (⟨"com/example/bitmend/bitmend/PositionalColumns$DataPositions", "next", "()I"⟩ : MethodName)) hown (mvT hZ (hw _ (List.mem_of_getElem? (i := 47) rfl))) (mvT hZ (hw _ (List.mem_of_getElem? (i := 48) rfl))) (notFace_of_selects (args := #[]) (mvT hZ (hw _ (List.mem_of_getElem? (i := 50) rfl)))) (mvT hZ (hw _ (List.mem_of_getElem? (i := 50) rfl))) (mvT hZ (hw _ (List.mem_of_getElem? (i := 49) rfl))) (by decide) (backOf (W := 0) (rmnx0 l Z a0 hw [] b113 (14 : Int32) (3 : Int32) ((cp5_g28 ct5_g25o) 3) b111 b112 16 (cp5_g28 ct5_g25o) T148.heap n0 u148_0 g_b113 u148_2 u148_3 u148_4 u148_1 f152 f153 ne_b111_b113 ne_b112_b113 (by decide +kernel)) hZ (hw _ (List.mem_of_getElem? (i := 51) rfl)) (hw _ (List.mem_of_getElem? (i := 33) rfl)) (by decide) (by decide)) q151a q151c (g := (mkF m 136 #[.val (.int i0), .val (.int (2 : Int32)), .val (.int (5 : Int32)), .val (.ref b111), .val (.ref b113), .val (.int f0_v62b), .val (.int f0_v69b), .val (.int f0_v76b), .val (.int f0_v83b), .val (.int f0_v90b), .val (.int f0_v97b), .val (.int f0_v104b), .val (.int f0_v111b), .val (.int f0_v118b), .val (.int f0_v125b), .val (.int f0_v132b), .unset] [(.ref b113)])) rfl (by rw [hml]; rfl) (Steps.refl _) (argsL := []) (rest := []) (lenOf pd_8 rfl) rfl (by show 2 * 0 + _ ≤ _; exact Nat.le_of_eq rfl) (hb hby at_136) (fun _ _ => ⟨rfl, rfl, (by decide : 4 + 0 ≤ _), (by decide : 55 + 0 ≤ _)⟩)
    dsimp only [Pt.U, Pt.locs, Pt.cells, Pt.slots] at X151 l151 y151 z151 st151 hQ151
    subst l151 y151 z151
    obtain ⟨rfl, N151q, K151, u151_0, u151_1, u151_2, u151_3, u151_4⟩ := hQ151
    have N151 := Fr.app N148 N151q
    obtain ⟨Lh151, X151, N151⟩ := hide X151 N151 (C := 4) (S := 55) (by decide) (by decide)
    refine Outs.to st151 ?_
    refine Outs.of (U' := T151.setTop (mkF m 145 #[.val (.int i0), .val (.int (2 : Int32)), .val (.int (5 : Int32)), .val (.ref b111), .val (.ref b113), .val (.int f0_v62b), .val (.int f0_v69b), .val (.int f0_v76b), .val (.int f0_v83b), .val (.int f0_v90b), .val (.int f0_v97b), .val (.int f0_v104b), .val (.int f0_v111b), .val (.int f0_v118b), .val (.int f0_v125b), .val (.int f0_v132b), .val (.int f0_v139b)] [(.int (1 : Int32)), (.int (5 : Int32)), (.int f0_v62b)])) (fun t k => ?_) ?_
    · refine XS.istore X151.here hx rfl (hb hby at_139) rfl (l' := #[.val (.int i0), .val (.int (2 : Int32)), .val (.int (5 : Int32)), .val (.ref b111), .val (.ref b113), .val (.int f0_v62b), .val (.int f0_v69b), .val (.int f0_v76b), .val (.int f0_v83b), .val (.int f0_v90b), .val (.int f0_v97b), .val (.int f0_v104b), .val (.int f0_v111b), .val (.int f0_v118b), .val (.int f0_v125b), .val (.int f0_v132b), .val (.int f0_v139b)]) rfl ?_
      refine XS.iload X151.here hx rfl (hb hby at_141) rfl ?_
      refine XS.iloadN X151.here hx rfl (hb hby at_143) rfl ?_
      refine XS.iconst X151.here hx rfl (hb hby at_144) ?_
      exact k
    obtain ⟨_, _, ⟨T154, L154, k154, n154⟩, -, X154, ⟨Lc154, hQ154, l154, y154, z154⟩, st154⟩ := Jvm.LawKit.callS X151 hx (y := (⟨"com/example/bitmend/bitmend/DataPositionsNextPinLaw", "expected", "(II)I"⟩ : MethodName)) hown (mvT hZ (hw _ (List.mem_of_getElem? (i := 56) rfl))) (mvT hZ (hw _ (List.mem_of_getElem? (i := 57) rfl))) (mvT hZ (hw _ (List.mem_of_getElem? (i := 58) rfl))) (mvT hZ (hw _ (List.mem_of_getElem? (i := 59) rfl))) (by decide) (backOf (W := 1) (rm9 l Z a0 hw [] (5 : Int32) (1 : Int32) T151.heap n0 ) hZ (hw _ (List.mem_of_getElem? (i := 59) rfl)) (hw _ (List.mem_of_getElem? (i := 58) rfl)) (by decide) (by decide)) (g := (mkF m 145 #[.val (.int i0), .val (.int (2 : Int32)), .val (.int (5 : Int32)), .val (.ref b111), .val (.ref b113), .val (.int f0_v62b), .val (.int f0_v69b), .val (.int f0_v76b), .val (.int f0_v83b), .val (.int f0_v90b), .val (.int f0_v97b), .val (.int f0_v104b), .val (.int f0_v111b), .val (.int f0_v118b), .val (.int f0_v125b), .val (.int f0_v132b), .val (.int f0_v139b)] [(.int (1 : Int32)), (.int (5 : Int32)), (.int f0_v62b)])) rfl (by rw [hml]; rfl) (argsL := [(.int (5 : Int32)), (.int (1 : Int32))]) (rest := [(.int f0_v62b)]) (lenOf pd_4 rfl) rfl (by show 2 * 0 + _ ≤ _; exact Nat.le_of_eq rfl) (hb hby at_145) (fun _ _ => ⟨rfl, rfl, (by decide : 4 + 0 ≤ _), (by decide : 55 + 0 ≤ _)⟩)
    dsimp only [Pt.U, Pt.locs, Pt.cells, Pt.slots] at X154 l154 y154 z154 st154 hQ154
    subst l154 y154 z154
    obtain ⟨rfl, N154q, e154⟩ := hQ154
    have N154 := Fr.app N151 N154q
    obtain ⟨Lh154, X154, N154⟩ := hide X154 N154 (C := 4) (S := 55) (by decide) (by decide)
    refine Outs.of st154 ?_
    refine Outs.of (U' := T154.setTop (mkF m 155 #[.val (.int i0), .val (.int (2 : Int32)), .val (.int (5 : Int32)), .val (.ref b111), .val (.ref b113), .val (.int f0_v62b), .val (.int f0_v69b), .val (.int f0_v76b), .val (.int f0_v83b), .val (.int f0_v90b), .val (.int f0_v97b), .val (.int f0_v104b), .val (.int f0_v111b), .val (.int f0_v118b), .val (.int f0_v125b), .val (.int f0_v132b), .val (.int f0_v139b)] [(.int (2 : Int32)), (.int (5 : Int32)), (.int f0_v69b)])) (fun t k => ?_) ?_
    · refine XS.icmpNo X154.here hx rfl (hb hby at_148) rfl (teq (show f0_v62b = (F_f9 (5 : Int32) (1 : Int32)) from (by decide +kernel))).2 ?_
      refine XS.iload X154.here hx rfl (hb hby at_151) rfl ?_
      refine XS.iloadN X154.here hx rfl (hb hby at_153) rfl ?_
      refine XS.iconst X154.here hx rfl (hb hby at_154) ?_
      exact k
    obtain ⟨_, _, ⟨T155, L155, k155, n155⟩, -, X155, ⟨Lc155, hQ155, l155, y155, z155⟩, st155⟩ := Jvm.LawKit.callS X154 hx (y := (⟨"com/example/bitmend/bitmend/DataPositionsNextPinLaw", "expected", "(II)I"⟩ : MethodName)) hown (mvT hZ (hw _ (List.mem_of_getElem? (i := 56) rfl))) (mvT hZ (hw _ (List.mem_of_getElem? (i := 57) rfl))) (mvT hZ (hw _ (List.mem_of_getElem? (i := 58) rfl))) (mvT hZ (hw _ (List.mem_of_getElem? (i := 59) rfl))) (by decide) (backOf (W := 1) (rm9 l Z a0 hw [] (5 : Int32) (2 : Int32) T151.heap n0 ) hZ (hw _ (List.mem_of_getElem? (i := 59) rfl)) (hw _ (List.mem_of_getElem? (i := 58) rfl)) (by decide) (by decide)) (g := (mkF m 155 #[.val (.int i0), .val (.int (2 : Int32)), .val (.int (5 : Int32)), .val (.ref b111), .val (.ref b113), .val (.int f0_v62b), .val (.int f0_v69b), .val (.int f0_v76b), .val (.int f0_v83b), .val (.int f0_v90b), .val (.int f0_v97b), .val (.int f0_v104b), .val (.int f0_v111b), .val (.int f0_v118b), .val (.int f0_v125b), .val (.int f0_v132b), .val (.int f0_v139b)] [(.int (2 : Int32)), (.int (5 : Int32)), (.int f0_v69b)])) rfl (by rw [hml]; rfl) (argsL := [(.int (5 : Int32)), (.int (2 : Int32))]) (rest := [(.int f0_v69b)]) (lenOf pd_4 rfl) rfl (by show 2 * 0 + _ ≤ _; exact Nat.le_of_eq rfl) (hb hby at_155) (fun _ _ => ⟨rfl, e154, (by decide : 4 + 0 ≤ _), (by decide : 55 + 0 ≤ _)⟩)
    dsimp only [Pt.U, Pt.locs, Pt.cells, Pt.slots] at X155 l155 y155 z155 st155 hQ155
    subst l155 y155 z155
    obtain ⟨rfl, N155q, e155⟩ := hQ155
    have N155 := Fr.app N154 N155q
    obtain ⟨Lh155, X155, N155⟩ := hide X155 N155 (C := 4) (S := 55) (by decide) (by decide)
    refine Outs.of st155 ?_
    refine Outs.of (U' := T155.setTop (mkF m 165 #[.val (.int i0), .val (.int (2 : Int32)), .val (.int (5 : Int32)), .val (.ref b111), .val (.ref b113), .val (.int f0_v62b), .val (.int f0_v69b), .val (.int f0_v76b), .val (.int f0_v83b), .val (.int f0_v90b), .val (.int f0_v97b), .val (.int f0_v104b), .val (.int f0_v111b), .val (.int f0_v118b), .val (.int f0_v125b), .val (.int f0_v132b), .val (.int f0_v139b)] [(.int (3 : Int32)), (.int (5 : Int32)), (.int f0_v76b)])) (fun t k => ?_) ?_
    · refine XS.icmpNo X155.here hx rfl (hb hby at_158) rfl (teq (show f0_v69b = (F_f9 (5 : Int32) (2 : Int32)) from (by decide +kernel))).2 ?_
      refine XS.iload X155.here hx rfl (hb hby at_161) rfl ?_
      refine XS.iloadN X155.here hx rfl (hb hby at_163) rfl ?_
      refine XS.iconst X155.here hx rfl (hb hby at_164) ?_
      exact k
    obtain ⟨_, _, ⟨T156, L156, k156, n156⟩, -, X156, ⟨Lc156, hQ156, l156, y156, z156⟩, st156⟩ := Jvm.LawKit.callS X155 hx (y := (⟨"com/example/bitmend/bitmend/DataPositionsNextPinLaw", "expected", "(II)I"⟩ : MethodName)) hown (mvT hZ (hw _ (List.mem_of_getElem? (i := 56) rfl))) (mvT hZ (hw _ (List.mem_of_getElem? (i := 57) rfl))) (mvT hZ (hw _ (List.mem_of_getElem? (i := 58) rfl))) (mvT hZ (hw _ (List.mem_of_getElem? (i := 59) rfl))) (by decide) (backOf (W := 1) (rm9 l Z a0 hw [] (5 : Int32) (3 : Int32) T151.heap n0 ) hZ (hw _ (List.mem_of_getElem? (i := 59) rfl)) (hw _ (List.mem_of_getElem? (i := 58) rfl)) (by decide) (by decide)) (g := (mkF m 165 #[.val (.int i0), .val (.int (2 : Int32)), .val (.int (5 : Int32)), .val (.ref b111), .val (.ref b113), .val (.int f0_v62b), .val (.int f0_v69b), .val (.int f0_v76b), .val (.int f0_v83b), .val (.int f0_v90b), .val (.int f0_v97b), .val (.int f0_v104b), .val (.int f0_v111b), .val (.int f0_v118b), .val (.int f0_v125b), .val (.int f0_v132b), .val (.int f0_v139b)] [(.int (3 : Int32)), (.int (5 : Int32)), (.int f0_v76b)])) rfl (by rw [hml]; rfl) (argsL := [(.int (5 : Int32)), (.int (3 : Int32))]) (rest := [(.int f0_v76b)]) (lenOf pd_4 rfl) rfl (by show 2 * 0 + _ ≤ _; exact Nat.le_of_eq rfl) (hb hby at_165) (fun _ _ => ⟨rfl, e155, (by decide : 4 + 0 ≤ _), (by decide : 55 + 0 ≤ _)⟩)
    dsimp only [Pt.U, Pt.locs, Pt.cells, Pt.slots] at X156 l156 y156 z156 st156 hQ156
    subst l156 y156 z156
    obtain ⟨rfl, N156q, e156⟩ := hQ156
    have N156 := Fr.app N155 N156q
    obtain ⟨Lh156, X156, N156⟩ := hide X156 N156 (C := 4) (S := 55) (by decide) (by decide)
    refine Outs.of st156 ?_
    refine Outs.of (U' := T156.setTop (mkF m 175 #[.val (.int i0), .val (.int (2 : Int32)), .val (.int (5 : Int32)), .val (.ref b111), .val (.ref b113), .val (.int f0_v62b), .val (.int f0_v69b), .val (.int f0_v76b), .val (.int f0_v83b), .val (.int f0_v90b), .val (.int f0_v97b), .val (.int f0_v104b), .val (.int f0_v111b), .val (.int f0_v118b), .val (.int f0_v125b), .val (.int f0_v132b), .val (.int f0_v139b)] [(.int (4 : Int32)), (.int (5 : Int32)), (.int f0_v83b)])) (fun t k => ?_) ?_
    · refine XS.icmpNo X156.here hx rfl (hb hby at_168) rfl (teq (show f0_v76b = (F_f9 (5 : Int32) (3 : Int32)) from (by decide +kernel))).2 ?_
      refine XS.iload X156.here hx rfl (hb hby at_171) rfl ?_
      refine XS.iloadN X156.here hx rfl (hb hby at_173) rfl ?_
      refine XS.iconst X156.here hx rfl (hb hby at_174) ?_
      exact k
    obtain ⟨_, _, ⟨T157, L157, k157, n157⟩, -, X157, ⟨Lc157, hQ157, l157, y157, z157⟩, st157⟩ := Jvm.LawKit.callS X156 hx (y := (⟨"com/example/bitmend/bitmend/DataPositionsNextPinLaw", "expected", "(II)I"⟩ : MethodName)) hown (mvT hZ (hw _ (List.mem_of_getElem? (i := 56) rfl))) (mvT hZ (hw _ (List.mem_of_getElem? (i := 57) rfl))) (mvT hZ (hw _ (List.mem_of_getElem? (i := 58) rfl))) (mvT hZ (hw _ (List.mem_of_getElem? (i := 59) rfl))) (by decide) (backOf (W := 1) (rm9 l Z a0 hw [] (5 : Int32) (4 : Int32) T151.heap n0 ) hZ (hw _ (List.mem_of_getElem? (i := 59) rfl)) (hw _ (List.mem_of_getElem? (i := 58) rfl)) (by decide) (by decide)) (g := (mkF m 175 #[.val (.int i0), .val (.int (2 : Int32)), .val (.int (5 : Int32)), .val (.ref b111), .val (.ref b113), .val (.int f0_v62b), .val (.int f0_v69b), .val (.int f0_v76b), .val (.int f0_v83b), .val (.int f0_v90b), .val (.int f0_v97b), .val (.int f0_v104b), .val (.int f0_v111b), .val (.int f0_v118b), .val (.int f0_v125b), .val (.int f0_v132b), .val (.int f0_v139b)] [(.int (4 : Int32)), (.int (5 : Int32)), (.int f0_v83b)])) rfl (by rw [hml]; rfl) (argsL := [(.int (5 : Int32)), (.int (4 : Int32))]) (rest := [(.int f0_v83b)]) (lenOf pd_4 rfl) rfl (by show 2 * 0 + _ ≤ _; exact Nat.le_of_eq rfl) (hb hby at_175) (fun _ _ => ⟨rfl, e156, (by decide : 4 + 0 ≤ _), (by decide : 55 + 0 ≤ _)⟩)
    dsimp only [Pt.U, Pt.locs, Pt.cells, Pt.slots] at X157 l157 y157 z157 st157 hQ157
    subst l157 y157 z157
    obtain ⟨rfl, N157q, e157⟩ := hQ157
    have N157 := Fr.app N156 N157q
    obtain ⟨Lh157, X157, N157⟩ := hide X157 N157 (C := 4) (S := 55) (by decide) (by decide)
    refine Outs.of st157 ?_
    refine Outs.of (U' := T157.setTop (mkF m 185 #[.val (.int i0), .val (.int (2 : Int32)), .val (.int (5 : Int32)), .val (.ref b111), .val (.ref b113), .val (.int f0_v62b), .val (.int f0_v69b), .val (.int f0_v76b), .val (.int f0_v83b), .val (.int f0_v90b), .val (.int f0_v97b), .val (.int f0_v104b), .val (.int f0_v111b), .val (.int f0_v118b), .val (.int f0_v125b), .val (.int f0_v132b), .val (.int f0_v139b)] [(.int (5 : Int32)), (.int (5 : Int32)), (.int f0_v90b)])) (fun t k => ?_) ?_
    · refine XS.icmpNo X157.here hx rfl (hb hby at_178) rfl (teq (show f0_v83b = (F_f9 (5 : Int32) (4 : Int32)) from (by decide +kernel))).2 ?_
      refine XS.iload X157.here hx rfl (hb hby at_181) rfl ?_
      refine XS.iloadN X157.here hx rfl (hb hby at_183) rfl ?_
      refine XS.iconst X157.here hx rfl (hb hby at_184) ?_
      exact k
    obtain ⟨_, _, ⟨T158, L158, k158, n158⟩, -, X158, ⟨Lc158, hQ158, l158, y158, z158⟩, st158⟩ := Jvm.LawKit.callS X157 hx (y := (⟨"com/example/bitmend/bitmend/DataPositionsNextPinLaw", "expected", "(II)I"⟩ : MethodName)) hown (mvT hZ (hw _ (List.mem_of_getElem? (i := 56) rfl))) (mvT hZ (hw _ (List.mem_of_getElem? (i := 57) rfl))) (mvT hZ (hw _ (List.mem_of_getElem? (i := 58) rfl))) (mvT hZ (hw _ (List.mem_of_getElem? (i := 59) rfl))) (by decide) (backOf (W := 1) (rm9 l Z a0 hw [] (5 : Int32) (5 : Int32) T151.heap n0 ) hZ (hw _ (List.mem_of_getElem? (i := 59) rfl)) (hw _ (List.mem_of_getElem? (i := 58) rfl)) (by decide) (by decide)) (g := (mkF m 185 #[.val (.int i0), .val (.int (2 : Int32)), .val (.int (5 : Int32)), .val (.ref b111), .val (.ref b113), .val (.int f0_v62b), .val (.int f0_v69b), .val (.int f0_v76b), .val (.int f0_v83b), .val (.int f0_v90b), .val (.int f0_v97b), .val (.int f0_v104b), .val (.int f0_v111b), .val (.int f0_v118b), .val (.int f0_v125b), .val (.int f0_v132b), .val (.int f0_v139b)] [(.int (5 : Int32)), (.int (5 : Int32)), (.int f0_v90b)])) rfl (by rw [hml]; rfl) (argsL := [(.int (5 : Int32)), (.int (5 : Int32))]) (rest := [(.int f0_v90b)]) (lenOf pd_4 rfl) rfl (by show 2 * 0 + _ ≤ _; exact Nat.le_of_eq rfl) (hb hby at_185) (fun _ _ => ⟨rfl, e157, (by decide : 4 + 0 ≤ _), (by decide : 55 + 0 ≤ _)⟩)
    dsimp only [Pt.U, Pt.locs, Pt.cells, Pt.slots] at X158 l158 y158 z158 st158 hQ158
    subst l158 y158 z158
    obtain ⟨rfl, N158q, e158⟩ := hQ158
    have N158 := Fr.app N157 N158q
    obtain ⟨Lh158, X158, N158⟩ := hide X158 N158 (C := 4) (S := 55) (by decide) (by decide)
    refine Outs.of st158 ?_
    refine Outs.of (U' := T158.setTop (mkF m 196 #[.val (.int i0), .val (.int (2 : Int32)), .val (.int (5 : Int32)), .val (.ref b111), .val (.ref b113), .val (.int f0_v62b), .val (.int f0_v69b), .val (.int f0_v76b), .val (.int f0_v83b), .val (.int f0_v90b), .val (.int f0_v97b), .val (.int f0_v104b), .val (.int f0_v111b), .val (.int f0_v118b), .val (.int f0_v125b), .val (.int f0_v132b), .val (.int f0_v139b)] [(.int (6 : Int32)), (.int (5 : Int32)), (.int f0_v97b)])) (fun t k => ?_) ?_
    · refine XS.icmpNo X158.here hx rfl (hb hby at_188) rfl (teq (show f0_v90b = (F_f9 (5 : Int32) (5 : Int32)) from (by decide +kernel))).2 ?_
      refine XS.iload X158.here hx rfl (hb hby at_191) rfl ?_
      refine XS.iloadN X158.here hx rfl (hb hby at_193) rfl ?_
      refine XS.bipush X158.here hx rfl (hb hby at_194) ?_
      exact k
    obtain ⟨_, _, ⟨T159, L159, k159, n159⟩, -, X159, ⟨Lc159, hQ159, l159, y159, z159⟩, st159⟩ := Jvm.LawKit.callS X158 hx (y := (⟨"com/example/bitmend/bitmend/DataPositionsNextPinLaw", "expected", "(II)I"⟩ : MethodName)) hown (mvT hZ (hw _ (List.mem_of_getElem? (i := 56) rfl))) (mvT hZ (hw _ (List.mem_of_getElem? (i := 57) rfl))) (mvT hZ (hw _ (List.mem_of_getElem? (i := 58) rfl))) (mvT hZ (hw _ (List.mem_of_getElem? (i := 59) rfl))) (by decide) (backOf (W := 1) (rm9 l Z a0 hw [] (5 : Int32) (6 : Int32) T151.heap n0 ) hZ (hw _ (List.mem_of_getElem? (i := 59) rfl)) (hw _ (List.mem_of_getElem? (i := 58) rfl)) (by decide) (by decide)) (g := (mkF m 196 #[.val (.int i0), .val (.int (2 : Int32)), .val (.int (5 : Int32)), .val (.ref b111), .val (.ref b113), .val (.int f0_v62b), .val (.int f0_v69b), .val (.int f0_v76b), .val (.int f0_v83b), .val (.int f0_v90b), .val (.int f0_v97b), .val (.int f0_v104b), .val (.int f0_v111b), .val (.int f0_v118b), .val (.int f0_v125b), .val (.int f0_v132b), .val (.int f0_v139b)] [(.int (6 : Int32)), (.int (5 : Int32)), (.int f0_v97b)])) rfl (by rw [hml]; rfl) (argsL := [(.int (5 : Int32)), (.int (6 : Int32))]) (rest := [(.int f0_v97b)]) (lenOf pd_4 rfl) rfl (by show 2 * 0 + _ ≤ _; exact Nat.le_of_eq rfl) (hb hby at_196) (fun _ _ => ⟨rfl, e158, (by decide : 4 + 0 ≤ _), (by decide : 55 + 0 ≤ _)⟩)
    dsimp only [Pt.U, Pt.locs, Pt.cells, Pt.slots] at X159 l159 y159 z159 st159 hQ159
    subst l159 y159 z159
    obtain ⟨rfl, N159q, e159⟩ := hQ159
    have N159 := Fr.app N158 N159q
    obtain ⟨Lh159, X159, N159⟩ := hide X159 N159 (C := 4) (S := 55) (by decide) (by decide)
    refine Outs.of st159 ?_
    refine Outs.of (U' := T159.setTop (mkF m 207 #[.val (.int i0), .val (.int (2 : Int32)), .val (.int (5 : Int32)), .val (.ref b111), .val (.ref b113), .val (.int f0_v62b), .val (.int f0_v69b), .val (.int f0_v76b), .val (.int f0_v83b), .val (.int f0_v90b), .val (.int f0_v97b), .val (.int f0_v104b), .val (.int f0_v111b), .val (.int f0_v118b), .val (.int f0_v125b), .val (.int f0_v132b), .val (.int f0_v139b)] [(.int (7 : Int32)), (.int (5 : Int32)), (.int f0_v104b)])) (fun t k => ?_) ?_
    · refine XS.icmpNo X159.here hx rfl (hb hby at_199) rfl (teq (show f0_v97b = (F_f9 (5 : Int32) (6 : Int32)) from (by decide +kernel))).2 ?_
      refine XS.iload X159.here hx rfl (hb hby at_202) rfl ?_
      refine XS.iloadN X159.here hx rfl (hb hby at_204) rfl ?_
      refine XS.bipush X159.here hx rfl (hb hby at_205) ?_
      exact k
    obtain ⟨_, _, ⟨T160, L160, k160, n160⟩, -, X160, ⟨Lc160, hQ160, l160, y160, z160⟩, st160⟩ := Jvm.LawKit.callS X159 hx (y := (⟨"com/example/bitmend/bitmend/DataPositionsNextPinLaw", "expected", "(II)I"⟩ : MethodName)) hown (mvT hZ (hw _ (List.mem_of_getElem? (i := 56) rfl))) (mvT hZ (hw _ (List.mem_of_getElem? (i := 57) rfl))) (mvT hZ (hw _ (List.mem_of_getElem? (i := 58) rfl))) (mvT hZ (hw _ (List.mem_of_getElem? (i := 59) rfl))) (by decide) (backOf (W := 1) (rm9 l Z a0 hw [] (5 : Int32) (7 : Int32) T151.heap n0 ) hZ (hw _ (List.mem_of_getElem? (i := 59) rfl)) (hw _ (List.mem_of_getElem? (i := 58) rfl)) (by decide) (by decide)) (g := (mkF m 207 #[.val (.int i0), .val (.int (2 : Int32)), .val (.int (5 : Int32)), .val (.ref b111), .val (.ref b113), .val (.int f0_v62b), .val (.int f0_v69b), .val (.int f0_v76b), .val (.int f0_v83b), .val (.int f0_v90b), .val (.int f0_v97b), .val (.int f0_v104b), .val (.int f0_v111b), .val (.int f0_v118b), .val (.int f0_v125b), .val (.int f0_v132b), .val (.int f0_v139b)] [(.int (7 : Int32)), (.int (5 : Int32)), (.int f0_v104b)])) rfl (by rw [hml]; rfl) (argsL := [(.int (5 : Int32)), (.int (7 : Int32))]) (rest := [(.int f0_v104b)]) (lenOf pd_4 rfl) rfl (by show 2 * 0 + _ ≤ _; exact Nat.le_of_eq rfl) (hb hby at_207) (fun _ _ => ⟨rfl, e159, (by decide : 4 + 0 ≤ _), (by decide : 55 + 0 ≤ _)⟩)
    dsimp only [Pt.U, Pt.locs, Pt.cells, Pt.slots] at X160 l160 y160 z160 st160 hQ160
    subst l160 y160 z160
    obtain ⟨rfl, N160q, e160⟩ := hQ160
    have N160 := Fr.app N159 N160q
    obtain ⟨Lh160, X160, N160⟩ := hide X160 N160 (C := 4) (S := 55) (by decide) (by decide)
    refine Outs.of st160 ?_
    refine Outs.of (U' := T160.setTop (mkF m 218 #[.val (.int i0), .val (.int (2 : Int32)), .val (.int (5 : Int32)), .val (.ref b111), .val (.ref b113), .val (.int f0_v62b), .val (.int f0_v69b), .val (.int f0_v76b), .val (.int f0_v83b), .val (.int f0_v90b), .val (.int f0_v97b), .val (.int f0_v104b), .val (.int f0_v111b), .val (.int f0_v118b), .val (.int f0_v125b), .val (.int f0_v132b), .val (.int f0_v139b)] [(.int (8 : Int32)), (.int (5 : Int32)), (.int f0_v111b)])) (fun t k => ?_) ?_
    · refine XS.icmpNo X160.here hx rfl (hb hby at_210) rfl (teq (show f0_v104b = (F_f9 (5 : Int32) (7 : Int32)) from (by decide +kernel))).2 ?_
      refine XS.iload X160.here hx rfl (hb hby at_213) rfl ?_
      refine XS.iloadN X160.here hx rfl (hb hby at_215) rfl ?_
      refine XS.bipush X160.here hx rfl (hb hby at_216) ?_
      exact k
    obtain ⟨_, _, ⟨T161, L161, k161, n161⟩, -, X161, ⟨Lc161, hQ161, l161, y161, z161⟩, st161⟩ := Jvm.LawKit.callS X160 hx (y := (⟨"com/example/bitmend/bitmend/DataPositionsNextPinLaw", "expected", "(II)I"⟩ : MethodName)) hown (mvT hZ (hw _ (List.mem_of_getElem? (i := 56) rfl))) (mvT hZ (hw _ (List.mem_of_getElem? (i := 57) rfl))) (mvT hZ (hw _ (List.mem_of_getElem? (i := 58) rfl))) (mvT hZ (hw _ (List.mem_of_getElem? (i := 59) rfl))) (by decide) (backOf (W := 1) (rm9 l Z a0 hw [] (5 : Int32) (8 : Int32) T151.heap n0 ) hZ (hw _ (List.mem_of_getElem? (i := 59) rfl)) (hw _ (List.mem_of_getElem? (i := 58) rfl)) (by decide) (by decide)) (g := (mkF m 218 #[.val (.int i0), .val (.int (2 : Int32)), .val (.int (5 : Int32)), .val (.ref b111), .val (.ref b113), .val (.int f0_v62b), .val (.int f0_v69b), .val (.int f0_v76b), .val (.int f0_v83b), .val (.int f0_v90b), .val (.int f0_v97b), .val (.int f0_v104b), .val (.int f0_v111b), .val (.int f0_v118b), .val (.int f0_v125b), .val (.int f0_v132b), .val (.int f0_v139b)] [(.int (8 : Int32)), (.int (5 : Int32)), (.int f0_v111b)])) rfl (by rw [hml]; rfl) (argsL := [(.int (5 : Int32)), (.int (8 : Int32))]) (rest := [(.int f0_v111b)]) (lenOf pd_4 rfl) rfl (by show 2 * 0 + _ ≤ _; exact Nat.le_of_eq rfl) (hb hby at_218) (fun _ _ => ⟨rfl, e160, (by decide : 4 + 0 ≤ _), (by decide : 55 + 0 ≤ _)⟩)
    dsimp only [Pt.U, Pt.locs, Pt.cells, Pt.slots] at X161 l161 y161 z161 st161 hQ161
    subst l161 y161 z161
    obtain ⟨rfl, N161q, e161⟩ := hQ161
    have N161 := Fr.app N160 N161q
    obtain ⟨Lh161, X161, N161⟩ := hide X161 N161 (C := 4) (S := 55) (by decide) (by decide)
    refine Outs.of st161 ?_
    refine Outs.of (U' := T161.setTop (mkF m 229 #[.val (.int i0), .val (.int (2 : Int32)), .val (.int (5 : Int32)), .val (.ref b111), .val (.ref b113), .val (.int f0_v62b), .val (.int f0_v69b), .val (.int f0_v76b), .val (.int f0_v83b), .val (.int f0_v90b), .val (.int f0_v97b), .val (.int f0_v104b), .val (.int f0_v111b), .val (.int f0_v118b), .val (.int f0_v125b), .val (.int f0_v132b), .val (.int f0_v139b)] [(.int (9 : Int32)), (.int (5 : Int32)), (.int f0_v118b)])) (fun t k => ?_) ?_
    · refine XS.icmpNo X161.here hx rfl (hb hby at_221) rfl (teq (show f0_v111b = (F_f9 (5 : Int32) (8 : Int32)) from (by decide +kernel))).2 ?_
      refine XS.iload X161.here hx rfl (hb hby at_224) rfl ?_
      refine XS.iloadN X161.here hx rfl (hb hby at_226) rfl ?_
      refine XS.bipush X161.here hx rfl (hb hby at_227) ?_
      exact k
    obtain ⟨_, _, ⟨T162, L162, k162, n162⟩, -, X162, ⟨Lc162, hQ162, l162, y162, z162⟩, st162⟩ := Jvm.LawKit.callS X161 hx (y := (⟨"com/example/bitmend/bitmend/DataPositionsNextPinLaw", "expected", "(II)I"⟩ : MethodName)) hown (mvT hZ (hw _ (List.mem_of_getElem? (i := 56) rfl))) (mvT hZ (hw _ (List.mem_of_getElem? (i := 57) rfl))) (mvT hZ (hw _ (List.mem_of_getElem? (i := 58) rfl))) (mvT hZ (hw _ (List.mem_of_getElem? (i := 59) rfl))) (by decide) (backOf (W := 1) (rm9 l Z a0 hw [] (5 : Int32) (9 : Int32) T151.heap n0 ) hZ (hw _ (List.mem_of_getElem? (i := 59) rfl)) (hw _ (List.mem_of_getElem? (i := 58) rfl)) (by decide) (by decide)) (g := (mkF m 229 #[.val (.int i0), .val (.int (2 : Int32)), .val (.int (5 : Int32)), .val (.ref b111), .val (.ref b113), .val (.int f0_v62b), .val (.int f0_v69b), .val (.int f0_v76b), .val (.int f0_v83b), .val (.int f0_v90b), .val (.int f0_v97b), .val (.int f0_v104b), .val (.int f0_v111b), .val (.int f0_v118b), .val (.int f0_v125b), .val (.int f0_v132b), .val (.int f0_v139b)] [(.int (9 : Int32)), (.int (5 : Int32)), (.int f0_v118b)])) rfl (by rw [hml]; rfl) (argsL := [(.int (5 : Int32)), (.int (9 : Int32))]) (rest := [(.int f0_v118b)]) (lenOf pd_4 rfl) rfl (by show 2 * 0 + _ ≤ _; exact Nat.le_of_eq rfl) (hb hby at_229) (fun _ _ => ⟨rfl, e161, (by decide : 4 + 0 ≤ _), (by decide : 55 + 0 ≤ _)⟩)
    dsimp only [Pt.U, Pt.locs, Pt.cells, Pt.slots] at X162 l162 y162 z162 st162 hQ162
    subst l162 y162 z162
    obtain ⟨rfl, N162q, e162⟩ := hQ162
    have N162 := Fr.app N161 N162q
    obtain ⟨Lh162, X162, N162⟩ := hide X162 N162 (C := 4) (S := 55) (by decide) (by decide)
    refine Outs.of st162 ?_
    refine Outs.of (U' := T162.setTop (mkF m 240 #[.val (.int i0), .val (.int (2 : Int32)), .val (.int (5 : Int32)), .val (.ref b111), .val (.ref b113), .val (.int f0_v62b), .val (.int f0_v69b), .val (.int f0_v76b), .val (.int f0_v83b), .val (.int f0_v90b), .val (.int f0_v97b), .val (.int f0_v104b), .val (.int f0_v111b), .val (.int f0_v118b), .val (.int f0_v125b), .val (.int f0_v132b), .val (.int f0_v139b)] [(.int (10 : Int32)), (.int (5 : Int32)), (.int f0_v125b)])) (fun t k => ?_) ?_
    · refine XS.icmpNo X162.here hx rfl (hb hby at_232) rfl (teq (show f0_v118b = (F_f9 (5 : Int32) (9 : Int32)) from (by decide +kernel))).2 ?_
      refine XS.iload X162.here hx rfl (hb hby at_235) rfl ?_
      refine XS.iloadN X162.here hx rfl (hb hby at_237) rfl ?_
      refine XS.bipush X162.here hx rfl (hb hby at_238) ?_
      exact k
    obtain ⟨_, _, ⟨T163, L163, k163, n163⟩, -, X163, ⟨Lc163, hQ163, l163, y163, z163⟩, st163⟩ := Jvm.LawKit.callS X162 hx (y := (⟨"com/example/bitmend/bitmend/DataPositionsNextPinLaw", "expected", "(II)I"⟩ : MethodName)) hown (mvT hZ (hw _ (List.mem_of_getElem? (i := 56) rfl))) (mvT hZ (hw _ (List.mem_of_getElem? (i := 57) rfl))) (mvT hZ (hw _ (List.mem_of_getElem? (i := 58) rfl))) (mvT hZ (hw _ (List.mem_of_getElem? (i := 59) rfl))) (by decide) (backOf (W := 1) (rm9 l Z a0 hw [] (5 : Int32) (10 : Int32) T151.heap n0 ) hZ (hw _ (List.mem_of_getElem? (i := 59) rfl)) (hw _ (List.mem_of_getElem? (i := 58) rfl)) (by decide) (by decide)) (g := (mkF m 240 #[.val (.int i0), .val (.int (2 : Int32)), .val (.int (5 : Int32)), .val (.ref b111), .val (.ref b113), .val (.int f0_v62b), .val (.int f0_v69b), .val (.int f0_v76b), .val (.int f0_v83b), .val (.int f0_v90b), .val (.int f0_v97b), .val (.int f0_v104b), .val (.int f0_v111b), .val (.int f0_v118b), .val (.int f0_v125b), .val (.int f0_v132b), .val (.int f0_v139b)] [(.int (10 : Int32)), (.int (5 : Int32)), (.int f0_v125b)])) rfl (by rw [hml]; rfl) (argsL := [(.int (5 : Int32)), (.int (10 : Int32))]) (rest := [(.int f0_v125b)]) (lenOf pd_4 rfl) rfl (by show 2 * 0 + _ ≤ _; exact Nat.le_of_eq rfl) (hb hby at_240) (fun _ _ => ⟨rfl, e162, (by decide : 4 + 0 ≤ _), (by decide : 55 + 0 ≤ _)⟩)
    dsimp only [Pt.U, Pt.locs, Pt.cells, Pt.slots] at X163 l163 y163 z163 st163 hQ163
    subst l163 y163 z163
    obtain ⟨rfl, N163q, e163⟩ := hQ163
    have N163 := Fr.app N162 N163q
    obtain ⟨Lh163, X163, N163⟩ := hide X163 N163 (C := 4) (S := 55) (by decide) (by decide)
    refine Outs.of st163 ?_
    refine Outs.of (U' := T163.setTop (mkF m 251 #[.val (.int i0), .val (.int (2 : Int32)), .val (.int (5 : Int32)), .val (.ref b111), .val (.ref b113), .val (.int f0_v62b), .val (.int f0_v69b), .val (.int f0_v76b), .val (.int f0_v83b), .val (.int f0_v90b), .val (.int f0_v97b), .val (.int f0_v104b), .val (.int f0_v111b), .val (.int f0_v118b), .val (.int f0_v125b), .val (.int f0_v132b), .val (.int f0_v139b)] [(.int (11 : Int32)), (.int (5 : Int32)), (.int f0_v132b)])) (fun t k => ?_) ?_
    · refine XS.icmpNo X163.here hx rfl (hb hby at_243) rfl (teq (show f0_v125b = (F_f9 (5 : Int32) (10 : Int32)) from (by decide +kernel))).2 ?_
      refine XS.iload X163.here hx rfl (hb hby at_246) rfl ?_
      refine XS.iloadN X163.here hx rfl (hb hby at_248) rfl ?_
      refine XS.bipush X163.here hx rfl (hb hby at_249) ?_
      exact k
    obtain ⟨_, _, ⟨T164, L164, k164, n164⟩, -, X164, ⟨Lc164, hQ164, l164, y164, z164⟩, st164⟩ := Jvm.LawKit.callS X163 hx (y := (⟨"com/example/bitmend/bitmend/DataPositionsNextPinLaw", "expected", "(II)I"⟩ : MethodName)) hown (mvT hZ (hw _ (List.mem_of_getElem? (i := 56) rfl))) (mvT hZ (hw _ (List.mem_of_getElem? (i := 57) rfl))) (mvT hZ (hw _ (List.mem_of_getElem? (i := 58) rfl))) (mvT hZ (hw _ (List.mem_of_getElem? (i := 59) rfl))) (by decide) (backOf (W := 1) (rm9 l Z a0 hw [] (5 : Int32) (11 : Int32) T151.heap n0 ) hZ (hw _ (List.mem_of_getElem? (i := 59) rfl)) (hw _ (List.mem_of_getElem? (i := 58) rfl)) (by decide) (by decide)) (g := (mkF m 251 #[.val (.int i0), .val (.int (2 : Int32)), .val (.int (5 : Int32)), .val (.ref b111), .val (.ref b113), .val (.int f0_v62b), .val (.int f0_v69b), .val (.int f0_v76b), .val (.int f0_v83b), .val (.int f0_v90b), .val (.int f0_v97b), .val (.int f0_v104b), .val (.int f0_v111b), .val (.int f0_v118b), .val (.int f0_v125b), .val (.int f0_v132b), .val (.int f0_v139b)] [(.int (11 : Int32)), (.int (5 : Int32)), (.int f0_v132b)])) rfl (by rw [hml]; rfl) (argsL := [(.int (5 : Int32)), (.int (11 : Int32))]) (rest := [(.int f0_v132b)]) (lenOf pd_4 rfl) rfl (by show 2 * 0 + _ ≤ _; exact Nat.le_of_eq rfl) (hb hby at_251) (fun _ _ => ⟨rfl, e163, (by decide : 4 + 0 ≤ _), (by decide : 55 + 0 ≤ _)⟩)
    dsimp only [Pt.U, Pt.locs, Pt.cells, Pt.slots] at X164 l164 y164 z164 st164 hQ164
    subst l164 y164 z164
    obtain ⟨rfl, N164q, e164⟩ := hQ164
    have N164 := Fr.app N163 N164q
    obtain ⟨Lh164, X164, N164⟩ := hide X164 N164 (C := 4) (S := 55) (by decide) (by decide)
    refine Outs.of st164 ?_
    refine Outs.of (U' := T164.setTop (mkF m 262 #[.val (.int i0), .val (.int (2 : Int32)), .val (.int (5 : Int32)), .val (.ref b111), .val (.ref b113), .val (.int f0_v62b), .val (.int f0_v69b), .val (.int f0_v76b), .val (.int f0_v83b), .val (.int f0_v90b), .val (.int f0_v97b), .val (.int f0_v104b), .val (.int f0_v111b), .val (.int f0_v118b), .val (.int f0_v125b), .val (.int f0_v132b), .val (.int f0_v139b)] [(.int (12 : Int32)), (.int (5 : Int32)), (.int f0_v139b)])) (fun t k => ?_) ?_
    · refine XS.icmpNo X164.here hx rfl (hb hby at_254) rfl (teq (show f0_v132b = (F_f9 (5 : Int32) (11 : Int32)) from (by decide +kernel))).2 ?_
      refine XS.iload X164.here hx rfl (hb hby at_257) rfl ?_
      refine XS.iloadN X164.here hx rfl (hb hby at_259) rfl ?_
      refine XS.bipush X164.here hx rfl (hb hby at_260) ?_
      exact k
    obtain ⟨_, _, ⟨T165, L165, k165, n165⟩, -, X165, ⟨Lc165, hQ165, l165, y165, z165⟩, st165⟩ := Jvm.LawKit.callS X164 hx (y := (⟨"com/example/bitmend/bitmend/DataPositionsNextPinLaw", "expected", "(II)I"⟩ : MethodName)) hown (mvT hZ (hw _ (List.mem_of_getElem? (i := 56) rfl))) (mvT hZ (hw _ (List.mem_of_getElem? (i := 57) rfl))) (mvT hZ (hw _ (List.mem_of_getElem? (i := 58) rfl))) (mvT hZ (hw _ (List.mem_of_getElem? (i := 59) rfl))) (by decide) (backOf (W := 1) (rm9 l Z a0 hw [] (5 : Int32) (12 : Int32) T151.heap n0 ) hZ (hw _ (List.mem_of_getElem? (i := 59) rfl)) (hw _ (List.mem_of_getElem? (i := 58) rfl)) (by decide) (by decide)) (g := (mkF m 262 #[.val (.int i0), .val (.int (2 : Int32)), .val (.int (5 : Int32)), .val (.ref b111), .val (.ref b113), .val (.int f0_v62b), .val (.int f0_v69b), .val (.int f0_v76b), .val (.int f0_v83b), .val (.int f0_v90b), .val (.int f0_v97b), .val (.int f0_v104b), .val (.int f0_v111b), .val (.int f0_v118b), .val (.int f0_v125b), .val (.int f0_v132b), .val (.int f0_v139b)] [(.int (12 : Int32)), (.int (5 : Int32)), (.int f0_v139b)])) rfl (by rw [hml]; rfl) (argsL := [(.int (5 : Int32)), (.int (12 : Int32))]) (rest := [(.int f0_v139b)]) (lenOf pd_4 rfl) rfl (by show 2 * 0 + _ ≤ _; exact Nat.le_of_eq rfl) (hb hby at_262) (fun _ _ => ⟨rfl, e164, (by decide : 4 + 0 ≤ _), (by decide : 55 + 0 ≤ _)⟩)
    dsimp only [Pt.U, Pt.locs, Pt.cells, Pt.slots] at X165 l165 y165 z165 st165 hQ165
    subst l165 y165 z165
    obtain ⟨rfl, N165q, e165⟩ := hQ165
    have N165 := Fr.app N164 N165q
    obtain ⟨Lh165, X165, N165⟩ := hide X165 N165 (C := 4) (S := 55) (by decide) (by decide)
    refine Outs.of st165 ?_
    refine Outs.of (U' := T165.setTop (mkF m 273 #[.val (.int i0), .val (.int (2 : Int32)), .val (.int (5 : Int32)), .val (.ref b111), .val (.ref b113), .val (.int f0_v62b), .val (.int f0_v69b), .val (.int f0_v76b), .val (.int f0_v83b), .val (.int f0_v90b), .val (.int f0_v97b), .val (.int f0_v104b), .val (.int f0_v111b), .val (.int f0_v118b), .val (.int f0_v125b), .val (.int f0_v132b), .val (.int f0_v139b)] [(.int (1 : Int32))])) (fun t k => ?_) ?_
    · refine XS.icmpNo X165.here hx rfl (hb hby at_265) rfl (teq (show f0_v139b = (F_f9 (5 : Int32) (12 : Int32)) from (by decide +kernel))).2 ?_
      refine XS.iconst X165.here hx rfl (hb hby at_268) ?_
      refine XS.goto X165.here hx rfl (pc0 := 269) (pc' := 273) rfl (hb hby at_269) (by decide) (by decide) ?_
      exact k
    exact Outs.retN (t := .boolean) (z := (1 : Int32)) X165 hx hret (by simp) (hb hby at_273) hlk (by decide) (by decide) e165 ⟨rfl, N165⟩
  · rw [qk]
    show Outs p e below s _ _ _ (s₁.setTop (mkF m 4 #[.val (.int i0), .val (.int (3 : Int32)), .unset, .unset, .unset, .unset, .unset, .unset, .unset, .unset, .unset, .unset, .unset, .unset, .unset, .unset, .unset] []))
    refine Outs.of (U' := s₁.setTop (mkF m 33 #[.val (.int i0), .val (.int (3 : Int32)), .val (.int (7 : Int32)), .unset, .unset, .unset, .unset, .unset, .unset, .unset, .unset, .unset, .unset, .unset, .unset, .unset, .unset] [])) (fun t k => ?_) ?_
    · refine XS.iloadN X0.here hx rfl (hb hby at_4) rfl ?_
      refine XS.ifYes X0.here hx rfl (pc0 := 5) (pc' := 12) rfl (hb hby at_5) rfl ((if0 _ _).trans (feq (show ¬ ((3 : Int32) = (0 : Int32)) from (by decide))).2) (by decide) (by decide) ?_
      refine XS.iloadN X0.here hx rfl (hb hby at_12) rfl ?_
      refine XS.iconst X0.here hx rfl (hb hby at_13) ?_
      refine XS.icmpYes X0.here hx rfl (pc0 := 14) (pc' := 21) rfl (hb hby at_14) rfl (feq (show ¬ ((3 : Int32) = (1 : Int32)) from (by decide))).2 (by decide) (by decide) ?_
      refine XS.iloadN X0.here hx rfl (hb hby at_21) rfl ?_
      refine XS.iconst X0.here hx rfl (hb hby at_22) ?_
      refine XS.icmpYes X0.here hx rfl (pc0 := 23) (pc' := 30) rfl (hb hby at_23) rfl (feq (show ¬ ((3 : Int32) = (2 : Int32)) from (by decide))).2 (by decide) (by decide) ?_
      refine XS.bipush X0.here hx rfl (hb hby at_30) ?_
      refine XS.istoreN X0.here hx rfl (hb hby at_32) rfl (l' := #[.val (.int i0), .val (.int (3 : Int32)), .val (.int (7 : Int32)), .unset, .unset, .unset, .unset, .unset, .unset, .unset, .unset, .unset, .unset, .unset, .unset, .unset, .unset]) rfl ?_
      exact k
    obtain ⟨T166, h166, X166, e166, E166, A166, D166, -, st166⟩ := newO X0 hx hZ hown (hw _ (List.mem_of_getElem? (i := 0) rfl)) (hw _ (List.mem_of_getElem? (i := 1) rfl)) (hw _ (List.mem_of_getElem? (i := 2) rfl)) e0 (g := (mkF m 33 #[.val (.int i0), .val (.int (3 : Int32)), .val (.int (7 : Int32)), .unset, .unset, .unset, .unset, .unset, .unset, .unset, .unset, .unset, .unset, .unset, .unset, .unset, .unset] [])) rfl (hb hby at_33) (by decide) (by decide)
    obtain ⟨b166, g166⟩ : ∃ z, z = h0.size := ⟨_, rfl⟩
    rw [← g166] at A166 D166 st166
    have g_b166 : n0 ≤ b166 := Nat.le_trans Z0 (Nat.le_of_eq g166.symm)
    have F166_10 : Fld Z h166 b166 "com/example/bitmend/bitmend/PositionalColumns" "fieldSize" "I" (.int (0 : Int32)) := D166 (Or.inr (hw _ (List.mem_of_getElem? (i := 10) rfl))) (ty := .int) (by decide)
    have F166_30 : Fld Z h166 b166 "com/example/bitmend/bitmend/PositionalColumns" "checkPositions" "[J" .null := D166 (Or.inr (hw _ (List.mem_of_getElem? (i := 30) rfl))) (ty := (.array .long)) (by decide)
    refine Outs.of st166 ?_
    refine Outs.of (U' := T166.setTop (mkF m 38 #[.val (.int i0), .val (.int (3 : Int32)), .val (.int (7 : Int32)), .unset, .unset, .unset, .unset, .unset, .unset, .unset, .unset, .unset, .unset, .unset, .unset, .unset, .unset] [(.int (7 : Int32)), (.ref b166), (.ref b166)])) (fun t k => ?_) ?_
    · refine XS.dup X166.here hx rfl (hb hby at_36) rfl rfl ?_
      refine XS.iloadN X166.here hx rfl (hb hby at_37) rfl ?_
      exact k
    obtain ⟨_, _, ⟨T167, L167, k167, n167⟩, -, X167, ⟨Lc167, hQ167, l167, y167, z167⟩, st167⟩ := X166.specialBack hx (y := (⟨"com/example/bitmend/bitmend/PositionalColumns", "<init>", "(I)V"⟩ : MethodName)) rfl hown (mvT hZ (hw _ (List.mem_of_getElem? (i := 3) rfl))) (mvT hZ (hw _ (List.mem_of_getElem? (i := 4) rfl))) (mvT hZ (hw _ (List.mem_of_getElem? (i := 5) rfl))) (by decide) (backOf (W := 1) (rmct7 l Z a0 hw [] b166 h166 n0 (Nat.le_trans Z0 E166.1) A166 g_b166 F166_10 F166_30) hZ (hw _ (List.mem_of_getElem? (i := 5) rfl)) (hw _ (List.mem_of_getElem? (i := 2) rfl)) (by decide) (by decide)) (g := (mkF m 38 #[.val (.int i0), .val (.int (3 : Int32)), .val (.int (7 : Int32)), .unset, .unset, .unset, .unset, .unset, .unset, .unset, .unset, .unset, .unset, .unset, .unset, .unset, .unset] [(.int (7 : Int32)), (.ref b166), (.ref b166)])) rfl (by rw [hml]; rfl) (Steps.refl _) (a := b166) (argsL := [(.int (7 : Int32))]) (rest := [(.ref b166)]) (lenOf pd_0 rfl) rfl (by show 2 * 0 + _ ≤ _; exact Nat.le_of_eq rfl) (hb hby at_38) (fun _ _ => ⟨rfl, e166, (by decide : 1 + 2 ≤ _), (by decide : 2 + 46 ≤ _)⟩)
    dsimp only [Pt.U, Pt.locs, Pt.cells, Pt.slots] at X167 l167 y167 z167 st167 hQ167
    subst l167 y167 z167
    obtain ⟨b167, g_b167, hs_b167, rfl, N167q, K167, u167_0, u167_1, u167_2⟩ := hQ167
    have N167 := Fr.app N0 N167q
    have ne_b166_b167 : b166 ≠ b167 := Nat.ne_of_lt (Nat.lt_of_lt_of_le A166.lt hs_b167)
    obtain ⟨Lh167, X167, N167⟩ := hide X167 N167 (C := 3) (S := 48) (by decide) (by decide)
    refine Outs.to st167 ?_
    refine Outs.of (U' := T167.setTop (mkF m 42 #[.val (.int i0), .val (.int (3 : Int32)), .val (.int (7 : Int32)), .val (.ref b166), .unset, .unset, .unset, .unset, .unset, .unset, .unset, .unset, .unset, .unset, .unset, .unset, .unset] [])) (fun t k => ?_) ?_
    · refine XS.astoreN X167.here hx rfl (hb hby at_41) rfl rfl (l' := #[.val (.int i0), .val (.int (3 : Int32)), .val (.int (7 : Int32)), .val (.ref b166), .unset, .unset, .unset, .unset, .unset, .unset, .unset, .unset, .unset, .unset, .unset, .unset, .unset]) rfl ?_
      exact k
    obtain ⟨T168, h168, X168, e168, E168, A168, D168, -, st168⟩ := newO X167 hx hZ hown (hw _ (List.mem_of_getElem? (i := 31) rfl)) (hw _ (List.mem_of_getElem? (i := 32) rfl)) (hw _ (List.mem_of_getElem? (i := 33) rfl)) rfl (g := (mkF m 42 #[.val (.int i0), .val (.int (3 : Int32)), .val (.int (7 : Int32)), .val (.ref b166), .unset, .unset, .unset, .unset, .unset, .unset, .unset, .unset, .unset, .unset, .unset, .unset, .unset] [])) rfl (hb hby at_42) (by decide) (by decide)
    obtain ⟨b168, g168⟩ : ∃ z, z = T167.heap.size := ⟨_, rfl⟩
    rw [← g168] at A168 D168 st168
    have g_b168 : n0 ≤ b168 := Nat.le_trans (Nat.le_trans (Nat.le_trans Z0 E166.1) K167.1) (Nat.le_of_eq g168.symm)
    have ne_b166_b168 : b166 ≠ b168 := Nat.ne_of_lt (Nat.lt_of_lt_of_eq u167_0.lt g168.symm)
    have ne_b167_b168 : b167 ≠ b168 := Nat.ne_of_lt (Nat.lt_of_lt_of_eq u167_2.lt g168.symm)
    have F168_42 : Fld Z h168 b168 "com/example/bitmend/bitmend/PositionalColumns$DataPositions" "this$0" "Lcom/example/bitmend/bitmend/PositionalColumns;" .null := D168 (Or.inr (hw _ (List.mem_of_getElem? (i := 42) rfl))) (ty := (.object "com/example/bitmend/bitmend/PositionalColumns")) (by decide)
    have F168_46 : Fld Z h168 b168 "com/example/bitmend/bitmend/PositionalColumns$DataPositions" "checkPosition" "J" (.long (0 : Int64)) := D168 (Or.inl (hw _ (List.mem_of_getElem? (i := 46) rfl))) (ty := .long) (by decide)
    have F168_53 : Fld Z h168 b168 "com/example/bitmend/bitmend/PositionalColumns$DataPositions" "position" "I" (.int (0 : Int32)) := D168 (Or.inl (hw _ (List.mem_of_getElem? (i := 53) rfl))) (ty := .int) (by decide)
    have F168_55 : Fld Z h168 b168 "com/example/bitmend/bitmend/PositionalColumns$DataPositions" "check" "I" (.int (0 : Int32)) := D168 (Or.inl (hw _ (List.mem_of_getElem? (i := 55) rfl))) (ty := .int) (by decide)
    refine Outs.of st168 ?_
    refine Outs.of (U' := T168.setTop (mkF m 48 #[.val (.int i0), .val (.int (3 : Int32)), .val (.int (7 : Int32)), .val (.ref b166), .unset, .unset, .unset, .unset, .unset, .unset, .unset, .unset, .unset, .unset, .unset, .unset, .unset] [(.ref b166), (.ref b166), (.ref b168), (.ref b168)])) (fun t k => ?_) ?_
    · refine XS.dup X168.here hx rfl (hb hby at_45) rfl rfl ?_
      refine XS.aloadN X168.here hx rfl (hb hby at_46) rfl rfl ?_
      refine XS.dup X168.here hx rfl (hb hby at_47) rfl rfl ?_
      exact k
    obtain ⟨_, _, ⟨T169, L169, k169, n169⟩, -, X169, ⟨Lc169, hQ169, l169, y169, z169⟩, st169⟩ := Jvm.LawKit.callS X168 hx (y := (⟨"java/util/Objects", "requireNonNull", "(Ljava/lang/Object;)Ljava/lang/Object;"⟩ : MethodName)) hown (mvT hZ (hw _ (List.mem_of_getElem? (i := 34) rfl))) (mvT hZ (hw _ (List.mem_of_getElem? (i := 35) rfl))) (mvT hZ (hw _ (List.mem_of_getElem? (i := 36) rfl))) (mvT hZ (hw _ (List.mem_of_getElem? (i := 37) rfl))) (by decide) (backOf (W := 3) (rm6 l Z a0 hw [] b166 h168 n0 ) hZ (hw _ (List.mem_of_getElem? (i := 37) rfl)) (hw _ (List.mem_of_getElem? (i := 36) rfl)) (by decide) (by decide)) (g := (mkF m 48 #[.val (.int i0), .val (.int (3 : Int32)), .val (.int (7 : Int32)), .val (.ref b166), .unset, .unset, .unset, .unset, .unset, .unset, .unset, .unset, .unset, .unset, .unset, .unset, .unset] [(.ref b166), (.ref b166), (.ref b168), (.ref b168)])) rfl (by rw [hml]; rfl) (argsL := [(.ref b166)]) (rest := [(.ref b166), (.ref b168), (.ref b168)]) (lenOf pd_6 rfl) rfl (by show 2 * 0 + _ ≤ _; exact Nat.le_of_eq rfl) (hb hby at_48) (fun _ _ => ⟨rfl, e168, (by decide : 4 + 0 ≤ _), (by decide : 52 + 0 ≤ _)⟩)
    dsimp only [Pt.U, Pt.locs, Pt.cells, Pt.slots] at X169 l169 y169 z169 st169 hQ169
    subst l169 y169 z169
    obtain ⟨rfl, N169q, e169⟩ := hQ169
    have N169 := Fr.app N167 N169q
    obtain ⟨Lh169, X169, N169⟩ := hide X169 N169 (C := 4) (S := 52) (by decide) (by decide)
    refine Outs.of st169 ?_
    refine Outs.of (U' := T169.setTop (mkF m 52 #[.val (.int i0), .val (.int (3 : Int32)), .val (.int (7 : Int32)), .val (.ref b166), .unset, .unset, .unset, .unset, .unset, .unset, .unset, .unset, .unset, .unset, .unset, .unset, .unset] [(.ref b166), (.ref b168), (.ref b168)])) (fun t k => ?_) ?_
    · refine XS.pop X169.here hx rfl (hb hby at_51) rfl rfl ?_
      exact k
    have f171 : Fld Z h168 b166 "com/example/bitmend/bitmend/PositionalColumns" "checkPositions" "[J" (.ref b167) := (u167_1.ext E168)
    have f172 : AJ Z h168 b167 .long 13 (cp7_g28 ct7_g25l) := (u167_2.ext E168)
    obtain ⟨_, _, ⟨T170, L170, k170, n170⟩, -, X170, ⟨Lc170, hQ170, l170, y170, z170⟩, st170⟩ := X169.specialBack hx (y := (⟨"com/example/bitmend/bitmend/PositionalColumns$DataPositions", "<init>", "(Lcom/example/bitmend/bitmend/PositionalColumns;)V"⟩ : MethodName)) rfl hown (mvT hZ (hw _ (List.mem_of_getElem? (i := 38) rfl))) (mvT hZ (hw _ (List.mem_of_getElem? (i := 39) rfl))) (mvT hZ (hw _ (List.mem_of_getElem? (i := 40) rfl))) (by decide) (backOf (W := 1) (rm7 l Z a0 hw [] b168 b166 b167 13 (cp7_g28 ct7_g25l) h168 n0 A168 g_b168 F168_42 F168_46 F168_53 F168_55 f171 f172 ne_b166_b168 ne_b167_b168 (by decide)) hZ (hw _ (List.mem_of_getElem? (i := 40) rfl)) (hw _ (List.mem_of_getElem? (i := 33) rfl)) (by decide) (by decide)) (g := (mkF m 52 #[.val (.int i0), .val (.int (3 : Int32)), .val (.int (7 : Int32)), .val (.ref b166), .unset, .unset, .unset, .unset, .unset, .unset, .unset, .unset, .unset, .unset, .unset, .unset, .unset] [(.ref b166), (.ref b168), (.ref b168)])) rfl (by rw [hml]; rfl) (Steps.refl _) (a := b168) (argsL := [(.ref b166)]) (rest := [(.ref b168)]) (lenOf pd_7 rfl) rfl (by show 2 * 0 + _ ≤ _; exact Nat.le_of_eq rfl) (hb hby at_52) (fun _ _ => ⟨rfl, e169, (by decide : 4 + 0 ≤ _), (by decide : 52 + 0 ≤ _)⟩)
    dsimp only [Pt.U, Pt.locs, Pt.cells, Pt.slots] at X170 l170 y170 z170 st170 hQ170
    subst l170 y170 z170
    obtain ⟨rfl, N170q, K170, u170_0, u170_1, u170_2, u170_3, u170_4⟩ := hQ170
    have N170 := Fr.app N169 N170q
    obtain ⟨Lh170, X170, N170⟩ := hide X170 N170 (C := 4) (S := 52) (by decide) (by decide)
    refine Outs.to st170 ?_
    refine Outs.of (U' := T170.setTop (mkF m 59 #[.val (.int i0), .val (.int (3 : Int32)), .val (.int (7 : Int32)), .val (.ref b166), .val (.ref b168), .unset, .unset, .unset, .unset, .unset, .unset, .unset, .unset, .unset, .unset, .unset, .unset] [(.ref b168)])) (fun t k => ?_) ?_
    · refine XS.astore X170.here hx rfl (hb hby at_55) rfl rfl (l' := #[.val (.int i0), .val (.int (3 : Int32)), .val (.int (7 : Int32)), .val (.ref b166), .val (.ref b168), .unset, .unset, .unset, .unset, .unset, .unset, .unset, .unset, .unset, .unset, .unset, .unset]) rfl ?_
      refine XS.aload X170.here hx rfl (hb hby at_57) rfl rfl ?_
      exact k
    have f174 : Fld Z T170.heap b166 "com/example/bitmend/bitmend/PositionalColumns" "checkPositions" "[J" (.ref b167) := (f171.keep K170 (ninS ne_b166_b168 nin0))
    have f175 : AJ Z T170.heap b167 .long 13 (cp7_g28 ct7_g25l) := (f172.keep K170 (ninS ne_b167_b168 nin0))
    obtain ⟨cq173, kq173, q173a, q173b, q173c⟩ := isOf hZ rfl u170_0
    obtain ⟨_, _, ⟨T173, L173, k173, n173⟩, -, X173, ⟨Lc173, hQ173, l173, y173, z173⟩, st173⟩ := X170.virtualBack hx (y := (⟨"com/example/bitmend/bitmend/PositionalColumns$DataPositions", "next", "()I"⟩ : MethodName)) (z := (⟨"com/example/bitmend/bitmend/PositionalColumns$DataPositions", "next", "()I"⟩ : MethodName)) hown (mvT hZ (hw _ (List.mem_of_getElem? (i := 47) rfl))) (mvT hZ (hw _ (List.mem_of_getElem? (i := 48) rfl))) (notFace_of_selects (args := #[]) (mvT hZ (hw _ (List.mem_of_getElem? (i := 50) rfl)))) (mvT hZ (hw _ (List.mem_of_getElem? (i := 50) rfl))) (mvT hZ (hw _ (List.mem_of_getElem? (i := 49) rfl))) (by decide) (backOf (W := 0) (rmnx2 l Z a0 hw [] b168 (0 : Int32) (0 : Int32) ((cp7_g28 ct7_g25l) 0) b166 b167 13 (cp7_g28 ct7_g25l) 1 2 T170.heap n0 u170_0 g_b168 u170_3 u170_4 u170_2 u170_1 f174 f175 ne_b166_b168 ne_b167_b168 (by decide +kernel) ⟨by decide, by decide⟩ (by decide +kernel) ⟨by decide, by decide⟩ (by decide +kernel)) hZ (hw _ (List.mem_of_getElem? (i := 51) rfl)) (hw _ (List.mem_of_getElem? (i := 33) rfl)) (by decide) (by decide)) q173a q173c (g := (mkF m 59 #[.val (.int i0), .val (.int (3 : Int32)), .val (.int (7 : Int32)), .val (.ref b166), .val (.ref b168), .unset, .unset, .unset, .unset, .unset, .unset, .unset, .unset, .unset, .unset, .unset, .unset] [(.ref b168)])) rfl (by rw [hml]; rfl) (Steps.refl _) (argsL := []) (rest := []) (lenOf pd_8 rfl) rfl (by show 2 * 0 + _ ≤ _; exact Nat.le_of_eq rfl) (hb hby at_59) (fun _ _ => ⟨rfl, rfl, (by decide : 4 + 0 ≤ _), (by decide : 52 + 0 ≤ _)⟩)
    dsimp only [Pt.U, Pt.locs, Pt.cells, Pt.slots] at X173 l173 y173 z173 st173 hQ173
    subst l173 y173 z173
    obtain ⟨rfl, N173q, K173, u173_0, u173_1, u173_2, u173_3, u173_4⟩ := hQ173
    have N173 := Fr.app N170 N173q
    obtain ⟨Lh173, X173, N173⟩ := hide X173 N173 (C := 4) (S := 52) (by decide) (by decide)
    refine Outs.to st173 ?_
    refine Outs.of (U' := T173.setTop (mkF m 66 #[.val (.int i0), .val (.int (3 : Int32)), .val (.int (7 : Int32)), .val (.ref b166), .val (.ref b168), .val (.int f0_v62c), .unset, .unset, .unset, .unset, .unset, .unset, .unset, .unset, .unset, .unset, .unset] [(.ref b168)])) (fun t k => ?_) ?_
    · refine XS.istore X173.here hx rfl (hb hby at_62) rfl (l' := #[.val (.int i0), .val (.int (3 : Int32)), .val (.int (7 : Int32)), .val (.ref b166), .val (.ref b168), .val (.int f0_v62c), .unset, .unset, .unset, .unset, .unset, .unset, .unset, .unset, .unset, .unset, .unset]) rfl ?_
      refine XS.aload X173.here hx rfl (hb hby at_64) rfl rfl ?_
      exact k
    have f177 : Fld Z T173.heap b166 "com/example/bitmend/bitmend/PositionalColumns" "checkPositions" "[J" (.ref b167) := (f174.keep K173 (ninS ne_b166_b168 nin0))
    have f178 : AJ Z T173.heap b167 .long 13 (cp7_g28 ct7_g25l) := (f175.keep K173 (ninS ne_b167_b168 nin0))
    obtain ⟨cq176, kq176, q176a, q176b, q176c⟩ := isOf hZ rfl u173_0
    obtain ⟨_, _, ⟨T176, L176, k176, n176⟩, -, X176, ⟨Lc176, hQ176, l176, y176, z176⟩, st176⟩ := X173.virtualBack hx (y := (⟨"com/example/bitmend/bitmend/PositionalColumns$DataPositions", "next", "()I"⟩ : MethodName)) (z := (⟨"com/example/bitmend/bitmend/PositionalColumns$DataPositions", "next", "()I"⟩ : MethodName)) hown (mvT hZ (hw _ (List.mem_of_getElem? (i := 47) rfl))) (mvT hZ (hw _ (List.mem_of_getElem? (i := 48) rfl))) (notFace_of_selects (args := #[]) (mvT hZ (hw _ (List.mem_of_getElem? (i := 50) rfl)))) (mvT hZ (hw _ (List.mem_of_getElem? (i := 50) rfl))) (mvT hZ (hw _ (List.mem_of_getElem? (i := 49) rfl))) (by decide) (backOf (W := 0) (rmnx0 l Z a0 hw [] b168 (3 : Int32) (2 : Int32) ((cp7_g28 ct7_g25l) 2) b166 b167 13 (cp7_g28 ct7_g25l) T173.heap n0 u173_0 g_b168 u173_2 u173_3 u173_4 u173_1 f177 f178 ne_b166_b168 ne_b167_b168 (by decide +kernel)) hZ (hw _ (List.mem_of_getElem? (i := 51) rfl)) (hw _ (List.mem_of_getElem? (i := 33) rfl)) (by decide) (by decide)) q176a q176c (g := (mkF m 66 #[.val (.int i0), .val (.int (3 : Int32)), .val (.int (7 : Int32)), .val (.ref b166), .val (.ref b168), .val (.int f0_v62c), .unset, .unset, .unset, .unset, .unset, .unset, .unset, .unset, .unset, .unset, .unset] [(.ref b168)])) rfl (by rw [hml]; rfl) (Steps.refl _) (argsL := []) (rest := []) (lenOf pd_8 rfl) rfl (by show 2 * 0 + _ ≤ _; exact Nat.le_of_eq rfl) (hb hby at_66) (fun _ _ => ⟨rfl, rfl, (by decide : 4 + 0 ≤ _), (by decide : 52 + 0 ≤ _)⟩)
    dsimp only [Pt.U, Pt.locs, Pt.cells, Pt.slots] at X176 l176 y176 z176 st176 hQ176
    subst l176 y176 z176
    obtain ⟨rfl, N176q, K176, u176_0, u176_1, u176_2, u176_3, u176_4⟩ := hQ176
    have N176 := Fr.app N173 N176q
    obtain ⟨Lh176, X176, N176⟩ := hide X176 N176 (C := 4) (S := 52) (by decide) (by decide)
    refine Outs.to st176 ?_
    refine Outs.of (U' := T176.setTop (mkF m 73 #[.val (.int i0), .val (.int (3 : Int32)), .val (.int (7 : Int32)), .val (.ref b166), .val (.ref b168), .val (.int f0_v62c), .val (.int f0_v69c), .unset, .unset, .unset, .unset, .unset, .unset, .unset, .unset, .unset, .unset] [(.ref b168)])) (fun t k => ?_) ?_
    · refine XS.istore X176.here hx rfl (hb hby at_69) rfl (l' := #[.val (.int i0), .val (.int (3 : Int32)), .val (.int (7 : Int32)), .val (.ref b166), .val (.ref b168), .val (.int f0_v62c), .val (.int f0_v69c), .unset, .unset, .unset, .unset, .unset, .unset, .unset, .unset, .unset, .unset]) rfl ?_
      refine XS.aload X176.here hx rfl (hb hby at_71) rfl rfl ?_
      exact k
    have f180 : Fld Z T176.heap b166 "com/example/bitmend/bitmend/PositionalColumns" "checkPositions" "[J" (.ref b167) := (f177.keep K176 (ninS ne_b166_b168 nin0))
    have f181 : AJ Z T176.heap b167 .long 13 (cp7_g28 ct7_g25l) := (f178.keep K176 (ninS ne_b167_b168 nin0))
    obtain ⟨cq179, kq179, q179a, q179b, q179c⟩ := isOf hZ rfl u176_0
    obtain ⟨_, _, ⟨T179, L179, k179, n179⟩, -, X179, ⟨Lc179, hQ179, l179, y179, z179⟩, st179⟩ := X176.virtualBack hx (y := (⟨"com/example/bitmend/bitmend/PositionalColumns$DataPositions", "next", "()I"⟩ : MethodName)) (z := (⟨"com/example/bitmend/bitmend/PositionalColumns$DataPositions", "next", "()I"⟩ : MethodName)) hown (mvT hZ (hw _ (List.mem_of_getElem? (i := 47) rfl))) (mvT hZ (hw _ (List.mem_of_getElem? (i := 48) rfl))) (notFace_of_selects (args := #[]) (mvT hZ (hw _ (List.mem_of_getElem? (i := 50) rfl)))) (mvT hZ (hw _ (List.mem_of_getElem? (i := 50) rfl))) (mvT hZ (hw _ (List.mem_of_getElem? (i := 49) rfl))) (by decide) (backOf (W := 0) (rmnx0 l Z a0 hw [] b168 (4 : Int32) (2 : Int32) ((cp7_g28 ct7_g25l) 2) b166 b167 13 (cp7_g28 ct7_g25l) T176.heap n0 u176_0 g_b168 u176_2 u176_3 u176_4 u176_1 f180 f181 ne_b166_b168 ne_b167_b168 (by decide +kernel)) hZ (hw _ (List.mem_of_getElem? (i := 51) rfl)) (hw _ (List.mem_of_getElem? (i := 33) rfl)) (by decide) (by decide)) q179a q179c (g := (mkF m 73 #[.val (.int i0), .val (.int (3 : Int32)), .val (.int (7 : Int32)), .val (.ref b166), .val (.ref b168), .val (.int f0_v62c), .val (.int f0_v69c), .unset, .unset, .unset, .unset, .unset, .unset, .unset, .unset, .unset, .unset] [(.ref b168)])) rfl (by rw [hml]; rfl) (Steps.refl _) (argsL := []) (rest := []) (lenOf pd_8 rfl) rfl (by show 2 * 0 + _ ≤ _; exact Nat.le_of_eq rfl) (hb hby at_73) (fun _ _ => ⟨rfl, rfl, (by decide : 4 + 0 ≤ _), (by decide : 52 + 0 ≤ _)⟩)
    dsimp only [Pt.U, Pt.locs, Pt.cells, Pt.slots] at X179 l179 y179 z179 st179 hQ179
    subst l179 y179 z179
    obtain ⟨rfl, N179q, K179, u179_0, u179_1, u179_2, u179_3, u179_4⟩ := hQ179
    have N179 := Fr.app N176 N179q
    obtain ⟨Lh179, X179, N179⟩ := hide X179 N179 (C := 4) (S := 52) (by decide) (by decide)
    refine Outs.to st179 ?_
    refine Outs.of (U' := T179.setTop (mkF m 80 #[.val (.int i0), .val (.int (3 : Int32)), .val (.int (7 : Int32)), .val (.ref b166), .val (.ref b168), .val (.int f0_v62c), .val (.int f0_v69c), .val (.int f0_v76c), .unset, .unset, .unset, .unset, .unset, .unset, .unset, .unset, .unset] [(.ref b168)])) (fun t k => ?_) ?_
    · refine XS.istore X179.here hx rfl (hb hby at_76) rfl (l' := #[.val (.int i0), .val (.int (3 : Int32)), .val (.int (7 : Int32)), .val (.ref b166), .val (.ref b168), .val (.int f0_v62c), .val (.int f0_v69c), .val (.int f0_v76c), .unset, .unset, .unset, .unset, .unset, .unset, .unset, .unset, .unset]) rfl ?_
      refine XS.aload X179.here hx rfl (hb hby at_78) rfl rfl ?_
      exact k
    have f183 : Fld Z T179.heap b166 "com/example/bitmend/bitmend/PositionalColumns" "checkPositions" "[J" (.ref b167) := (f180.keep K179 (ninS ne_b166_b168 nin0))
    have f184 : AJ Z T179.heap b167 .long 13 (cp7_g28 ct7_g25l) := (f181.keep K179 (ninS ne_b167_b168 nin0))
    obtain ⟨cq182, kq182, q182a, q182b, q182c⟩ := isOf hZ rfl u179_0
    obtain ⟨_, _, ⟨T182, L182, k182, n182⟩, -, X182, ⟨Lc182, hQ182, l182, y182, z182⟩, st182⟩ := X179.virtualBack hx (y := (⟨"com/example/bitmend/bitmend/PositionalColumns$DataPositions", "next", "()I"⟩ : MethodName)) (z := (⟨"com/example/bitmend/bitmend/PositionalColumns$DataPositions", "next", "()I"⟩ : MethodName)) hown (mvT hZ (hw _ (List.mem_of_getElem? (i := 47) rfl))) (mvT hZ (hw _ (List.mem_of_getElem? (i := 48) rfl))) (notFace_of_selects (args := #[]) (mvT hZ (hw _ (List.mem_of_getElem? (i := 50) rfl)))) (mvT hZ (hw _ (List.mem_of_getElem? (i := 50) rfl))) (mvT hZ (hw _ (List.mem_of_getElem? (i := 49) rfl))) (by decide) (backOf (W := 0) (rmnx0 l Z a0 hw [] b168 (5 : Int32) (2 : Int32) ((cp7_g28 ct7_g25l) 2) b166 b167 13 (cp7_g28 ct7_g25l) T179.heap n0 u179_0 g_b168 u179_2 u179_3 u179_4 u179_1 f183 f184 ne_b166_b168 ne_b167_b168 (by decide +kernel)) hZ (hw _ (List.mem_of_getElem? (i := 51) rfl)) (hw _ (List.mem_of_getElem? (i := 33) rfl)) (by decide) (by decide)) q182a q182c (g := (mkF m 80 #[.val (.int i0), .val (.int (3 : Int32)), .val (.int (7 : Int32)), .val (.ref b166), .val (.ref b168), .val (.int f0_v62c), .val (.int f0_v69c), .val (.int f0_v76c), .unset, .unset, .unset, .unset, .unset, .unset, .unset, .unset, .unset] [(.ref b168)])) rfl (by rw [hml]; rfl) (Steps.refl _) (argsL := []) (rest := []) (lenOf pd_8 rfl) rfl (by show 2 * 0 + _ ≤ _; exact Nat.le_of_eq rfl) (hb hby at_80) (fun _ _ => ⟨rfl, rfl, (by decide : 4 + 0 ≤ _), (by decide : 52 + 0 ≤ _)⟩)
    dsimp only [Pt.U, Pt.locs, Pt.cells, Pt.slots] at X182 l182 y182 z182 st182 hQ182
    subst l182 y182 z182
    obtain ⟨rfl, N182q, K182, u182_0, u182_1, u182_2, u182_3, u182_4⟩ := hQ182
    have N182 := Fr.app N179 N182q
    obtain ⟨Lh182, X182, N182⟩ := hide X182 N182 (C := 4) (S := 52) (by decide) (by decide)
    refine Outs.to st182 ?_
    refine Outs.of (U' := T182.setTop (mkF m 87 #[.val (.int i0), .val (.int (3 : Int32)), .val (.int (7 : Int32)), .val (.ref b166), .val (.ref b168), .val (.int f0_v62c), .val (.int f0_v69c), .val (.int f0_v76c), .val (.int f0_v83c), .unset, .unset, .unset, .unset, .unset, .unset, .unset, .unset] [(.ref b168)])) (fun t k => ?_) ?_
    · refine XS.istore X182.here hx rfl (hb hby at_83) rfl (l' := #[.val (.int i0), .val (.int (3 : Int32)), .val (.int (7 : Int32)), .val (.ref b166), .val (.ref b168), .val (.int f0_v62c), .val (.int f0_v69c), .val (.int f0_v76c), .val (.int f0_v83c), .unset, .unset, .unset, .unset, .unset, .unset, .unset, .unset]) rfl ?_
      refine XS.aload X182.here hx rfl (hb hby at_85) rfl rfl ?_
      exact k
    have f186 : Fld Z T182.heap b166 "com/example/bitmend/bitmend/PositionalColumns" "checkPositions" "[J" (.ref b167) := (f183.keep K182 (ninS ne_b166_b168 nin0))
    have f187 : AJ Z T182.heap b167 .long 13 (cp7_g28 ct7_g25l) := (f184.keep K182 (ninS ne_b167_b168 nin0))
    obtain ⟨cq185, kq185, q185a, q185b, q185c⟩ := isOf hZ rfl u182_0
    obtain ⟨_, _, ⟨T185, L185, k185, n185⟩, -, X185, ⟨Lc185, hQ185, l185, y185, z185⟩, st185⟩ := X182.virtualBack hx (y := (⟨"com/example/bitmend/bitmend/PositionalColumns$DataPositions", "next", "()I"⟩ : MethodName)) (z := (⟨"com/example/bitmend/bitmend/PositionalColumns$DataPositions", "next", "()I"⟩ : MethodName)) hown (mvT hZ (hw _ (List.mem_of_getElem? (i := 47) rfl))) (mvT hZ (hw _ (List.mem_of_getElem? (i := 48) rfl))) (notFace_of_selects (args := #[]) (mvT hZ (hw _ (List.mem_of_getElem? (i := 50) rfl)))) (mvT hZ (hw _ (List.mem_of_getElem? (i := 50) rfl))) (mvT hZ (hw _ (List.mem_of_getElem? (i := 49) rfl))) (by decide) (backOf (W := 0) (rmnx0 l Z a0 hw [] b168 (6 : Int32) (2 : Int32) ((cp7_g28 ct7_g25l) 2) b166 b167 13 (cp7_g28 ct7_g25l) T182.heap n0 u182_0 g_b168 u182_2 u182_3 u182_4 u182_1 f186 f187 ne_b166_b168 ne_b167_b168 (by decide +kernel)) hZ (hw _ (List.mem_of_getElem? (i := 51) rfl)) (hw _ (List.mem_of_getElem? (i := 33) rfl)) (by decide) (by decide)) q185a q185c (g := (mkF m 87 #[.val (.int i0), .val (.int (3 : Int32)), .val (.int (7 : Int32)), .val (.ref b166), .val (.ref b168), .val (.int f0_v62c), .val (.int f0_v69c), .val (.int f0_v76c), .val (.int f0_v83c), .unset, .unset, .unset, .unset, .unset, .unset, .unset, .unset] [(.ref b168)])) rfl (by rw [hml]; rfl) (Steps.refl _) (argsL := []) (rest := []) (lenOf pd_8 rfl) rfl (by show 2 * 0 + _ ≤ _; exact Nat.le_of_eq rfl) (hb hby at_87) (fun _ _ => ⟨rfl, rfl, (by decide : 4 + 0 ≤ _), (by decide : 52 + 0 ≤ _)⟩)
    dsimp only [Pt.U, Pt.locs, Pt.cells, Pt.slots] at X185 l185 y185 z185 st185 hQ185
    subst l185 y185 z185
    obtain ⟨rfl, N185q, K185, u185_0, u185_1, u185_2, u185_3, u185_4⟩ := hQ185
    have N185 := Fr.app N182 N185q
    obtain ⟨Lh185, X185, N185⟩ := hide X185 N185 (C := 4) (S := 52) (by decide) (by decide)
    refine Outs.to st185 ?_
    refine Outs.of (U' := T185.setTop (mkF m 94 #[.val (.int i0), .val (.int (3 : Int32)), .val (.int (7 : Int32)), .val (.ref b166), .val (.ref b168), .val (.int f0_v62c), .val (.int f0_v69c), .val (.int f0_v76c), .val (.int f0_v83c), .val (.int f0_v90c), .unset, .unset, .unset, .unset, .unset, .unset, .unset] [(.ref b168)])) (fun t k => ?_) ?_
    · refine XS.istore X185.here hx rfl (hb hby at_90) rfl (l' := #[.val (.int i0), .val (.int (3 : Int32)), .val (.int (7 : Int32)), .val (.ref b166), .val (.ref b168), .val (.int f0_v62c), .val (.int f0_v69c), .val (.int f0_v76c), .val (.int f0_v83c), .val (.int f0_v90c), .unset, .unset, .unset, .unset, .unset, .unset, .unset]) rfl ?_
      refine XS.aload X185.here hx rfl (hb hby at_92) rfl rfl ?_
      exact k
    have f189 : Fld Z T185.heap b166 "com/example/bitmend/bitmend/PositionalColumns" "checkPositions" "[J" (.ref b167) := (f186.keep K185 (ninS ne_b166_b168 nin0))
    have f190 : AJ Z T185.heap b167 .long 13 (cp7_g28 ct7_g25l) := (f187.keep K185 (ninS ne_b167_b168 nin0))
    obtain ⟨cq188, kq188, q188a, q188b, q188c⟩ := isOf hZ rfl u185_0
    obtain ⟨_, _, ⟨T188, L188, k188, n188⟩, -, X188, ⟨Lc188, hQ188, l188, y188, z188⟩, st188⟩ := X185.virtualBack hx (y := (⟨"com/example/bitmend/bitmend/PositionalColumns$DataPositions", "next", "()I"⟩ : MethodName)) (z := (⟨"com/example/bitmend/bitmend/PositionalColumns$DataPositions", "next", "()I"⟩ : MethodName)) hown (mvT hZ (hw _ (List.mem_of_getElem? (i := 47) rfl))) (mvT hZ (hw _ (List.mem_of_getElem? (i := 48) rfl))) (notFace_of_selects (args := #[]) (mvT hZ (hw _ (List.mem_of_getElem? (i := 50) rfl)))) (mvT hZ (hw _ (List.mem_of_getElem? (i := 50) rfl))) (mvT hZ (hw _ (List.mem_of_getElem? (i := 49) rfl))) (by decide) (backOf (W := 0) (rmnx0 l Z a0 hw [] b168 (7 : Int32) (2 : Int32) ((cp7_g28 ct7_g25l) 2) b166 b167 13 (cp7_g28 ct7_g25l) T185.heap n0 u185_0 g_b168 u185_2 u185_3 u185_4 u185_1 f189 f190 ne_b166_b168 ne_b167_b168 (by decide +kernel)) hZ (hw _ (List.mem_of_getElem? (i := 51) rfl)) (hw _ (List.mem_of_getElem? (i := 33) rfl)) (by decide) (by decide)) q188a q188c (g := (mkF m 94 #[.val (.int i0), .val (.int (3 : Int32)), .val (.int (7 : Int32)), .val (.ref b166), .val (.ref b168), .val (.int f0_v62c), .val (.int f0_v69c), .val (.int f0_v76c), .val (.int f0_v83c), .val (.int f0_v90c), .unset, .unset, .unset, .unset, .unset, .unset, .unset] [(.ref b168)])) rfl (by rw [hml]; rfl) (Steps.refl _) (argsL := []) (rest := []) (lenOf pd_8 rfl) rfl (by show 2 * 0 + _ ≤ _; exact Nat.le_of_eq rfl) (hb hby at_94) (fun _ _ => ⟨rfl, rfl, (by decide : 4 + 0 ≤ _), (by decide : 52 + 0 ≤ _)⟩)
    dsimp only [Pt.U, Pt.locs, Pt.cells, Pt.slots] at X188 l188 y188 z188 st188 hQ188
    subst l188 y188 z188
    obtain ⟨rfl, N188q, K188, u188_0, u188_1, u188_2, u188_3, u188_4⟩ := hQ188
    have N188 := Fr.app N185 N188q
    obtain ⟨Lh188, X188, N188⟩ := hide X188 N188 (C := 4) (S := 52) (by decide) (by decide)
    refine Outs.to st188 ?_
    refine Outs.of (U' := T188.setTop (mkF m 101 #[.val (.int i0), .val (.int (3 : Int32)), .val (.int (7 : Int32)), .val (.ref b166), .val (.ref b168), .val (.int f0_v62c), .val (.int f0_v69c), .val (.int f0_v76c), .val (.int f0_v83c), .val (.int f0_v90c), .val (.int f0_v97c), .unset, .unset, .unset, .unset, .unset, .unset] [(.ref b168)])) (fun t k => ?_) ?_
    · refine XS.istore X188.here hx rfl (hb hby at_97) rfl (l' := #[.val (.int i0), .val (.int (3 : Int32)), .val (.int (7 : Int32)), .val (.ref b166), .val (.ref b168), .val (.int f0_v62c), .val (.int f0_v69c), .val (.int f0_v76c), .val (.int f0_v83c), .val (.int f0_v90c), .val (.int f0_v97c), .unset, .unset, .unset, .unset, .unset, .unset]) rfl ?_
      refine XS.aload X188.here hx rfl (hb hby at_99) rfl rfl ?_
      exact k
    have f192 : Fld Z T188.heap b166 "com/example/bitmend/bitmend/PositionalColumns" "checkPositions" "[J" (.ref b167) := (f189.keep K188 (ninS ne_b166_b168 nin0))
    have f193 : AJ Z T188.heap b167 .long 13 (cp7_g28 ct7_g25l) := (f190.keep K188 (ninS ne_b167_b168 nin0))
    obtain ⟨cq191, kq191, q191a, q191b, q191c⟩ := isOf hZ rfl u188_0
    obtain ⟨_, _, ⟨T191, L191, k191, n191⟩, -, X191, ⟨Lc191, hQ191, l191, y191, z191⟩, st191⟩ := X188.virtualBack hx (y := (⟨"com/example/bitmend/bitmend/PositionalColumns$DataPositions", "next", "()I"⟩ : MethodName)) (z := (⟨"com/example/bitmend/bitmend/PositionalColumns$DataPositions", "next", "()I"⟩ : MethodName)) hown (mvT hZ (hw _ (List.mem_of_getElem? (i := 47) rfl))) (mvT hZ (hw _ (List.mem_of_getElem? (i := 48) rfl))) (notFace_of_selects (args := #[]) (mvT hZ (hw _ (List.mem_of_getElem? (i := 50) rfl)))) (mvT hZ (hw _ (List.mem_of_getElem? (i := 50) rfl))) (mvT hZ (hw _ (List.mem_of_getElem? (i := 49) rfl))) (by decide) (backOf (W := 0) (rmnx1 l Z a0 hw [] b168 (8 : Int32) (2 : Int32) ((cp7_g28 ct7_g25l) 2) b166 b167 13 (cp7_g28 ct7_g25l) 3 T188.heap n0 u188_0 g_b168 u188_2 u188_3 u188_4 u188_1 f192 f193 ne_b166_b168 ne_b167_b168 (by decide +kernel) ⟨by decide, by decide⟩ (by decide +kernel)) hZ (hw _ (List.mem_of_getElem? (i := 51) rfl)) (hw _ (List.mem_of_getElem? (i := 33) rfl)) (by decide) (by decide)) q191a q191c (g := (mkF m 101 #[.val (.int i0), .val (.int (3 : Int32)), .val (.int (7 : Int32)), .val (.ref b166), .val (.ref b168), .val (.int f0_v62c), .val (.int f0_v69c), .val (.int f0_v76c), .val (.int f0_v83c), .val (.int f0_v90c), .val (.int f0_v97c), .unset, .unset, .unset, .unset, .unset, .unset] [(.ref b168)])) rfl (by rw [hml]; rfl) (Steps.refl _) (argsL := []) (rest := []) (lenOf pd_8 rfl) rfl (by show 2 * 0 + _ ≤ _; exact Nat.le_of_eq rfl) (hb hby at_101) (fun _ _ => ⟨rfl, rfl, (by decide : 4 + 0 ≤ _), (by decide : 52 + 0 ≤ _)⟩)
    dsimp only [Pt.U, Pt.locs, Pt.cells, Pt.slots] at X191 l191 y191 z191 st191 hQ191
    subst l191 y191 z191
    obtain ⟨rfl, N191q, K191, u191_0, u191_1, u191_2, u191_3, u191_4⟩ := hQ191
    have N191 := Fr.app N188 N191q
    obtain ⟨Lh191, X191, N191⟩ := hide X191 N191 (C := 4) (S := 52) (by decide) (by decide)
    refine Outs.to st191 ?_
    refine Outs.of (U' := T191.setTop (mkF m 108 #[.val (.int i0), .val (.int (3 : Int32)), .val (.int (7 : Int32)), .val (.ref b166), .val (.ref b168), .val (.int f0_v62c), .val (.int f0_v69c), .val (.int f0_v76c), .val (.int f0_v83c), .val (.int f0_v90c), .val (.int f0_v97c), .val (.int f0_v104c), .unset, .unset, .unset, .unset, .unset] [(.ref b168)])) (fun t k => ?_) ?_
    · refine XS.istore X191.here hx rfl (hb hby at_104) rfl (l' := #[.val (.int i0), .val (.int (3 : Int32)), .val (.int (7 : Int32)), .val (.ref b166), .val (.ref b168), .val (.int f0_v62c), .val (.int f0_v69c), .val (.int f0_v76c), .val (.int f0_v83c), .val (.int f0_v90c), .val (.int f0_v97c), .val (.int f0_v104c), .unset, .unset, .unset, .unset, .unset]) rfl ?_
      refine XS.aload X191.here hx rfl (hb hby at_106) rfl rfl ?_
      exact k
    have f195 : Fld Z T191.heap b166 "com/example/bitmend/bitmend/PositionalColumns" "checkPositions" "[J" (.ref b167) := (f192.keep K191 (ninS ne_b166_b168 nin0))
    have f196 : AJ Z T191.heap b167 .long 13 (cp7_g28 ct7_g25l) := (f193.keep K191 (ninS ne_b167_b168 nin0))
    obtain ⟨cq194, kq194, q194a, q194b, q194c⟩ := isOf hZ rfl u191_0
    obtain ⟨_, _, ⟨T194, L194, k194, n194⟩, -, X194, ⟨Lc194, hQ194, l194, y194, z194⟩, st194⟩ := X191.virtualBack hx (y := (⟨"com/example/bitmend/bitmend/PositionalColumns$DataPositions", "next", "()I"⟩ : MethodName)) (z := (⟨"com/example/bitmend/bitmend/PositionalColumns$DataPositions", "next", "()I"⟩ : MethodName)) hown (mvT hZ (hw _ (List.mem_of_getElem? (i := 47) rfl))) (mvT hZ (hw _ (List.mem_of_getElem? (i := 48) rfl))) (notFace_of_selects (args := #[]) (mvT hZ (hw _ (List.mem_of_getElem? (i := 50) rfl)))) (mvT hZ (hw _ (List.mem_of_getElem? (i := 50) rfl))) (mvT hZ (hw _ (List.mem_of_getElem? (i := 49) rfl))) (by decide) (backOf (W := 0) (rmnx0 l Z a0 hw [] b168 (10 : Int32) (3 : Int32) ((cp7_g28 ct7_g25l) 3) b166 b167 13 (cp7_g28 ct7_g25l) T191.heap n0 u191_0 g_b168 u191_2 u191_3 u191_4 u191_1 f195 f196 ne_b166_b168 ne_b167_b168 (by decide +kernel)) hZ (hw _ (List.mem_of_getElem? (i := 51) rfl)) (hw _ (List.mem_of_getElem? (i := 33) rfl)) (by decide) (by decide)) q194a q194c (g := (mkF m 108 #[.val (.int i0), .val (.int (3 : Int32)), .val (.int (7 : Int32)), .val (.ref b166), .val (.ref b168), .val (.int f0_v62c), .val (.int f0_v69c), .val (.int f0_v76c), .val (.int f0_v83c), .val (.int f0_v90c), .val (.int f0_v97c), .val (.int f0_v104c), .unset, .unset, .unset, .unset, .unset] [(.ref b168)])) rfl (by rw [hml]; rfl) (Steps.refl _) (argsL := []) (rest := []) (lenOf pd_8 rfl) rfl (by show 2 * 0 + _ ≤ _; exact Nat.le_of_eq rfl) (hb hby at_108) (fun _ _ => ⟨rfl, rfl, (by decide : 4 + 0 ≤ _), (by decide : 52 + 0 ≤ _)⟩)
    dsimp only [Pt.U, Pt.locs, Pt.cells, Pt.slots] at X194 l194 y194 z194 st194 hQ194
    subst l194 y194 z194
    obtain ⟨rfl, N194q, K194, u194_0, u194_1, u194_2, u194_3, u194_4⟩ := hQ194
    have N194 := Fr.app N191 N194q
    obtain ⟨Lh194, X194, N194⟩ := hide X194 N194 (C := 4) (S := 52) (by decide) (by decide)
    refine Outs.to st194 ?_
    refine Outs.of (U' := T194.setTop (mkF m 115 #[.val (.int i0), .val (.int (3 : Int32)), .val (.int (7 : Int32)), .val (.ref b166), .val (.ref b168), .val (.int f0_v62c), .val (.int f0_v69c), .val (.int f0_v76c), .val (.int f0_v83c), .val (.int f0_v90c), .val (.int f0_v97c), .val (.int f0_v104c), .val (.int f0_v111c), .unset, .unset, .unset, .unset] [(.ref b168)])) (fun t k => ?_) ?_
    · refine XS.istore X194.here hx rfl (hb hby at_111) rfl (l' := #[.val (.int i0), .val (.int (3 : Int32)), .val (.int (7 : Int32)), .val (.ref b166), .val (.ref b168), .val (.int f0_v62c), .val (.int f0_v69c), .val (.int f0_v76c), .val (.int f0_v83c), .val (.int f0_v90c), .val (.int f0_v97c), .val (.int f0_v104c), .val (.int f0_v111c), .unset, .unset, .unset, .unset]) rfl ?_
      refine XS.aload X194.here hx rfl (hb hby at_113) rfl rfl ?_
      exact k
    have f198 : Fld Z T194.heap b166 "com/example/bitmend/bitmend/PositionalColumns" "checkPositions" "[J" (.ref b167) := (f195.keep K194 (ninS ne_b166_b168 nin0))
    have f199 : AJ Z T194.heap b167 .long 13 (cp7_g28 ct7_g25l) := (f196.keep K194 (ninS ne_b167_b168 nin0))
    obtain ⟨cq197, kq197, q197a, q197b, q197c⟩ := isOf hZ rfl u194_0
    obtain ⟨_, _, ⟨T197, L197, k197, n197⟩, -, X197, ⟨Lc197, hQ197, l197, y197, z197⟩, st197⟩ := X194.virtualBack hx (y := (⟨"com/example/bitmend/bitmend/PositionalColumns$DataPositions", "next", "()I"⟩ : MethodName)) (z := (⟨"com/example/bitmend/bitmend/PositionalColumns$DataPositions", "next", "()I"⟩ : MethodName)) hown (mvT hZ (hw _ (List.mem_of_getElem? (i := 47) rfl))) (mvT hZ (hw _ (List.mem_of_getElem? (i := 48) rfl))) (notFace_of_selects (args := #[]) (mvT hZ (hw _ (List.mem_of_getElem? (i := 50) rfl)))) (mvT hZ (hw _ (List.mem_of_getElem? (i := 50) rfl))) (mvT hZ (hw _ (List.mem_of_getElem? (i := 49) rfl))) (by decide) (backOf (W := 0) (rmnx0 l Z a0 hw [] b168 (11 : Int32) (3 : Int32) ((cp7_g28 ct7_g25l) 3) b166 b167 13 (cp7_g28 ct7_g25l) T194.heap n0 u194_0 g_b168 u194_2 u194_3 u194_4 u194_1 f198 f199 ne_b166_b168 ne_b167_b168 (by decide +kernel)) hZ (hw _ (List.mem_of_getElem? (i := 51) rfl)) (hw _ (List.mem_of_getElem? (i := 33) rfl)) (by decide) (by decide)) q197a q197c (g := (mkF m 115 #[.val (.int i0), .val (.int (3 : Int32)), .val (.int (7 : Int32)), .val (.ref b166), .val (.ref b168), .val (.int f0_v62c), .val (.int f0_v69c), .val (.int f0_v76c), .val (.int f0_v83c), .val (.int f0_v90c), .val (.int f0_v97c), .val (.int f0_v104c), .val (.int f0_v111c), .unset, .unset, .unset, .unset] [(.ref b168)])) rfl (by rw [hml]; rfl) (Steps.refl _) (argsL := []) (rest := []) (lenOf pd_8 rfl) rfl (by show 2 * 0 + _ ≤ _; exact Nat.le_of_eq rfl) (hb hby at_115) (fun _ _ => ⟨rfl, rfl, (by decide : 4 + 0 ≤ _), (by decide : 52 + 0 ≤ _)⟩)
    dsimp only [Pt.U, Pt.locs, Pt.cells, Pt.slots] at X197 l197 y197 z197 st197 hQ197
    subst l197 y197 z197
    obtain ⟨rfl, N197q, K197, u197_0, u197_1, u197_2, u197_3, u197_4⟩ := hQ197
    have N197 := Fr.app N194 N197q
    obtain ⟨Lh197, X197, N197⟩ := hide X197 N197 (C := 4) (S := 52) (by decide) (by decide)
    refine Outs.to st197 ?_
    refine Outs.of (U' := T197.setTop (mkF m 122 #[.val (.int i0), .val (.int (3 : Int32)), .val (.int (7 : Int32)), .val (.ref b166), .val (.ref b168), .val (.int f0_v62c), .val (.int f0_v69c), .val (.int f0_v76c), .val (.int f0_v83c), .val (.int f0_v90c), .val (.int f0_v97c), .val (.int f0_v104c), .val (.int f0_v111c), .val (.int f0_v118c), .unset, .unset, .unset] [(.ref b168)])) (fun t k => ?_) ?_
    · refine XS.istore X197.here hx rfl (hb hby at_118) rfl (l' := #[.val (.int i0), .val (.int (3 : Int32)), .val (.int (7 : Int32)), .val (.ref b166), .val (.ref b168), .val (.int f0_v62c), .val (.int f0_v69c), .val (.int f0_v76c), .val (.int f0_v83c), .val (.int f0_v90c), .val (.int f0_v97c), .val (.int f0_v104c), .val (.int f0_v111c), .val (.int f0_v118c), .unset, .unset, .unset]) rfl ?_
      refine XS.aload X197.here hx rfl (hb hby at_120) rfl rfl ?_
      exact k
    have f201 : Fld Z T197.heap b166 "com/example/bitmend/bitmend/PositionalColumns" "checkPositions" "[J" (.ref b167) := (f198.keep K197 (ninS ne_b166_b168 nin0))
    have f202 : AJ Z T197.heap b167 .long 13 (cp7_g28 ct7_g25l) := (f199.keep K197 (ninS ne_b167_b168 nin0))
    obtain ⟨cq200, kq200, q200a, q200b, q200c⟩ := isOf hZ rfl u197_0
    obtain ⟨_, _, ⟨T200, L200, k200, n200⟩, -, X200, ⟨Lc200, hQ200, l200, y200, z200⟩, st200⟩ := X197.virtualBack hx (y := (⟨"com/example/bitmend/bitmend/PositionalColumns$DataPositions", "next", "()I"⟩ : MethodName)) (z := (⟨"com/example/bitmend/bitmend/PositionalColumns$DataPositions", "next", "()I"⟩ : MethodName)) hown (mvT hZ (hw _ (List.mem_of_getElem? (i := 47) rfl))) (mvT hZ (hw _ (List.mem_of_getElem? (i := 48) rfl))) (notFace_of_selects (args := #[]) (mvT hZ (hw _ (List.mem_of_getElem? (i := 50) rfl)))) (mvT hZ (hw _ (List.mem_of_getElem? (i := 50) rfl))) (mvT hZ (hw _ (List.mem_of_getElem? (i := 49) rfl))) (by decide) (backOf (W := 0) (rmnx0 l Z a0 hw [] b168 (12 : Int32) (3 : Int32) ((cp7_g28 ct7_g25l) 3) b166 b167 13 (cp7_g28 ct7_g25l) T197.heap n0 u197_0 g_b168 u197_2 u197_3 u197_4 u197_1 f201 f202 ne_b166_b168 ne_b167_b168 (by decide +kernel)) hZ (hw _ (List.mem_of_getElem? (i := 51) rfl)) (hw _ (List.mem_of_getElem? (i := 33) rfl)) (by decide) (by decide)) q200a q200c (g := (mkF m 122 #[.val (.int i0), .val (.int (3 : Int32)), .val (.int (7 : Int32)), .val (.ref b166), .val (.ref b168), .val (.int f0_v62c), .val (.int f0_v69c), .val (.int f0_v76c), .val (.int f0_v83c), .val (.int f0_v90c), .val (.int f0_v97c), .val (.int f0_v104c), .val (.int f0_v111c), .val (.int f0_v118c), .unset, .unset, .unset] [(.ref b168)])) rfl (by rw [hml]; rfl) (Steps.refl _) (argsL := []) (rest := []) (lenOf pd_8 rfl) rfl (by show 2 * 0 + _ ≤ _; exact Nat.le_of_eq rfl) (hb hby at_122) (fun _ _ => ⟨rfl, rfl, (by decide : 4 + 0 ≤ _), (by decide : 52 + 0 ≤ _)⟩)
    dsimp only [Pt.U, Pt.locs, Pt.cells, Pt.slots] at X200 l200 y200 z200 st200 hQ200
    subst l200 y200 z200
    obtain ⟨rfl, N200q, K200, u200_0, u200_1, u200_2, u200_3, u200_4⟩ := hQ200
    have N200 := Fr.app N197 N200q
    obtain ⟨Lh200, X200, N200⟩ := hide X200 N200 (C := 4) (S := 52) (by decide) (by decide)
    refine Outs.to st200 ?_
    refine Outs.of (U' := T200.setTop (mkF m 129 #[.val (.int i0), .val (.int (3 : Int32)), .val (.int (7 : Int32)), .val (.ref b166), .val (.ref b168), .val (.int f0_v62c), .val (.int f0_v69c), .val (.int f0_v76c), .val (.int f0_v83c), .val (.int f0_v90c), .val (.int f0_v97c), .val (.int f0_v104c), .val (.int f0_v111c), .val (.int f0_v118c), .val (.int f0_v125c), .unset, .unset] [(.ref b168)])) (fun t k => ?_) ?_
    · refine XS.istore X200.here hx rfl (hb hby at_125) rfl (l' := #[.val (.int i0), .val (.int (3 : Int32)), .val (.int (7 : Int32)), .val (.ref b166), .val (.ref b168), .val (.int f0_v62c), .val (.int f0_v69c), .val (.int f0_v76c), .val (.int f0_v83c), .val (.int f0_v90c), .val (.int f0_v97c), .val (.int f0_v104c), .val (.int f0_v111c), .val (.int f0_v118c), .val (.int f0_v125c), .unset, .unset]) rfl ?_
      refine XS.aload X200.here hx rfl (hb hby at_127) rfl rfl ?_
      exact k
    have f204 : Fld Z T200.heap b166 "com/example/bitmend/bitmend/PositionalColumns" "checkPositions" "[J" (.ref b167) := (f201.keep K200 (ninS ne_b166_b168 nin0))
    have f205 : AJ Z T200.heap b167 .long 13 (cp7_g28 ct7_g25l) := (f202.keep K200 (ninS ne_b167_b168 nin0))
    obtain ⟨cq203, kq203, q203a, q203b, q203c⟩ := isOf hZ rfl u200_0
    obtain ⟨_, _, ⟨T203, L203, k203, n203⟩, -, X203, ⟨Lc203, hQ203, l203, y203, z203⟩, st203⟩ := X200.virtualBack hx (y := (⟨"com/example/bitmend/bitmend/PositionalColumns$DataPositions", "next", "()I"⟩ : MethodName)) (z := (⟨"com/example/bitmend/bitmend/PositionalColumns$DataPositions", "next", "()I"⟩ : MethodName)) hown (mvT hZ (hw _ (List.mem_of_getElem? (i := 47) rfl))) (mvT hZ (hw _ (List.mem_of_getElem? (i := 48) rfl))) (notFace_of_selects (args := #[]) (mvT hZ (hw _ (List.mem_of_getElem? (i := 50) rfl)))) (mvT hZ (hw _ (List.mem_of_getElem? (i := 50) rfl))) (mvT hZ (hw _ (List.mem_of_getElem? (i := 49) rfl))) (by decide) (backOf (W := 0) (rmnx0 l Z a0 hw [] b168 (13 : Int32) (3 : Int32) ((cp7_g28 ct7_g25l) 3) b166 b167 13 (cp7_g28 ct7_g25l) T200.heap n0 u200_0 g_b168 u200_2 u200_3 u200_4 u200_1 f204 f205 ne_b166_b168 ne_b167_b168 (by decide +kernel)) hZ (hw _ (List.mem_of_getElem? (i := 51) rfl)) (hw _ (List.mem_of_getElem? (i := 33) rfl)) (by decide) (by decide)) q203a q203c (g := (mkF m 129 #[.val (.int i0), .val (.int (3 : Int32)), .val (.int (7 : Int32)), .val (.ref b166), .val (.ref b168), .val (.int f0_v62c), .val (.int f0_v69c), .val (.int f0_v76c), .val (.int f0_v83c), .val (.int f0_v90c), .val (.int f0_v97c), .val (.int f0_v104c), .val (.int f0_v111c), .val (.int f0_v118c), .val (.int f0_v125c), .unset, .unset] [(.ref b168)])) rfl (by rw [hml]; rfl) (Steps.refl _) (argsL := []) (rest := []) (lenOf pd_8 rfl) rfl (by show 2 * 0 + _ ≤ _; exact Nat.le_of_eq rfl) (hb hby at_129) (fun _ _ => ⟨rfl, rfl, (by decide : 4 + 0 ≤ _), (by decide : 52 + 0 ≤ _)⟩)
    dsimp only [Pt.U, Pt.locs, Pt.cells, Pt.slots] at X203 l203 y203 z203 st203 hQ203
    subst l203 y203 z203
    obtain ⟨rfl, N203q, K203, u203_0, u203_1, u203_2, u203_3, u203_4⟩ := hQ203
    have N203 := Fr.app N200 N203q
    obtain ⟨Lh203, X203, N203⟩ := hide X203 N203 (C := 4) (S := 52) (by decide) (by decide)
    refine Outs.to st203 ?_
    refine Outs.of (U' := T203.setTop (mkF m 136 #[.val (.int i0), .val (.int (3 : Int32)), .val (.int (7 : Int32)), .val (.ref b166), .val (.ref b168), .val (.int f0_v62c), .val (.int f0_v69c), .val (.int f0_v76c), .val (.int f0_v83c), .val (.int f0_v90c), .val (.int f0_v97c), .val (.int f0_v104c), .val (.int f0_v111c), .val (.int f0_v118c), .val (.int f0_v125c), .val (.int f0_v132c), .unset] [(.ref b168)])) (fun t k => ?_) ?_
    · refine XS.istore X203.here hx rfl (hb hby at_132) rfl (l' := #[.val (.int i0), .val (.int (3 : Int32)), .val (.int (7 : Int32)), .val (.ref b166), .val (.ref b168), .val (.int f0_v62c), .val (.int f0_v69c), .val (.int f0_v76c), .val (.int f0_v83c), .val (.int f0_v90c), .val (.int f0_v97c), .val (.int f0_v104c), .val (.int f0_v111c), .val (.int f0_v118c), .val (.int f0_v125c), .val (.int f0_v132c), .unset]) rfl ?_
      refine XS.aload X203.here hx rfl (hb hby at_134) rfl rfl ?_
      exact k
    have f207 : Fld Z T203.heap b166 "com/example/bitmend/bitmend/PositionalColumns" "checkPositions" "[J" (.ref b167) := (f204.keep K203 (ninS ne_b166_b168 nin0))
    have f208 : AJ Z T203.heap b167 .long 13 (cp7_g28 ct7_g25l) := (f205.keep K203 (ninS ne_b167_b168 nin0))
    obtain ⟨cq206, kq206, q206a, q206b, q206c⟩ := isOf hZ rfl u203_0
    obtain ⟨_, _, ⟨T206, L206, k206, n206⟩, -, X206, ⟨Lc206, hQ206, l206, y206, z206⟩, st206⟩ := X203.virtualBack hx (y := (⟨"com/example/bitmend/bitmend/PositionalColumns$DataPositions", "next", "()I"⟩ : MethodName)) (z := (⟨"com/example/bitmend/bitmend/PositionalColumns$DataPositions", "next", "()I"⟩ : MethodName)) hown (mvT hZ (hw _ (List.mem_of_getElem? (i := 47) rfl))) (mvT hZ (hw _ (List.mem_of_getElem? (i := 48) rfl))) (notFace_of_selects (args := #[]) (mvT hZ (hw _ (List.mem_of_getElem? (i := 50) rfl)))) (mvT hZ (hw _ (List.mem_of_getElem? (i := 50) rfl))) (mvT hZ (hw _ (List.mem_of_getElem? (i := 49) rfl))) (by decide) (backOf (W := 0) (rmnx0 l Z a0 hw [] b168 (14 : Int32) (3 : Int32) ((cp7_g28 ct7_g25l) 3) b166 b167 13 (cp7_g28 ct7_g25l) T203.heap n0 u203_0 g_b168 u203_2 u203_3 u203_4 u203_1 f207 f208 ne_b166_b168 ne_b167_b168 (by decide +kernel)) hZ (hw _ (List.mem_of_getElem? (i := 51) rfl)) (hw _ (List.mem_of_getElem? (i := 33) rfl)) (by decide) (by decide)) q206a q206c (g := (mkF m 136 #[.val (.int i0), .val (.int (3 : Int32)), .val (.int (7 : Int32)), .val (.ref b166), .val (.ref b168), .val (.int f0_v62c), .val (.int f0_v69c), .val (.int f0_v76c), .val (.int f0_v83c), .val (.int f0_v90c), .val (.int f0_v97c), .val (.int f0_v104c), .val (.int f0_v111c), .val (.int f0_v118c), .val (.int f0_v125c), .val (.int f0_v132c), .unset] [(.ref b168)])) rfl (by rw [hml]; rfl) (Steps.refl _) (argsL := []) (rest := []) (lenOf pd_8 rfl) rfl (by show 2 * 0 + _ ≤ _; exact Nat.le_of_eq rfl) (hb hby at_136) (fun _ _ => ⟨rfl, rfl, (by decide : 4 + 0 ≤ _), (by decide : 52 + 0 ≤ _)⟩)
    dsimp only [Pt.U, Pt.locs, Pt.cells, Pt.slots] at X206 l206 y206 z206 st206 hQ206
    subst l206 y206 z206
    obtain ⟨rfl, N206q, K206, u206_0, u206_1, u206_2, u206_3, u206_4⟩ := hQ206
    have N206 := Fr.app N203 N206q
    obtain ⟨Lh206, X206, N206⟩ := hide X206 N206 (C := 4) (S := 52) (by decide) (by decide)
    refine Outs.to st206 ?_
    refine Outs.of (U' := T206.setTop (mkF m 145 #[.val (.int i0), .val (.int (3 : Int32)), .val (.int (7 : Int32)), .val (.ref b166), .val (.ref b168), .val (.int f0_v62c), .val (.int f0_v69c), .val (.int f0_v76c), .val (.int f0_v83c), .val (.int f0_v90c), .val (.int f0_v97c), .val (.int f0_v104c), .val (.int f0_v111c), .val (.int f0_v118c), .val (.int f0_v125c), .val (.int f0_v132c), .val (.int f0_v139c)] [(.int (1 : Int32)), (.int (7 : Int32)), (.int f0_v62c)])) (fun t k => ?_) ?_
    · refine XS.istore X206.here hx rfl (hb hby at_139) rfl (l' := #[.val (.int i0), .val (.int (3 : Int32)), .val (.int (7 : Int32)), .val (.ref b166), .val (.ref b168), .val (.int f0_v62c), .val (.int f0_v69c), .val (.int f0_v76c), .val (.int f0_v83c), .val (.int f0_v90c), .val (.int f0_v97c), .val (.int f0_v104c), .val (.int f0_v111c), .val (.int f0_v118c), .val (.int f0_v125c), .val (.int f0_v132c), .val (.int f0_v139c)]) rfl ?_
      refine XS.iload X206.here hx rfl (hb hby at_141) rfl ?_
      refine XS.iloadN X206.here hx rfl (hb hby at_143) rfl ?_
      refine XS.iconst X206.here hx rfl (hb hby at_144) ?_
      exact k
    obtain ⟨_, _, ⟨T209, L209, k209, n209⟩, -, X209, ⟨Lc209, hQ209, l209, y209, z209⟩, st209⟩ := Jvm.LawKit.callS X206 hx (y := (⟨"com/example/bitmend/bitmend/DataPositionsNextPinLaw", "expected", "(II)I"⟩ : MethodName)) hown (mvT hZ (hw _ (List.mem_of_getElem? (i := 56) rfl))) (mvT hZ (hw _ (List.mem_of_getElem? (i := 57) rfl))) (mvT hZ (hw _ (List.mem_of_getElem? (i := 58) rfl))) (mvT hZ (hw _ (List.mem_of_getElem? (i := 59) rfl))) (by decide) (backOf (W := 1) (rm9 l Z a0 hw [] (7 : Int32) (1 : Int32) T206.heap n0 ) hZ (hw _ (List.mem_of_getElem? (i := 59) rfl)) (hw _ (List.mem_of_getElem? (i := 58) rfl)) (by decide) (by decide)) (g := (mkF m 145 #[.val (.int i0), .val (.int (3 : Int32)), .val (.int (7 : Int32)), .val (.ref b166), .val (.ref b168), .val (.int f0_v62c), .val (.int f0_v69c), .val (.int f0_v76c), .val (.int f0_v83c), .val (.int f0_v90c), .val (.int f0_v97c), .val (.int f0_v104c), .val (.int f0_v111c), .val (.int f0_v118c), .val (.int f0_v125c), .val (.int f0_v132c), .val (.int f0_v139c)] [(.int (1 : Int32)), (.int (7 : Int32)), (.int f0_v62c)])) rfl (by rw [hml]; rfl) (argsL := [(.int (7 : Int32)), (.int (1 : Int32))]) (rest := [(.int f0_v62c)]) (lenOf pd_4 rfl) rfl (by show 2 * 0 + _ ≤ _; exact Nat.le_of_eq rfl) (hb hby at_145) (fun _ _ => ⟨rfl, rfl, (by decide : 4 + 0 ≤ _), (by decide : 52 + 0 ≤ _)⟩)
    dsimp only [Pt.U, Pt.locs, Pt.cells, Pt.slots] at X209 l209 y209 z209 st209 hQ209
    subst l209 y209 z209
    obtain ⟨rfl, N209q, e209⟩ := hQ209
    have N209 := Fr.app N206 N209q
    obtain ⟨Lh209, X209, N209⟩ := hide X209 N209 (C := 4) (S := 52) (by decide) (by decide)
    refine Outs.of st209 ?_
    refine Outs.of (U' := T209.setTop (mkF m 155 #[.val (.int i0), .val (.int (3 : Int32)), .val (.int (7 : Int32)), .val (.ref b166), .val (.ref b168), .val (.int f0_v62c), .val (.int f0_v69c), .val (.int f0_v76c), .val (.int f0_v83c), .val (.int f0_v90c), .val (.int f0_v97c), .val (.int f0_v104c), .val (.int f0_v111c), .val (.int f0_v118c), .val (.int f0_v125c), .val (.int f0_v132c), .val (.int f0_v139c)] [(.int (2 : Int32)), (.int (7 : Int32)), (.int f0_v69c)])) (fun t k => ?_) ?_
    · refine XS.icmpNo X209.here hx rfl (hb hby at_148) rfl (teq (show f0_v62c = (F_f9 (7 : Int32) (1 : Int32)) from (by decide +kernel))).2 ?_
      refine XS.iload X209.here hx rfl (hb hby at_151) rfl ?_
      refine XS.iloadN X209.here hx rfl (hb hby at_153) rfl ?_
      refine XS.iconst X209.here hx rfl (hb hby at_154) ?_
      exact k
    obtain ⟨_, _, ⟨T210, L210, k210, n210⟩, -, X210, ⟨Lc210, hQ210, l210, y210, z210⟩, st210⟩ := Jvm.LawKit.callS X209 hx (y := (⟨"com/example/bitmend/bitmend/DataPositionsNextPinLaw", "expected", "(II)I"⟩ : MethodName)) hown (mvT hZ (hw _ (List.mem_of_getElem? (i := 56) rfl))) (mvT hZ (hw _ (List.mem_of_getElem? (i := 57) rfl))) (mvT hZ (hw _ (List.mem_of_getElem? (i := 58) rfl))) (mvT hZ (hw _ (List.mem_of_getElem? (i := 59) rfl))) (by decide) (backOf (W := 1) (rm9 l Z a0 hw [] (7 : Int32) (2 : Int32) T206.heap n0 ) hZ (hw _ (List.mem_of_getElem? (i := 59) rfl)) (hw _ (List.mem_of_getElem? (i := 58) rfl)) (by decide) (by decide)) (g := (mkF m 155 #[.val (.int i0), .val (.int (3 : Int32)), .val (.int (7 : Int32)), .val (.ref b166), .val (.ref b168), .val (.int f0_v62c), .val (.int f0_v69c), .val (.int f0_v76c), .val (.int f0_v83c), .val (.int f0_v90c), .val (.int f0_v97c), .val (.int f0_v104c), .val (.int f0_v111c), .val (.int f0_v118c), .val (.int f0_v125c), .val (.int f0_v132c), .val (.int f0_v139c)] [(.int (2 : Int32)), (.int (7 : Int32)), (.int f0_v69c)])) rfl (by rw [hml]; rfl) (argsL := [(.int (7 : Int32)), (.int (2 : Int32))]) (rest := [(.int f0_v69c)]) (lenOf pd_4 rfl) rfl (by show 2 * 0 + _ ≤ _; exact Nat.le_of_eq rfl) (hb hby at_155) (fun _ _ => ⟨rfl, e209, (by decide : 4 + 0 ≤ _), (by decide : 52 + 0 ≤ _)⟩)
    dsimp only [Pt.U, Pt.locs, Pt.cells, Pt.slots] at X210 l210 y210 z210 st210 hQ210
    subst l210 y210 z210
    obtain ⟨rfl, N210q, e210⟩ := hQ210
    have N210 := Fr.app N209 N210q
    obtain ⟨Lh210, X210, N210⟩ := hide X210 N210 (C := 4) (S := 52) (by decide) (by decide)
    refine Outs.of st210 ?_
    refine Outs.of (U' := T210.setTop (mkF m 165 #[.val (.int i0), .val (.int (3 : Int32)), .val (.int (7 : Int32)), .val (.ref b166), .val (.ref b168), .val (.int f0_v62c), .val (.int f0_v69c), .val (.int f0_v76c), .val (.int f0_v83c), .val (.int f0_v90c), .val (.int f0_v97c), .val (.int f0_v104c), .val (.int f0_v111c), .val (.int f0_v118c), .val (.int f0_v125c), .val (.int f0_v132c), .val (.int f0_v139c)] [(.int (3 : Int32)), (.int (7 : Int32)), (.int f0_v76c)])) (fun t k => ?_) ?_
    · refine XS.icmpNo X210.here hx rfl (hb hby at_158) rfl (teq (show f0_v69c = (F_f9 (7 : Int32) (2 : Int32)) from (by decide +kernel))).2 ?_
      refine XS.iload X210.here hx rfl (hb hby at_161) rfl ?_
      refine XS.iloadN X210.here hx rfl (hb hby at_163) rfl ?_
      refine XS.iconst X210.here hx rfl (hb hby at_164) ?_
      exact k
    obtain ⟨_, _, ⟨T211, L211, k211, n211⟩, -, X211, ⟨Lc211, hQ211, l211, y211, z211⟩, st211⟩ := Jvm.LawKit.callS X210 hx (y := (⟨"com/example/bitmend/bitmend/DataPositionsNextPinLaw", "expected", "(II)I"⟩ : MethodName)) hown (mvT hZ (hw _ (List.mem_of_getElem? (i := 56) rfl))) (mvT hZ (hw _ (List.mem_of_getElem? (i := 57) rfl))) (mvT hZ (hw _ (List.mem_of_getElem? (i := 58) rfl))) (mvT hZ (hw _ (List.mem_of_getElem? (i := 59) rfl))) (by decide) (backOf (W := 1) (rm9 l Z a0 hw [] (7 : Int32) (3 : Int32) T206.heap n0 ) hZ (hw _ (List.mem_of_getElem? (i := 59) rfl)) (hw _ (List.mem_of_getElem? (i := 58) rfl)) (by decide) (by decide)) (g := (mkF m 165 #[.val (.int i0), .val (.int (3 : Int32)), .val (.int (7 : Int32)), .val (.ref b166), .val (.ref b168), .val (.int f0_v62c), .val (.int f0_v69c), .val (.int f0_v76c), .val (.int f0_v83c), .val (.int f0_v90c), .val (.int f0_v97c), .val (.int f0_v104c), .val (.int f0_v111c), .val (.int f0_v118c), .val (.int f0_v125c), .val (.int f0_v132c), .val (.int f0_v139c)] [(.int (3 : Int32)), (.int (7 : Int32)), (.int f0_v76c)])) rfl (by rw [hml]; rfl) (argsL := [(.int (7 : Int32)), (.int (3 : Int32))]) (rest := [(.int f0_v76c)]) (lenOf pd_4 rfl) rfl (by show 2 * 0 + _ ≤ _; exact Nat.le_of_eq rfl) (hb hby at_165) (fun _ _ => ⟨rfl, e210, (by decide : 4 + 0 ≤ _), (by decide : 52 + 0 ≤ _)⟩)
    dsimp only [Pt.U, Pt.locs, Pt.cells, Pt.slots] at X211 l211 y211 z211 st211 hQ211
    subst l211 y211 z211
    obtain ⟨rfl, N211q, e211⟩ := hQ211
    have N211 := Fr.app N210 N211q
    obtain ⟨Lh211, X211, N211⟩ := hide X211 N211 (C := 4) (S := 52) (by decide) (by decide)
    refine Outs.of st211 ?_
    refine Outs.of (U' := T211.setTop (mkF m 175 #[.val (.int i0), .val (.int (3 : Int32)), .val (.int (7 : Int32)), .val (.ref b166), .val (.ref b168), .val (.int f0_v62c), .val (.int f0_v69c), .val (.int f0_v76c), .val (.int f0_v83c), .val (.int f0_v90c), .val (.int f0_v97c), .val (.int f0_v104c), .val (.int f0_v111c), .val (.int f0_v118c), .val (.int f0_v125c), .val (.int f0_v132c), .val (.int f0_v139c)] [(.int (4 : Int32)), (.int (7 : Int32)), (.int f0_v83c)])) (fun t k => ?_) ?_
    · refine XS.icmpNo X211.here hx rfl (hb hby at_168) rfl (teq (show f0_v76c = (F_f9 (7 : Int32) (3 : Int32)) from (by decide +kernel))).2 ?_
      refine XS.iload X211.here hx rfl (hb hby at_171) rfl ?_
      refine XS.iloadN X211.here hx rfl (hb hby at_173) rfl ?_
      refine XS.iconst X211.here hx rfl (hb hby at_174) ?_
      exact k
    obtain ⟨_, _, ⟨T212, L212, k212, n212⟩, -, X212, ⟨Lc212, hQ212, l212, y212, z212⟩, st212⟩ := Jvm.LawKit.callS X211 hx (y := (⟨"com/example/bitmend/bitmend/DataPositionsNextPinLaw", "expected", "(II)I"⟩ : MethodName)) hown (mvT hZ (hw _ (List.mem_of_getElem? (i := 56) rfl))) (mvT hZ (hw _ (List.mem_of_getElem? (i := 57) rfl))) (mvT hZ (hw _ (List.mem_of_getElem? (i := 58) rfl))) (mvT hZ (hw _ (List.mem_of_getElem? (i := 59) rfl))) (by decide) (backOf (W := 1) (rm9 l Z a0 hw [] (7 : Int32) (4 : Int32) T206.heap n0 ) hZ (hw _ (List.mem_of_getElem? (i := 59) rfl)) (hw _ (List.mem_of_getElem? (i := 58) rfl)) (by decide) (by decide)) (g := (mkF m 175 #[.val (.int i0), .val (.int (3 : Int32)), .val (.int (7 : Int32)), .val (.ref b166), .val (.ref b168), .val (.int f0_v62c), .val (.int f0_v69c), .val (.int f0_v76c), .val (.int f0_v83c), .val (.int f0_v90c), .val (.int f0_v97c), .val (.int f0_v104c), .val (.int f0_v111c), .val (.int f0_v118c), .val (.int f0_v125c), .val (.int f0_v132c), .val (.int f0_v139c)] [(.int (4 : Int32)), (.int (7 : Int32)), (.int f0_v83c)])) rfl (by rw [hml]; rfl) (argsL := [(.int (7 : Int32)), (.int (4 : Int32))]) (rest := [(.int f0_v83c)]) (lenOf pd_4 rfl) rfl (by show 2 * 0 + _ ≤ _; exact Nat.le_of_eq rfl) (hb hby at_175) (fun _ _ => ⟨rfl, e211, (by decide : 4 + 0 ≤ _), (by decide : 52 + 0 ≤ _)⟩)
    dsimp only [Pt.U, Pt.locs, Pt.cells, Pt.slots] at X212 l212 y212 z212 st212 hQ212
    subst l212 y212 z212
    obtain ⟨rfl, N212q, e212⟩ := hQ212
    have N212 := Fr.app N211 N212q
    obtain ⟨Lh212, X212, N212⟩ := hide X212 N212 (C := 4) (S := 52) (by decide) (by decide)
    refine Outs.of st212 ?_
    refine Outs.of (U' := T212.setTop (mkF m 185 #[.val (.int i0), .val (.int (3 : Int32)), .val (.int (7 : Int32)), .val (.ref b166), .val (.ref b168), .val (.int f0_v62c), .val (.int f0_v69c), .val (.int f0_v76c), .val (.int f0_v83c), .val (.int f0_v90c), .val (.int f0_v97c), .val (.int f0_v104c), .val (.int f0_v111c), .val (.int f0_v118c), .val (.int f0_v125c), .val (.int f0_v132c), .val (.int f0_v139c)] [(.int (5 : Int32)), (.int (7 : Int32)), (.int f0_v90c)])) (fun t k => ?_) ?_
    · refine XS.icmpNo X212.here hx rfl (hb hby at_178) rfl (teq (show f0_v83c = (F_f9 (7 : Int32) (4 : Int32)) from (by decide +kernel))).2 ?_
      refine XS.iload X212.here hx rfl (hb hby at_181) rfl ?_
      refine XS.iloadN X212.here hx rfl (hb hby at_183) rfl ?_
      refine XS.iconst X212.here hx rfl (hb hby at_184) ?_
      exact k
    obtain ⟨_, _, ⟨T213, L213, k213, n213⟩, -, X213, ⟨Lc213, hQ213, l213, y213, z213⟩, st213⟩ := Jvm.LawKit.callS X212 hx (y := (⟨"com/example/bitmend/bitmend/DataPositionsNextPinLaw", "expected", "(II)I"⟩ : MethodName)) hown (mvT hZ (hw _ (List.mem_of_getElem? (i := 56) rfl))) (mvT hZ (hw _ (List.mem_of_getElem? (i := 57) rfl))) (mvT hZ (hw _ (List.mem_of_getElem? (i := 58) rfl))) (mvT hZ (hw _ (List.mem_of_getElem? (i := 59) rfl))) (by decide) (backOf (W := 1) (rm9 l Z a0 hw [] (7 : Int32) (5 : Int32) T206.heap n0 ) hZ (hw _ (List.mem_of_getElem? (i := 59) rfl)) (hw _ (List.mem_of_getElem? (i := 58) rfl)) (by decide) (by decide)) (g := (mkF m 185 #[.val (.int i0), .val (.int (3 : Int32)), .val (.int (7 : Int32)), .val (.ref b166), .val (.ref b168), .val (.int f0_v62c), .val (.int f0_v69c), .val (.int f0_v76c), .val (.int f0_v83c), .val (.int f0_v90c), .val (.int f0_v97c), .val (.int f0_v104c), .val (.int f0_v111c), .val (.int f0_v118c), .val (.int f0_v125c), .val (.int f0_v132c), .val (.int f0_v139c)] [(.int (5 : Int32)), (.int (7 : Int32)), (.int f0_v90c)])) rfl (by rw [hml]; rfl) (argsL := [(.int (7 : Int32)), (.int (5 : Int32))]) (rest := [(.int f0_v90c)]) (lenOf pd_4 rfl) rfl (by show 2 * 0 + _ ≤ _; exact Nat.le_of_eq rfl) (hb hby at_185) (fun _ _ => ⟨rfl, e212, (by decide : 4 + 0 ≤ _), (by decide : 52 + 0 ≤ _)⟩)
    dsimp only [Pt.U, Pt.locs, Pt.cells, Pt.slots] at X213 l213 y213 z213 st213 hQ213
    subst l213 y213 z213
    obtain ⟨rfl, N213q, e213⟩ := hQ213
    have N213 := Fr.app N212 N213q
    obtain ⟨Lh213, X213, N213⟩ := hide X213 N213 (C := 4) (S := 52) (by decide) (by decide)
    refine Outs.of st213 ?_
    refine Outs.of (U' := T213.setTop (mkF m 196 #[.val (.int i0), .val (.int (3 : Int32)), .val (.int (7 : Int32)), .val (.ref b166), .val (.ref b168), .val (.int f0_v62c), .val (.int f0_v69c), .val (.int f0_v76c), .val (.int f0_v83c), .val (.int f0_v90c), .val (.int f0_v97c), .val (.int f0_v104c), .val (.int f0_v111c), .val (.int f0_v118c), .val (.int f0_v125c), .val (.int f0_v132c), .val (.int f0_v139c)] [(.int (6 : Int32)), (.int (7 : Int32)), (.int f0_v97c)])) (fun t k => ?_) ?_
    · refine XS.icmpNo X213.here hx rfl (hb hby at_188) rfl (teq (show f0_v90c = (F_f9 (7 : Int32) (5 : Int32)) from (by decide +kernel))).2 ?_
      refine XS.iload X213.here hx rfl (hb hby at_191) rfl ?_
      refine XS.iloadN X213.here hx rfl (hb hby at_193) rfl ?_
      refine XS.bipush X213.here hx rfl (hb hby at_194) ?_
      exact k
    obtain ⟨_, _, ⟨T214, L214, k214, n214⟩, -, X214, ⟨Lc214, hQ214, l214, y214, z214⟩, st214⟩ := Jvm.LawKit.callS X213 hx (y := (⟨"com/example/bitmend/bitmend/DataPositionsNextPinLaw", "expected", "(II)I"⟩ : MethodName)) hown (mvT hZ (hw _ (List.mem_of_getElem? (i := 56) rfl))) (mvT hZ (hw _ (List.mem_of_getElem? (i := 57) rfl))) (mvT hZ (hw _ (List.mem_of_getElem? (i := 58) rfl))) (mvT hZ (hw _ (List.mem_of_getElem? (i := 59) rfl))) (by decide) (backOf (W := 1) (rm9 l Z a0 hw [] (7 : Int32) (6 : Int32) T206.heap n0 ) hZ (hw _ (List.mem_of_getElem? (i := 59) rfl)) (hw _ (List.mem_of_getElem? (i := 58) rfl)) (by decide) (by decide)) (g := (mkF m 196 #[.val (.int i0), .val (.int (3 : Int32)), .val (.int (7 : Int32)), .val (.ref b166), .val (.ref b168), .val (.int f0_v62c), .val (.int f0_v69c), .val (.int f0_v76c), .val (.int f0_v83c), .val (.int f0_v90c), .val (.int f0_v97c), .val (.int f0_v104c), .val (.int f0_v111c), .val (.int f0_v118c), .val (.int f0_v125c), .val (.int f0_v132c), .val (.int f0_v139c)] [(.int (6 : Int32)), (.int (7 : Int32)), (.int f0_v97c)])) rfl (by rw [hml]; rfl) (argsL := [(.int (7 : Int32)), (.int (6 : Int32))]) (rest := [(.int f0_v97c)]) (lenOf pd_4 rfl) rfl (by show 2 * 0 + _ ≤ _; exact Nat.le_of_eq rfl) (hb hby at_196) (fun _ _ => ⟨rfl, e213, (by decide : 4 + 0 ≤ _), (by decide : 52 + 0 ≤ _)⟩)
    dsimp only [Pt.U, Pt.locs, Pt.cells, Pt.slots] at X214 l214 y214 z214 st214 hQ214
    subst l214 y214 z214
    obtain ⟨rfl, N214q, e214⟩ := hQ214
    have N214 := Fr.app N213 N214q
    obtain ⟨Lh214, X214, N214⟩ := hide X214 N214 (C := 4) (S := 52) (by decide) (by decide)
    refine Outs.of st214 ?_
    refine Outs.of (U' := T214.setTop (mkF m 207 #[.val (.int i0), .val (.int (3 : Int32)), .val (.int (7 : Int32)), .val (.ref b166), .val (.ref b168), .val (.int f0_v62c), .val (.int f0_v69c), .val (.int f0_v76c), .val (.int f0_v83c), .val (.int f0_v90c), .val (.int f0_v97c), .val (.int f0_v104c), .val (.int f0_v111c), .val (.int f0_v118c), .val (.int f0_v125c), .val (.int f0_v132c), .val (.int f0_v139c)] [(.int (7 : Int32)), (.int (7 : Int32)), (.int f0_v104c)])) (fun t k => ?_) ?_
    · refine XS.icmpNo X214.here hx rfl (hb hby at_199) rfl (teq (show f0_v97c = (F_f9 (7 : Int32) (6 : Int32)) from (by decide +kernel))).2 ?_
      refine XS.iload X214.here hx rfl (hb hby at_202) rfl ?_
      refine XS.iloadN X214.here hx rfl (hb hby at_204) rfl ?_
      refine XS.bipush X214.here hx rfl (hb hby at_205) ?_
      exact k
    obtain ⟨_, _, ⟨T215, L215, k215, n215⟩, -, X215, ⟨Lc215, hQ215, l215, y215, z215⟩, st215⟩ := Jvm.LawKit.callS X214 hx (y := (⟨"com/example/bitmend/bitmend/DataPositionsNextPinLaw", "expected", "(II)I"⟩ : MethodName)) hown (mvT hZ (hw _ (List.mem_of_getElem? (i := 56) rfl))) (mvT hZ (hw _ (List.mem_of_getElem? (i := 57) rfl))) (mvT hZ (hw _ (List.mem_of_getElem? (i := 58) rfl))) (mvT hZ (hw _ (List.mem_of_getElem? (i := 59) rfl))) (by decide) (backOf (W := 1) (rm9 l Z a0 hw [] (7 : Int32) (7 : Int32) T206.heap n0 ) hZ (hw _ (List.mem_of_getElem? (i := 59) rfl)) (hw _ (List.mem_of_getElem? (i := 58) rfl)) (by decide) (by decide)) (g := (mkF m 207 #[.val (.int i0), .val (.int (3 : Int32)), .val (.int (7 : Int32)), .val (.ref b166), .val (.ref b168), .val (.int f0_v62c), .val (.int f0_v69c), .val (.int f0_v76c), .val (.int f0_v83c), .val (.int f0_v90c), .val (.int f0_v97c), .val (.int f0_v104c), .val (.int f0_v111c), .val (.int f0_v118c), .val (.int f0_v125c), .val (.int f0_v132c), .val (.int f0_v139c)] [(.int (7 : Int32)), (.int (7 : Int32)), (.int f0_v104c)])) rfl (by rw [hml]; rfl) (argsL := [(.int (7 : Int32)), (.int (7 : Int32))]) (rest := [(.int f0_v104c)]) (lenOf pd_4 rfl) rfl (by show 2 * 0 + _ ≤ _; exact Nat.le_of_eq rfl) (hb hby at_207) (fun _ _ => ⟨rfl, e214, (by decide : 4 + 0 ≤ _), (by decide : 52 + 0 ≤ _)⟩)
    dsimp only [Pt.U, Pt.locs, Pt.cells, Pt.slots] at X215 l215 y215 z215 st215 hQ215
    subst l215 y215 z215
    obtain ⟨rfl, N215q, e215⟩ := hQ215
    have N215 := Fr.app N214 N215q
    obtain ⟨Lh215, X215, N215⟩ := hide X215 N215 (C := 4) (S := 52) (by decide) (by decide)
    refine Outs.of st215 ?_
    refine Outs.of (U' := T215.setTop (mkF m 218 #[.val (.int i0), .val (.int (3 : Int32)), .val (.int (7 : Int32)), .val (.ref b166), .val (.ref b168), .val (.int f0_v62c), .val (.int f0_v69c), .val (.int f0_v76c), .val (.int f0_v83c), .val (.int f0_v90c), .val (.int f0_v97c), .val (.int f0_v104c), .val (.int f0_v111c), .val (.int f0_v118c), .val (.int f0_v125c), .val (.int f0_v132c), .val (.int f0_v139c)] [(.int (8 : Int32)), (.int (7 : Int32)), (.int f0_v111c)])) (fun t k => ?_) ?_
    · refine XS.icmpNo X215.here hx rfl (hb hby at_210) rfl (teq (show f0_v104c = (F_f9 (7 : Int32) (7 : Int32)) from (by decide +kernel))).2 ?_
      refine XS.iload X215.here hx rfl (hb hby at_213) rfl ?_
      refine XS.iloadN X215.here hx rfl (hb hby at_215) rfl ?_
      refine XS.bipush X215.here hx rfl (hb hby at_216) ?_
      exact k
    obtain ⟨_, _, ⟨T216, L216, k216, n216⟩, -, X216, ⟨Lc216, hQ216, l216, y216, z216⟩, st216⟩ := Jvm.LawKit.callS X215 hx (y := (⟨"com/example/bitmend/bitmend/DataPositionsNextPinLaw", "expected", "(II)I"⟩ : MethodName)) hown (mvT hZ (hw _ (List.mem_of_getElem? (i := 56) rfl))) (mvT hZ (hw _ (List.mem_of_getElem? (i := 57) rfl))) (mvT hZ (hw _ (List.mem_of_getElem? (i := 58) rfl))) (mvT hZ (hw _ (List.mem_of_getElem? (i := 59) rfl))) (by decide) (backOf (W := 1) (rm9 l Z a0 hw [] (7 : Int32) (8 : Int32) T206.heap n0 ) hZ (hw _ (List.mem_of_getElem? (i := 59) rfl)) (hw _ (List.mem_of_getElem? (i := 58) rfl)) (by decide) (by decide)) (g := (mkF m 218 #[.val (.int i0), .val (.int (3 : Int32)), .val (.int (7 : Int32)), .val (.ref b166), .val (.ref b168), .val (.int f0_v62c), .val (.int f0_v69c), .val (.int f0_v76c), .val (.int f0_v83c), .val (.int f0_v90c), .val (.int f0_v97c), .val (.int f0_v104c), .val (.int f0_v111c), .val (.int f0_v118c), .val (.int f0_v125c), .val (.int f0_v132c), .val (.int f0_v139c)] [(.int (8 : Int32)), (.int (7 : Int32)), (.int f0_v111c)])) rfl (by rw [hml]; rfl) (argsL := [(.int (7 : Int32)), (.int (8 : Int32))]) (rest := [(.int f0_v111c)]) (lenOf pd_4 rfl) rfl (by show 2 * 0 + _ ≤ _; exact Nat.le_of_eq rfl) (hb hby at_218) (fun _ _ => ⟨rfl, e215, (by decide : 4 + 0 ≤ _), (by decide : 52 + 0 ≤ _)⟩)
    dsimp only [Pt.U, Pt.locs, Pt.cells, Pt.slots] at X216 l216 y216 z216 st216 hQ216
    subst l216 y216 z216
    obtain ⟨rfl, N216q, e216⟩ := hQ216
    have N216 := Fr.app N215 N216q
    obtain ⟨Lh216, X216, N216⟩ := hide X216 N216 (C := 4) (S := 52) (by decide) (by decide)
    refine Outs.of st216 ?_
    refine Outs.of (U' := T216.setTop (mkF m 229 #[.val (.int i0), .val (.int (3 : Int32)), .val (.int (7 : Int32)), .val (.ref b166), .val (.ref b168), .val (.int f0_v62c), .val (.int f0_v69c), .val (.int f0_v76c), .val (.int f0_v83c), .val (.int f0_v90c), .val (.int f0_v97c), .val (.int f0_v104c), .val (.int f0_v111c), .val (.int f0_v118c), .val (.int f0_v125c), .val (.int f0_v132c), .val (.int f0_v139c)] [(.int (9 : Int32)), (.int (7 : Int32)), (.int f0_v118c)])) (fun t k => ?_) ?_
    · refine XS.icmpNo X216.here hx rfl (hb hby at_221) rfl (teq (show f0_v111c = (F_f9 (7 : Int32) (8 : Int32)) from (by decide +kernel))).2 ?_
      refine XS.iload X216.here hx rfl (hb hby at_224) rfl ?_
      refine XS.iloadN X216.here hx rfl (hb hby at_226) rfl ?_
      refine XS.bipush X216.here hx rfl (hb hby at_227) ?_
      exact k
    obtain ⟨_, _, ⟨T217, L217, k217, n217⟩, -, X217, ⟨Lc217, hQ217, l217, y217, z217⟩, st217⟩ := Jvm.LawKit.callS X216 hx (y := (⟨"com/example/bitmend/bitmend/DataPositionsNextPinLaw", "expected", "(II)I"⟩ : MethodName)) hown (mvT hZ (hw _ (List.mem_of_getElem? (i := 56) rfl))) (mvT hZ (hw _ (List.mem_of_getElem? (i := 57) rfl))) (mvT hZ (hw _ (List.mem_of_getElem? (i := 58) rfl))) (mvT hZ (hw _ (List.mem_of_getElem? (i := 59) rfl))) (by decide) (backOf (W := 1) (rm9 l Z a0 hw [] (7 : Int32) (9 : Int32) T206.heap n0 ) hZ (hw _ (List.mem_of_getElem? (i := 59) rfl)) (hw _ (List.mem_of_getElem? (i := 58) rfl)) (by decide) (by decide)) (g := (mkF m 229 #[.val (.int i0), .val (.int (3 : Int32)), .val (.int (7 : Int32)), .val (.ref b166), .val (.ref b168), .val (.int f0_v62c), .val (.int f0_v69c), .val (.int f0_v76c), .val (.int f0_v83c), .val (.int f0_v90c), .val (.int f0_v97c), .val (.int f0_v104c), .val (.int f0_v111c), .val (.int f0_v118c), .val (.int f0_v125c), .val (.int f0_v132c), .val (.int f0_v139c)] [(.int (9 : Int32)), (.int (7 : Int32)), (.int f0_v118c)])) rfl (by rw [hml]; rfl) (argsL := [(.int (7 : Int32)), (.int (9 : Int32))]) (rest := [(.int f0_v118c)]) (lenOf pd_4 rfl) rfl (by show 2 * 0 + _ ≤ _; exact Nat.le_of_eq rfl) (hb hby at_229) (fun _ _ => ⟨rfl, e216, (by decide : 4 + 0 ≤ _), (by decide : 52 + 0 ≤ _)⟩)
    dsimp only [Pt.U, Pt.locs, Pt.cells, Pt.slots] at X217 l217 y217 z217 st217 hQ217
    subst l217 y217 z217
    obtain ⟨rfl, N217q, e217⟩ := hQ217
    have N217 := Fr.app N216 N217q
    obtain ⟨Lh217, X217, N217⟩ := hide X217 N217 (C := 4) (S := 52) (by decide) (by decide)
    refine Outs.of st217 ?_
    refine Outs.of (U' := T217.setTop (mkF m 240 #[.val (.int i0), .val (.int (3 : Int32)), .val (.int (7 : Int32)), .val (.ref b166), .val (.ref b168), .val (.int f0_v62c), .val (.int f0_v69c), .val (.int f0_v76c), .val (.int f0_v83c), .val (.int f0_v90c), .val (.int f0_v97c), .val (.int f0_v104c), .val (.int f0_v111c), .val (.int f0_v118c), .val (.int f0_v125c), .val (.int f0_v132c), .val (.int f0_v139c)] [(.int (10 : Int32)), (.int (7 : Int32)), (.int f0_v125c)])) (fun t k => ?_) ?_
    · refine XS.icmpNo X217.here hx rfl (hb hby at_232) rfl (teq (show f0_v118c = (F_f9 (7 : Int32) (9 : Int32)) from (by decide +kernel))).2 ?_
      refine XS.iload X217.here hx rfl (hb hby at_235) rfl ?_
      refine XS.iloadN X217.here hx rfl (hb hby at_237) rfl ?_
      refine XS.bipush X217.here hx rfl (hb hby at_238) ?_
      exact k
    obtain ⟨_, _, ⟨T218, L218, k218, n218⟩, -, X218, ⟨Lc218, hQ218, l218, y218, z218⟩, st218⟩ := Jvm.LawKit.callS X217 hx (y := (⟨"com/example/bitmend/bitmend/DataPositionsNextPinLaw", "expected", "(II)I"⟩ : MethodName)) hown (mvT hZ (hw _ (List.mem_of_getElem? (i := 56) rfl))) (mvT hZ (hw _ (List.mem_of_getElem? (i := 57) rfl))) (mvT hZ (hw _ (List.mem_of_getElem? (i := 58) rfl))) (mvT hZ (hw _ (List.mem_of_getElem? (i := 59) rfl))) (by decide) (backOf (W := 1) (rm9 l Z a0 hw [] (7 : Int32) (10 : Int32) T206.heap n0 ) hZ (hw _ (List.mem_of_getElem? (i := 59) rfl)) (hw _ (List.mem_of_getElem? (i := 58) rfl)) (by decide) (by decide)) (g := (mkF m 240 #[.val (.int i0), .val (.int (3 : Int32)), .val (.int (7 : Int32)), .val (.ref b166), .val (.ref b168), .val (.int f0_v62c), .val (.int f0_v69c), .val (.int f0_v76c), .val (.int f0_v83c), .val (.int f0_v90c), .val (.int f0_v97c), .val (.int f0_v104c), .val (.int f0_v111c), .val (.int f0_v118c), .val (.int f0_v125c), .val (.int f0_v132c), .val (.int f0_v139c)] [(.int (10 : Int32)), (.int (7 : Int32)), (.int f0_v125c)])) rfl (by rw [hml]; rfl) (argsL := [(.int (7 : Int32)), (.int (10 : Int32))]) (rest := [(.int f0_v125c)]) (lenOf pd_4 rfl) rfl (by show 2 * 0 + _ ≤ _; exact Nat.le_of_eq rfl) (hb hby at_240) (fun _ _ => ⟨rfl, e217, (by decide : 4 + 0 ≤ _), (by decide : 52 + 0 ≤ _)⟩)
    dsimp only [Pt.U, Pt.locs, Pt.cells, Pt.slots] at X218 l218 y218 z218 st218 hQ218
    subst l218 y218 z218
    obtain ⟨rfl, N218q, e218⟩ := hQ218
    have N218 := Fr.app N217 N218q
    obtain ⟨Lh218, X218, N218⟩ := hide X218 N218 (C := 4) (S := 52) (by decide) (by decide)
    refine Outs.of st218 ?_
    refine Outs.of (U' := T218.setTop (mkF m 251 #[.val (.int i0), .val (.int (3 : Int32)), .val (.int (7 : Int32)), .val (.ref b166), .val (.ref b168), .val (.int f0_v62c), .val (.int f0_v69c), .val (.int f0_v76c), .val (.int f0_v83c), .val (.int f0_v90c), .val (.int f0_v97c), .val (.int f0_v104c), .val (.int f0_v111c), .val (.int f0_v118c), .val (.int f0_v125c), .val (.int f0_v132c), .val (.int f0_v139c)] [(.int (11 : Int32)), (.int (7 : Int32)), (.int f0_v132c)])) (fun t k => ?_) ?_
    · refine XS.icmpNo X218.here hx rfl (hb hby at_243) rfl (teq (show f0_v125c = (F_f9 (7 : Int32) (10 : Int32)) from (by decide +kernel))).2 ?_
      refine XS.iload X218.here hx rfl (hb hby at_246) rfl ?_
      refine XS.iloadN X218.here hx rfl (hb hby at_248) rfl ?_
      refine XS.bipush X218.here hx rfl (hb hby at_249) ?_
      exact k
    obtain ⟨_, _, ⟨T219, L219, k219, n219⟩, -, X219, ⟨Lc219, hQ219, l219, y219, z219⟩, st219⟩ := Jvm.LawKit.callS X218 hx (y := (⟨"com/example/bitmend/bitmend/DataPositionsNextPinLaw", "expected", "(II)I"⟩ : MethodName)) hown (mvT hZ (hw _ (List.mem_of_getElem? (i := 56) rfl))) (mvT hZ (hw _ (List.mem_of_getElem? (i := 57) rfl))) (mvT hZ (hw _ (List.mem_of_getElem? (i := 58) rfl))) (mvT hZ (hw _ (List.mem_of_getElem? (i := 59) rfl))) (by decide) (backOf (W := 1) (rm9 l Z a0 hw [] (7 : Int32) (11 : Int32) T206.heap n0 ) hZ (hw _ (List.mem_of_getElem? (i := 59) rfl)) (hw _ (List.mem_of_getElem? (i := 58) rfl)) (by decide) (by decide)) (g := (mkF m 251 #[.val (.int i0), .val (.int (3 : Int32)), .val (.int (7 : Int32)), .val (.ref b166), .val (.ref b168), .val (.int f0_v62c), .val (.int f0_v69c), .val (.int f0_v76c), .val (.int f0_v83c), .val (.int f0_v90c), .val (.int f0_v97c), .val (.int f0_v104c), .val (.int f0_v111c), .val (.int f0_v118c), .val (.int f0_v125c), .val (.int f0_v132c), .val (.int f0_v139c)] [(.int (11 : Int32)), (.int (7 : Int32)), (.int f0_v132c)])) rfl (by rw [hml]; rfl) (argsL := [(.int (7 : Int32)), (.int (11 : Int32))]) (rest := [(.int f0_v132c)]) (lenOf pd_4 rfl) rfl (by show 2 * 0 + _ ≤ _; exact Nat.le_of_eq rfl) (hb hby at_251) (fun _ _ => ⟨rfl, e218, (by decide : 4 + 0 ≤ _), (by decide : 52 + 0 ≤ _)⟩)
    dsimp only [Pt.U, Pt.locs, Pt.cells, Pt.slots] at X219 l219 y219 z219 st219 hQ219
    subst l219 y219 z219
    obtain ⟨rfl, N219q, e219⟩ := hQ219
    have N219 := Fr.app N218 N219q
    obtain ⟨Lh219, X219, N219⟩ := hide X219 N219 (C := 4) (S := 52) (by decide) (by decide)
    refine Outs.of st219 ?_
    refine Outs.of (U' := T219.setTop (mkF m 262 #[.val (.int i0), .val (.int (3 : Int32)), .val (.int (7 : Int32)), .val (.ref b166), .val (.ref b168), .val (.int f0_v62c), .val (.int f0_v69c), .val (.int f0_v76c), .val (.int f0_v83c), .val (.int f0_v90c), .val (.int f0_v97c), .val (.int f0_v104c), .val (.int f0_v111c), .val (.int f0_v118c), .val (.int f0_v125c), .val (.int f0_v132c), .val (.int f0_v139c)] [(.int (12 : Int32)), (.int (7 : Int32)), (.int f0_v139c)])) (fun t k => ?_) ?_
    · refine XS.icmpNo X219.here hx rfl (hb hby at_254) rfl (teq (show f0_v132c = (F_f9 (7 : Int32) (11 : Int32)) from (by decide +kernel))).2 ?_
      refine XS.iload X219.here hx rfl (hb hby at_257) rfl ?_
      refine XS.iloadN X219.here hx rfl (hb hby at_259) rfl ?_
      refine XS.bipush X219.here hx rfl (hb hby at_260) ?_
      exact k
    obtain ⟨_, _, ⟨T220, L220, k220, n220⟩, -, X220, ⟨Lc220, hQ220, l220, y220, z220⟩, st220⟩ := Jvm.LawKit.callS X219 hx (y := (⟨"com/example/bitmend/bitmend/DataPositionsNextPinLaw", "expected", "(II)I"⟩ : MethodName)) hown (mvT hZ (hw _ (List.mem_of_getElem? (i := 56) rfl))) (mvT hZ (hw _ (List.mem_of_getElem? (i := 57) rfl))) (mvT hZ (hw _ (List.mem_of_getElem? (i := 58) rfl))) (mvT hZ (hw _ (List.mem_of_getElem? (i := 59) rfl))) (by decide) (backOf (W := 1) (rm9 l Z a0 hw [] (7 : Int32) (12 : Int32) T206.heap n0 ) hZ (hw _ (List.mem_of_getElem? (i := 59) rfl)) (hw _ (List.mem_of_getElem? (i := 58) rfl)) (by decide) (by decide)) (g := (mkF m 262 #[.val (.int i0), .val (.int (3 : Int32)), .val (.int (7 : Int32)), .val (.ref b166), .val (.ref b168), .val (.int f0_v62c), .val (.int f0_v69c), .val (.int f0_v76c), .val (.int f0_v83c), .val (.int f0_v90c), .val (.int f0_v97c), .val (.int f0_v104c), .val (.int f0_v111c), .val (.int f0_v118c), .val (.int f0_v125c), .val (.int f0_v132c), .val (.int f0_v139c)] [(.int (12 : Int32)), (.int (7 : Int32)), (.int f0_v139c)])) rfl (by rw [hml]; rfl) (argsL := [(.int (7 : Int32)), (.int (12 : Int32))]) (rest := [(.int f0_v139c)]) (lenOf pd_4 rfl) rfl (by show 2 * 0 + _ ≤ _; exact Nat.le_of_eq rfl) (hb hby at_262) (fun _ _ => ⟨rfl, e219, (by decide : 4 + 0 ≤ _), (by decide : 52 + 0 ≤ _)⟩)
    dsimp only [Pt.U, Pt.locs, Pt.cells, Pt.slots] at X220 l220 y220 z220 st220 hQ220
    subst l220 y220 z220
    obtain ⟨rfl, N220q, e220⟩ := hQ220
    have N220 := Fr.app N219 N220q
    obtain ⟨Lh220, X220, N220⟩ := hide X220 N220 (C := 4) (S := 52) (by decide) (by decide)
    refine Outs.of st220 ?_
    refine Outs.of (U' := T220.setTop (mkF m 273 #[.val (.int i0), .val (.int (3 : Int32)), .val (.int (7 : Int32)), .val (.ref b166), .val (.ref b168), .val (.int f0_v62c), .val (.int f0_v69c), .val (.int f0_v76c), .val (.int f0_v83c), .val (.int f0_v90c), .val (.int f0_v97c), .val (.int f0_v104c), .val (.int f0_v111c), .val (.int f0_v118c), .val (.int f0_v125c), .val (.int f0_v132c), .val (.int f0_v139c)] [(.int (1 : Int32))])) (fun t k => ?_) ?_
    · refine XS.icmpNo X220.here hx rfl (hb hby at_265) rfl (teq (show f0_v139c = (F_f9 (7 : Int32) (12 : Int32)) from (by decide +kernel))).2 ?_
      refine XS.iconst X220.here hx rfl (hb hby at_268) ?_
      refine XS.goto X220.here hx rfl (pc0 := 269) (pc' := 273) rfl (hb hby at_269) (by decide) (by decide) ?_
      exact k
    exact Outs.retN (t := .boolean) (z := (1 : Int32)) X220 hx hret (by simp) (hb hby at_273) hlk (by decide) (by decide) e220 ⟨rfl, N220⟩
set_option maxRecDepth 65536 in
set_option maxHeartbeats 40000000 in
theorem comes_1 {Post : Tables → Env → Array Value → State → Outcome → State → Prop} (hpost : ∀ tb e args s v u, (limb_1_1.after args s (.returned v) u = true ∧ limb_1_2.after args s (.returned v) u = true ∧ True) → FrameEnd s (.returned v) u (Jvm.fieldLocs frame_1_writes args s ++ Jvm.arrayLocs frame_1_arrays args s ++ Jvm.staticLocs frame_1_statics s) 16 256 → Post tb e args s (.returned v) u) :
    ArmFor flags0 classFile x code maxLocals ret World_1 tables_1 room_1 Calls_1 rest_1 Pre_1 Post := by
  intro l hfl _ _ p e ha hc hk s m args below hf hA hF happ hP
  obtain ⟨hcalls, hrest, hpre⟩ := hP
  obtain ⟨-, -, -, hnamed, -, -, -, hat⟩ := (Spec.applies_iff hf).mp happ
  obtain ⟨hg, hn⟩ := and_e (Cond.before_iff.mp (show (Jvm.Cond.and given_1 narrow_1).before args s = true from hpre))
  obtain ⟨g1, g2⟩ := and_e hg
  obtain ⟨w0, rfl⟩ : ∃ w0 : Value, args = #[w0] := by
    have hs : args.size = 1 := by simpa [Cond.value, given_1] using g1
    obtain ⟨L⟩ := args
    match L, hs with
    | [w0], _ => exact ⟨w0, rfl⟩
  have hw := fun d (hd : d ∈ tables_1) => atoms_spec (ws := Jvm.Cond.code x code maxLocals ret :: tables_1) hat d (List.mem_cons_of_mem _ hd)
  obtain ⟨i0, ei0⟩ := is_v g2
  obtain rfl : w0 = (.int i0) := Option.some.inj ei0
  obtain ⟨n, o, h1, h2, h3, v, L, rfl, hQ0, hq⟩ := rm0 l s _ hw tables_1 i0 s.heap s.heap.size (Nat.le_refl _) p e ha hc hk s m _ below hf ((Spec.applies_iff_loose hf).mp happ).1 ⟨rfl, State.Warmed39.refl s, rfl⟩ trivial
  obtain ⟨rfl, N⟩ : v = some (.int 1) ∧ Fr s.heap.size L := hQ0
  refine ⟨n, _, h1, h2, h3, hpost _ _ _ _ _ _ ⟨Cond.after_iff.mpr rfl, Cond.after_iff.mpr (eq_i res_at (Term.int_eval (1)) rfl), trivial⟩ ⟨hq.1, hq.2.1, (hq.2.2.sift fun y hy => Or.inr (N y hy)).mono (by decide) (by decide)⟩⟩
theorem main_1_1 : Claimed_1_1 := comes_1 fun _ _ _ _ _ _ h hF => ⟨h.1, hF⟩
theorem main_1_2 : Claimed_1_2 := comes_1 fun _ _ _ _ _ _ h hF => ⟨h.2.1, hF⟩
end Jvm.Pilot.@@N@@
namespace Jvm.Pilot.@@N@@
open Jvm Jvm.ClassFile Sem Op Lib Jvm.Free Jvm.Stand Jvm.Pilot.@@N@@.Jvm.D
/-! MADE BY PROGRAM (witnessworld.py) out of the Statement's table words and the real class files: 17 classes; the members and pool entries that the words name. The judged class is class 1, her method 2. -/
namespace start1
open Jvm.ClassFile
def u (s : String) : CpInfo := .utf8 (stringToUtf16 s)
/-- a pool by its gaps: so many unusable entries, then the entry; so many at the end -/
def gap : Nat → List CpInfo → List CpInfo
  | 0, r => r
  | n + 1, r => .unusable :: gap n r
def poolList (es : List (Nat × CpInfo)) (last : Nat) : List CpInfo := es.foldr (fun e r => gap e.1 (e.2 :: r)) (gap last [])
def pool (es : List (Nat × CpInfo)) (last : Nat) : Array CpInfo := ⟨poolList es last⟩
def fileOf (pool : Array CpInfo) (this : Nat) (attrs : Array Attribute := #[]) (ms : Array MethodInfo := #[]) (fl : Nat := 33) (sup : Nat := 0) (ifs : Array Nat := #[]) (fds : Array FieldInfo := #[]) : ClassFile where
  minorVersion := 0
  majorVersion := 65
  constantPool := pool
  accessFlags := fl
  thisClass := this
  superClass := sup
  interfaces := ifs
  fields := fds
  methods := ms
  attributes := attrs
def plain (name : String) (sup : Option ClassId) : Class where
  name := name
  kind := .ordinary
  loader := none
  accessFlags := 33
  super := sup
  interfaces := #[]
  cf := none
  fields := #[]
  methods := #[]
  instanceTypes := #[]
  staticTypes := #[]
  resolved := #[]
  callSites := []
  init := .initialized
  statics := none
  mirror := none

def pool0 : Array CpInfo := pool [(5, u "<init>"), (0, u "()V"), (1, .class_ 10), (1, u "java/lang/Object")] 113

def k0c0 : Code := { maxStack := 0, maxLocals := 1, code := object_method_1_code, exceptionTable := #[], attributes := #[] }
def k0m0 : Method := { name := "<init>", desc := "()V", sig := { parameters := [], returnType := none }, accessFlags := 1, code := some k0c0 }
/-- java/lang/Object -/
def k0 : Class := { plain "java/lang/Object" none with
  accessFlags := 33
  interfaces := #[]
  cf := some (fileOf pool0 8 #[] #[{ accessFlags := 1, nameIndex := 5, descriptorIndex := 6, attributes := #[] }] 33 0 #[] #[])
  fields := #[]
  methods := #[k0m0]
  instanceTypes := #[]
  staticTypes := #[]
  resolved := Array.replicate 124 none
  statics := none }

def pool1 : Array CpInfo := pool [(2, .class_ 4), (1, u "java/lang/Object"), (0, u "<init>"), (0, u "()V"), (0, .class_ 8), (0, u "com/example/bitmend/bitmend/PositionalColumns"), (0, .methodref 7 10), (0, .nameAndType 5 11), (0, u "(I)V"), (0, .class_ 13), (0, u "com/example/bitmend/bitmend/PositionalColumns$DataPositions"), (0, .methodref 15 16), (0, .class_ 17), (0, .nameAndType 18 19), (0, u "java/util/Objects"), (0, u "requireNonNull"), (0, u "(Ljava/lang/Object;)Ljava/lang/Object;"), (0, .methodref 12 21), (0, .nameAndType 5 22), (0, u "(Lcom/example/bitmend/bitmend/PositionalColumns;)V"), (0, .methodref 12 24), (0, .nameAndType 25 26), (0, u "next"), (0, u "()I"), (0, .methodref 28 29), (0, .class_ 30), (0, .nameAndType 31 32), (0, u "com/example/bitmend/bitmend/DataPositionsNextPinLaw"), (0, u "expected"), (0, u "(II)I"), (3, u "law"), (0, u "(I)Z")] 4

def k1m0 : Method := { name := "<init>", desc := "()V", sig := { parameters := [], returnType := none }, accessFlags := 1, code := none }
def k1c1 : Code := { maxStack := 4, maxLocals := 3, code := method_2_code, exceptionTable := #[], attributes := #[] }
def k1m1 : Method := { name := "expected", desc := "(II)I", sig := { parameters := [.int, .int], returnType := some .int }, accessFlags := 10, code := some k1c1 }
def k1c2 : Code := { maxStack := 4, maxLocals := 17, code := code, exceptionTable := #[], attributes := #[] }
def k1m2 : Method := { name := "law", desc := "(I)Z", sig := { parameters := [.int], returnType := some .boolean }, accessFlags := 9, code := some k1c2 }
/-- com/example/bitmend/bitmend/DataPositionsNextPinLaw -/
def k1 : Class := { plain "com/example/bitmend/bitmend/DataPositionsNextPinLaw" (some 0) with
  accessFlags := 49
  interfaces := #[]
  cf := some (fileOf pool1 28 #[] #[{ accessFlags := 1, nameIndex := 5, descriptorIndex := 6, attributes := #[] }, { accessFlags := 10, nameIndex := 31, descriptorIndex := 32, attributes := #[] }, { accessFlags := 9, nameIndex := 36, descriptorIndex := 37, attributes := #[] }] 49 2 #[] #[])
  fields := #[]
  methods := #[k1m0, k1m1, k1m2]
  instanceTypes := #[]
  staticTypes := #[]
  resolved := Array.replicate 42 none
  statics := none }

def pool2 : Array CpInfo := pool [(1, .methodref 2 3), (0, .class_ 4), (0, .nameAndType 5 6), (0, u "java/lang/Object"), (0, u "<init>"), (0, u "()V"), (0, .fieldref 8 9), (0, .class_ 10), (0, .nameAndType 11 12), (0, u "com/example/bitmend/bitmend/PositionalColumns"), (0, u "fieldSize"), (0, u "I"), (2, .methodref 16 17), (0, .class_ 18), (0, .nameAndType 19 20), (0, u "com/example/bitmend/bitmend/CodeParameters"), (0, u "columns"), (0, u "(II)J"), (0, .long 2147483647), (1, .methodref 24 25), (0, .class_ 26), (0, .nameAndType 27 28), (0, u "java/util/Arrays"), (0, u "copyOf"), (0, u "([JI)[J"), (0, .fieldref 8 30), (0, .nameAndType 31 32), (0, u "checkPositions"), (0, u "[J"), (4, .class_ 38), (0, u "com/example/bitmend/bitmend/PositionalColumns$DataPositions"), (3, u "(I)V")] 16

def k2c0 : Code := { maxStack := 6, maxLocals := 4, code := prog_35_method_1_code, exceptionTable := #[], attributes := #[] }
def k2m0 : Method := { name := "<init>", desc := "(I)V", sig := { parameters := [.int], returnType := none }, accessFlags := 0, code := some k2c0 }
/-- com/example/bitmend/bitmend/PositionalColumns -/
def k2 : Class := { plain "com/example/bitmend/bitmend/PositionalColumns" (some 0) with
  accessFlags := 48
  interfaces := #[]
  cf := some (fileOf pool2 8 #[.nestMembers #[37]] #[{ accessFlags := 0, nameIndex := 5, descriptorIndex := 42, attributes := #[] }] 48 2 #[] #[{ accessFlags := 18, nameIndex := 11, descriptorIndex := 12, attributes := #[] }, { accessFlags := 18, nameIndex := 31, descriptorIndex := 32, attributes := #[] }])
  fields := #[{ name := "fieldSize", type := .int, accessFlags := 18, slot := 0, constantValue := 0 }, { name := "checkPositions", type := (.array .long), accessFlags := 18, slot := 1, constantValue := 0 }]
  methods := #[k2m0]
  instanceTypes := #[.int, (.array .long)]
  staticTypes := #[]
  resolved := Array.replicate 59 none
  statics := none }

def pool3 : Array CpInfo := pool [(4, .class_ 6), (1, u "java/lang/Object"), (3, .class_ 12), (1, u "com/example/bitmend/bitmend/CodeParameters"), (0, u "fieldSize"), (0, u "I"), (2, u "dataBits"), (2, u "checkBits"), (41, u "columns"), (0, u "(II)J"), (57, u "MAX_DATA_BITS"), (2, u "BINARY")] 45

def k3c0 : Code := { maxStack := 4, maxLocals := 5, code := prog_10_method_16_code, exceptionTable := #[], attributes := #[] }
def k3m0 : Method := { name := "columns", desc := "(II)J", sig := { parameters := [.int, .int], returnType := some .long }, accessFlags := 8, code := some k3c0 }
/-- com/example/bitmend/bitmend/CodeParameters -/
def k3 : Class := { plain "com/example/bitmend/bitmend/CodeParameters" (some 0) with
  accessFlags := 49
  interfaces := #[]
  cf := some (fileOf pool3 10 #[] #[{ accessFlags := 8, nameIndex := 62, descriptorIndex := 63, attributes := #[] }] 49 4 #[] #[{ accessFlags := 25, nameIndex := 121, descriptorIndex := 14, attributes := #[] }, { accessFlags := 26, nameIndex := 124, descriptorIndex := 14, attributes := #[] }, { accessFlags := 18, nameIndex := 13, descriptorIndex := 14, attributes := #[] }, { accessFlags := 18, nameIndex := 17, descriptorIndex := 14, attributes := #[] }, { accessFlags := 18, nameIndex := 20, descriptorIndex := 14, attributes := #[] }])
  fields := #[{ name := "MAX_DATA_BITS", type := .int, accessFlags := 25, slot := 0, constantValue := 0 }, { name := "BINARY", type := .int, accessFlags := 26, slot := 1, constantValue := 0 }, { name := "fieldSize", type := .int, accessFlags := 18, slot := 0, constantValue := 0 }, { name := "dataBits", type := .int, accessFlags := 18, slot := 1, constantValue := 0 }, { name := "checkBits", type := .int, accessFlags := 18, slot := 2, constantValue := 0 }]
  methods := #[k3m0]
  instanceTypes := #[.int, .int, .int]
  staticTypes := #[.int, .int]
  resolved := Array.replicate 170 none
  statics := none }

def pool4 : Array CpInfo := pool [(2, .class_ 4), (1, u "java/lang/Object"), (0, u "<init>"), (0, u "()V"), (7, .class_ 16), (1, u "java/util/Arrays"), (57, .class_ 76), (1, u "java/util/Arrays$NaturalOrder"), (36, .class_ 115), (1, u "java/util/Arrays$LegacyMergeSort"), (1, u "Z"), (32, .methodref 151 152), (0, .class_ 153), (0, .nameAndType 154 155), (0, u "java/lang/System"), (0, u "arraycopy"), (0, u "(Ljava/lang/Object;ILjava/lang/Object;II)V"), (146, u "copyOf"), (1, .methodref 305 306), (0, .class_ 307), (0, .nameAndType 308 309), (0, u "java/lang/Math"), (0, u "min"), (0, u "(II)I"), (65, .class_ 376), (0, u "java/util/Arrays$ArrayList"), (68, u "$assertionsDisabled"), (269, u "MIN_ARRAY_SORT_GRAN"), (0, u "I"), (2, u "INSERTIONSORT_THRESHOLD"), (152, u "([JI)[J"), (102, .class_ 976), (0, u "java/util/Arrays$ArrayItr")] 52

def k4m0 : Method := { name := "<init>", desc := "()V", sig := { parameters := [], returnType := none }, accessFlags := 2, code := none }
def k4c1 : Code := { maxStack := 6, maxLocals := 3, code := jdk_65_method_124_code, exceptionTable := #[], attributes := #[] }
def k4m1 : Method := { name := "copyOf", desc := "([JI)[J", sig := { parameters := [(.array .long), .int], returnType := some (.array .long) }, accessFlags := 9, code := some k4c1 }
/-- java/util/Arrays -/
def k4 : Class := { plain "java/util/Arrays" (some 0) with
  accessFlags := 49
  interfaces := #[]
  cf := some (fileOf pool4 14 #[.nestMembers #[975, 375, 113, 74]] #[{ accessFlags := 2, nameIndex := 5, descriptorIndex := 6, attributes := #[] }, { accessFlags := 9, nameIndex := 302, descriptorIndex := 872, attributes := #[] }] 49 2 #[] #[{ accessFlags := 26, nameIndex := 715, descriptorIndex := 716, attributes := #[] }, { accessFlags := 26, nameIndex := 719, descriptorIndex := 716, attributes := #[] }, { accessFlags := 4120, nameIndex := 445, descriptorIndex := 117, attributes := #[] }])
  fields := #[{ name := "MIN_ARRAY_SORT_GRAN", type := .int, accessFlags := 26, slot := 0, constantValue := 0 }, { name := "INSERTIONSORT_THRESHOLD", type := .int, accessFlags := 26, slot := 1, constantValue := 0 }, { name := "$assertionsDisabled", type := .boolean, accessFlags := 4120, slot := 2, constantValue := 0 }]
  methods := #[k4m0, k4m1]
  instanceTypes := #[]
  staticTypes := #[.int, .int, .boolean]
  resolved := Array.replicate 1029 none
  statics := none }

def pool5 : Array CpInfo := pool [(1, .class_ 2), (0, u "java/lang/Math"), (1, .class_ 6), (1, u "java/lang/Object"), (0, u "<init>"), (0, u "()V"), (89, .class_ 100), (1, u "java/lang/Math$RandomNumberGeneratorHolder"), (71, u "negativeZeroFloatBits"), (0, u "J"), (2, u "negativeZeroDoubleBits"), (24, u "min"), (43, u "$assertionsDisabled"), (0, u "Z"), (88, u "(II)I"), (2, u "twoToTheDoubleScaleDown"), (0, u "D"), (4, u "twoToTheDoubleScaleUp"), (9, u "E"), (3, u "PI"), (2, u "TAU"), (2, u "DEGREES_TO_RADIANS"), (0, u "RADIANS_TO_DEGREES")] 94

def k5m0 : Method := { name := "<init>", desc := "()V", sig := { parameters := [], returnType := none }, accessFlags := 2, code := none }
def k5c1 : Code := { maxStack := 2, maxLocals := 2, code := jdk_29_method_69_code, exceptionTable := #[], attributes := #[] }
def k5m1 : Method := { name := "min", desc := "(II)I", sig := { parameters := [.int, .int], returnType := some .int }, accessFlags := 9, code := some k5c1 }
/-- java/lang/Math -/
def k5 : Class := { plain "java/lang/Math" (some 0) with
  accessFlags := 49
  interfaces := #[]
  cf := some (fileOf pool5 1 #[.nestMembers #[98]] #[{ accessFlags := 2, nameIndex := 7, descriptorIndex := 8, attributes := #[] }, { accessFlags := 9, nameIndex := 201, descriptorIndex := 335, attributes := #[] }] 49 4 #[] #[{ accessFlags := 25, nameIndex := 354, descriptorIndex := 339, attributes := #[] }, { accessFlags := 25, nameIndex := 358, descriptorIndex := 339, attributes := #[] }, { accessFlags := 25, nameIndex := 361, descriptorIndex := 339, attributes := #[] }, { accessFlags := 26, nameIndex := 364, descriptorIndex := 339, attributes := #[] }, { accessFlags := 26, nameIndex := 365, descriptorIndex := 339, attributes := #[] }, { accessFlags := 26, nameIndex := 172, descriptorIndex := 173, attributes := #[] }, { accessFlags := 26, nameIndex := 176, descriptorIndex := 173, attributes := #[] }, { accessFlags := 8, nameIndex := 344, descriptorIndex := 339, attributes := #[] }, { accessFlags := 8, nameIndex := 338, descriptorIndex := 339, attributes := #[] }, { accessFlags := 4120, nameIndex := 245, descriptorIndex := 246, attributes := #[] }])
  fields := #[{ name := "E", type := .double, accessFlags := 25, slot := 0, constantValue := 0 }, { name := "PI", type := .double, accessFlags := 25, slot := 1, constantValue := 0 }, { name := "TAU", type := .double, accessFlags := 25, slot := 2, constantValue := 0 }, { name := "DEGREES_TO_RADIANS", type := .double, accessFlags := 26, slot := 3, constantValue := 0 }, { name := "RADIANS_TO_DEGREES", type := .double, accessFlags := 26, slot := 4, constantValue := 0 }, { name := "negativeZeroFloatBits", type := .long, accessFlags := 26, slot := 5, constantValue := 0 }, { name := "negativeZeroDoubleBits", type := .long, accessFlags := 26, slot := 6, constantValue := 0 }, { name := "twoToTheDoubleScaleUp", type := .double, accessFlags := 8, slot := 7, constantValue := 0 }, { name := "twoToTheDoubleScaleDown", type := .double, accessFlags := 8, slot := 8, constantValue := 0 }, { name := "$assertionsDisabled", type := .boolean, accessFlags := 4120, slot := 9, constantValue := 0 }]
  methods := #[k5m0, k5m1]
  instanceTypes := #[]
  staticTypes := #[.double, .double, .double, .double, .double, .long, .long, .double, .double, .boolean]
  resolved := Array.replicate 460 none
  statics := none }

def pool6 : Array CpInfo := pool [(2, .class_ 4), (1, u "java/lang/Object"), (0, u "<init>"), (0, u "()V"), (1, .class_ 10), (1, u "java/lang/System"), (0, u "allowSecurityManager"), (0, u "I"), (16, u "cons"), (0, u "Ljava/io/Console;"), (77, .class_ 110), (1, u "java/lang/System$CallersHolder"), (43, u "initialErrStream"), (0, u "Ljava/io/PrintStream;"), (19, u "security"), (0, u "Ljava/lang/SecurityManager;"), (31, .class_ 209), (0, u "java/lang/System$1"), (7, u "props"), (0, u "Ljava/util/Properties;"), (2, u "lineSeparator"), (0, u "Ljava/lang/String;"), (96, .class_ 321), (1, u "java/lang/System$LoggerFinder"), (5, .class_ 328), (0, u "java/lang/System$Logger"), (67, u "err"), (2, u "out"), (91, u "notSupportedJnuEncoding"), (15, u "in"), (17, u "initialIn"), (0, u "Ljava/io/InputStream;"), (35, u "bootLayer"), (0, u "Ljava/lang/ModuleLayer;"), (99, .class_ 664), (0, u "java/lang/System$2"), (9, u "NEVER"), (2, u "MAYBE"), (49, u "arraycopy"), (0, u "(Ljava/lang/Object;ILjava/lang/Object;II)V"), (72, .class_ 802), (0, u "java/lang/System$Logger$Level")] 31

def k6m0 : Method := { name := "<init>", desc := "()V", sig := { parameters := [], returnType := none }, accessFlags := 2, code := none }
def k6m1 : Method := { name := "arraycopy", desc := "(Ljava/lang/Object;ILjava/lang/Object;II)V", sig := { parameters := [(.object "java/lang/Object"), .int, (.object "java/lang/Object"), .int, .int], returnType := none }, accessFlags := 265, code := none }
/-- java/lang/System -/
def k6 : Class := { plain "java/lang/System" (some 0) with
  accessFlags := 49
  interfaces := #[]
  cf := some (fileOf pool6 8 #[.nestMembers #[319, 327, 801, 108, 663, 208]] #[{ accessFlags := 2, nameIndex := 5, descriptorIndex := 6, attributes := #[] }, { accessFlags := 265, nameIndex := 727, descriptorIndex := 728, attributes := #[] }] 49 2 #[] #[{ accessFlags := 25, nameIndex := 507, descriptorIndex := 526, attributes := #[] }, { accessFlags := 25, nameIndex := 399, descriptorIndex := 155, attributes := #[] }, { accessFlags := 25, nameIndex := 396, descriptorIndex := 155, attributes := #[] }, { accessFlags := 10, nameIndex := 525, descriptorIndex := 526, attributes := #[] }, { accessFlags := 26, nameIndex := 674, descriptorIndex := 12, attributes := #[] }, { accessFlags := 26, nameIndex := 677, descriptorIndex := 12, attributes := #[] }, { accessFlags := 10, nameIndex := 11, descriptorIndex := 12, attributes := #[] }, { accessFlags := 74, nameIndex := 175, descriptorIndex := 176, attributes := #[] }, { accessFlags := 10, nameIndex := 491, descriptorIndex := 222, attributes := #[] }, { accessFlags := 74, nameIndex := 29, descriptorIndex := 30, attributes := #[] }, { accessFlags := 74, nameIndex := 154, descriptorIndex := 155, attributes := #[] }, { accessFlags := 10, nameIndex := 217, descriptorIndex := 218, attributes := #[] }, { accessFlags := 10, nameIndex := 221, descriptorIndex := 222, attributes := #[] }, { accessFlags := 8, nameIndex := 562, descriptorIndex := 563, attributes := #[] }])
  fields := #[{ name := "in", type := (.object "java/io/InputStream"), accessFlags := 25, slot := 0, constantValue := 0 }, { name := "out", type := (.object "java/io/PrintStream"), accessFlags := 25, slot := 1, constantValue := 0 }, { name := "err", type := (.object "java/io/PrintStream"), accessFlags := 25, slot := 2, constantValue := 0 }, { name := "initialIn", type := (.object "java/io/InputStream"), accessFlags := 10, slot := 3, constantValue := 0 }, { name := "NEVER", type := .int, accessFlags := 26, slot := 4, constantValue := 0 }, { name := "MAYBE", type := .int, accessFlags := 26, slot := 5, constantValue := 0 }, { name := "allowSecurityManager", type := .int, accessFlags := 10, slot := 6, constantValue := 0 }, { name := "security", type := (.object "java/lang/SecurityManager"), accessFlags := 74, slot := 7, constantValue := 0 }, { name := "notSupportedJnuEncoding", type := (.object "java/lang/String"), accessFlags := 10, slot := 8, constantValue := 0 }, { name := "cons", type := (.object "java/io/Console"), accessFlags := 74, slot := 9, constantValue := 0 }, { name := "initialErrStream", type := (.object "java/io/PrintStream"), accessFlags := 74, slot := 10, constantValue := 0 }, { name := "props", type := (.object "java/util/Properties"), accessFlags := 10, slot := 11, constantValue := 0 }, { name := "lineSeparator", type := (.object "java/lang/String"), accessFlags := 10, slot := 12, constantValue := 0 }, { name := "bootLayer", type := (.object "java/lang/ModuleLayer"), accessFlags := 8, slot := 13, constantValue := 0 }]
  methods := #[k6m0, k6m1]
  instanceTypes := #[]
  staticTypes := #[(.object "java/io/InputStream"), (.object "java/io/PrintStream"), (.object "java/io/PrintStream"), (.object "java/io/InputStream"), .int, .int, .int, (.object "java/lang/SecurityManager"), (.object "java/lang/String"), (.object "java/io/Console"), (.object "java/io/PrintStream"), (.object "java/util/Properties"), (.object "java/lang/String"), (.object "java/lang/ModuleLayer")]
  resolved := Array.replicate 834 none
  statics := none }

def pool7 : Array CpInfo := pool [(1, .fieldref 2 3), (0, .class_ 4), (0, .nameAndType 5 6), (0, u "com/example/bitmend/bitmend/PositionalColumns$DataPositions"), (0, u "this$0"), (0, u "Lcom/example/bitmend/bitmend/PositionalColumns;"), (0, .methodref 8 9), (0, .class_ 10), (0, .nameAndType 11 12), (0, u "java/lang/Object"), (0, u "<init>"), (0, u "()V"), (0, .fieldref 14 15), (0, .class_ 16), (0, .nameAndType 17 18), (0, u "com/example/bitmend/bitmend/PositionalColumns"), (0, u "checkPositions"), (0, u "[J"), (0, .fieldref 2 20), (0, .nameAndType 21 22), (0, u "checkPosition"), (0, u "J"), (0, .fieldref 2 24), (0, .nameAndType 25 26), (0, u "position"), (0, u "I"), (0, .fieldref 2 28), (0, .nameAndType 29 26), (0, u "check"), (0, u "(Lcom/example/bitmend/bitmend/PositionalColumns;)V"), (3, u "next"), (0, u "()I")] 6

def k7c0 : Code := { maxStack := 3, maxLocals := 2, code := prog_36_method_1_code, exceptionTable := #[], attributes := #[] }
def k7m0 : Method := { name := "<init>", desc := "(Lcom/example/bitmend/bitmend/PositionalColumns;)V", sig := { parameters := [(.object "com/example/bitmend/bitmend/PositionalColumns")], returnType := none }, accessFlags := 0, code := some k7c0 }
def k7c1 : Code := { maxStack := 4, maxLocals := 1, code := prog_36_method_2_code, exceptionTable := #[], attributes := #[] }
def k7m1 : Method := { name := "next", desc := "()I", sig := { parameters := [], returnType := some .int }, accessFlags := 0, code := some k7c1 }
/-- com/example/bitmend/bitmend/PositionalColumns$DataPositions -/
def k7 : Class := { plain "com/example/bitmend/bitmend/PositionalColumns$DataPositions" (some 0) with
  accessFlags := 48
  interfaces := #[]
  cf := some (fileOf pool7 2 #[.nestHost 14] #[{ accessFlags := 0, nameIndex := 11, descriptorIndex := 30, attributes := #[] }, { accessFlags := 0, nameIndex := 34, descriptorIndex := 35, attributes := #[] }] 48 8 #[] #[{ accessFlags := 2, nameIndex := 25, descriptorIndex := 26, attributes := #[] }, { accessFlags := 2, nameIndex := 29, descriptorIndex := 26, attributes := #[] }, { accessFlags := 2, nameIndex := 21, descriptorIndex := 22, attributes := #[] }, { accessFlags := 4112, nameIndex := 5, descriptorIndex := 6, attributes := #[] }])
  fields := #[{ name := "position", type := .int, accessFlags := 2, slot := 0, constantValue := 0 }, { name := "check", type := .int, accessFlags := 2, slot := 1, constantValue := 0 }, { name := "checkPosition", type := .long, accessFlags := 2, slot := 2, constantValue := 0 }, { name := "this$0", type := (.object "com/example/bitmend/bitmend/PositionalColumns"), accessFlags := 4112, slot := 3, constantValue := 0 }]
  methods := #[k7m0, k7m1]
  instanceTypes := #[.int, .int, .long, (.object "com/example/bitmend/bitmend/PositionalColumns")]
  staticTypes := #[]
  resolved := Array.replicate 42 none
  statics := none }

def pool8 : Array CpInfo := pool [(2, .class_ 4), (1, u "java/lang/Object"), (0, u "<init>"), (0, u "()V"), (35, .class_ 44), (1, u "java/util/Objects"), (0, u "requireNonNull"), (0, u "(Ljava/lang/Object;)Ljava/lang/Object;")] 137

def k8m0 : Method := { name := "<init>", desc := "()V", sig := { parameters := [], returnType := none }, accessFlags := 2, code := none }
def k8c1 : Code := { maxStack := 2, maxLocals := 1, code := jdk_31_method_10_code, exceptionTable := #[], attributes := #[] }
def k8m1 : Method := { name := "requireNonNull", desc := "(Ljava/lang/Object;)Ljava/lang/Object;", sig := { parameters := [(.object "java/lang/Object")], returnType := some (.object "java/lang/Object") }, accessFlags := 9, code := some k8c1 }
/-- java/util/Objects -/
def k8 : Class := { plain "java/util/Objects" (some 0) with
  accessFlags := 49
  interfaces := #[]
  cf := some (fileOf pool8 42 #[] #[{ accessFlags := 2, nameIndex := 5, descriptorIndex := 6, attributes := #[] }, { accessFlags := 9, nameIndex := 45, descriptorIndex := 46, attributes := #[] }] 49 2 #[] #[])
  fields := #[]
  methods := #[k8m0, k8m1]
  instanceTypes := #[]
  staticTypes := #[]
  resolved := Array.replicate 184 none
  statics := none }

def pool9 : Array CpInfo := pool [(1, u "java/lang/Cloneable"), (0, .class_ 1), (0, u "java/lang/Object"), (0, .class_ 3)] 3

/-- java/lang/Cloneable -/
def k9 : Class := { plain "java/lang/Cloneable" (some 0) with
  accessFlags := 1537
  interfaces := #[]
  cf := some (fileOf pool9 2 #[] #[] 1537 4 #[] #[])
  fields := #[]
  methods := #[]
  instanceTypes := #[]
  staticTypes := #[]
  resolved := Array.replicate 8 none
  statics := none }

def pool10 : Array CpInfo := pool [(1, u "java/io/Serializable"), (0, .class_ 1), (0, u "java/lang/Object"), (0, .class_ 3)] 3

/-- java/io/Serializable -/
def k10 : Class := { plain "java/io/Serializable" (some 0) with
  accessFlags := 1537
  interfaces := #[]
  cf := some (fileOf pool10 2 #[] #[] 1537 4 #[] #[])
  fields := #[]
  methods := #[]
  instanceTypes := #[]
  staticTypes := #[]
  resolved := Array.replicate 8 none
  statics := none }

/-- the primitive byte -/
def k11 : Class := { plain "byte" none with kind := .primitive 'B', accessFlags := 0x411 }
/-- [B -/
def k12 : Class := { plain "[B" (some 0) with kind := .array 11 .byte, interfaces := #[9, 10], accessFlags := 1041 }

/-- the primitive int -/
def k13 : Class := { plain "int" none with kind := .primitive 'I', accessFlags := 0x411 }
/-- [I -/
def k14 : Class := { plain "[I" (some 0) with kind := .array 13 .int, interfaces := #[9, 10], accessFlags := 1041 }

/-- the primitive long -/
def k15 : Class := { plain "long" none with kind := .primitive 'J', accessFlags := 0x411 }
/-- [J -/
def k16 : Class := { plain "[J" (some 0) with kind := .array 15 .long, interfaces := #[9, 10], accessFlags := 1041 }

def heap : Heap := #[]
def classes : Array Class := #[k0, k1, k2, k3, k4, k5, k6, k7, k8, k9, k10, k11, k12, k13, k14, k15, k16]
def interned : List (Array UInt16 × Addr) := []
def slotsUsed : Nat := 0
def theMethod : MethodId := ⟨1, 2⟩
def args0 : Array Value := #[.int 1]
def aboutOver (below : List Frame) : State where
  vm := { classes := classes, interned := interned.toArray }
  heap := heap
  slotsUsed := slotsUsed
  threads := #[{ frames := .invoking theMethod args0 :: below }]
def below0 : List Frame := [.native { method := ⟨0, 0⟩, args := #[] }]
def about1 : State := aboutOver below0
def p0 : Program := .bare "" "" ""
def e0 : Env := launch0.env 0 0 0
theorem w_frames : about1.frames = Frame.invoking theMethod args0 :: below0 := rfl
set_option maxRecDepth 65536 in
theorem w_args : argsFit about1.vm theMethod args0 = true := by decide +kernel
set_option maxRecDepth 65536 in
theorem w_heap : heapFits about1 = true := by decide +kernel
set_option maxRecDepth 65536 in
theorem w_runnable : about1.curStatus? = some .runnable := by decide +kernel
set_option maxRecDepth 65536 in
theorem w_alone : about1.alone = true := by decide +kernel
set_option maxRecDepth 65536 in
theorem w_named : about1.methodNamed? x = some theMethod := by decide +kernel
set_option maxRecDepth 65536 in
theorem w_hears : about1.hears theMethod below0 = true := by decide +kernel
set_option maxRecDepth 65536 in
theorem w_ripe : about1.ripe theMethod args0 below0 = true := by decide +kernel
theorem w_running : about1.status = .running := rfl
set_option maxRecDepth 65536 in
theorem w_room : about1.hasRoom e0.platform room_1 = true :=
  launch0.hasRoom_least _ room_1 (by decide +kernel) (by decide +kernel) (by decide +kernel) (by decide +kernel) (by decide +kernel) (by decide +kernel)
theorem allAtoms_all (ts : List Jvm.Cond) (a : Array Jvm.Value) (st : Jvm.State) : (allAtoms ts).before a st = ts.all (fun c => c.before a st) := by
  induction ts with
  | nil => rfl
  | cons c t ih =>
    show (Jvm.Cond.and c (allAtoms t)).before a st = _
    rw [Jvm.Cond.before_and, ih, List.all_cons]
def words1 : List Jvm.Cond := Jvm.Cond.code x code maxLocals ret :: tables_1
/-- a 'code' word, met by the world's own term for the bytes: nothing is compared byte by byte -/
theorem code_word {y : MethodName} {bytes : ByteArray} {mx : Nat} {rt : Option FieldType} {a : Array Value} {s : State} {m : MethodId} {meth : Method} {c : Code} (h1 : s.methodNamed? y = some m) (h2 : s.vm.method? m = some meth) (h3 : meth.code = some c) (h4 : c.code = bytes)
    (h5 : (c.maxLocals == mx && c.exceptionTable.isEmpty && decide (c.maxStack ≤ mostOperands) && decide (meth.sig.returnType = rt) && !meth.locks && decide (parseMethodDescriptor y.desc = some meth.sig)) = true) : (Jvm.Cond.code y bytes mx rt).before a s = true := by
  simp only [Bool.and_eq_true, beq_iff_eq, Bool.not_eq_true', decide_eq_true_eq] at h5
  obtain ⟨⟨⟨⟨⟨g1, g2⟩, g3⟩, g4⟩, g5⟩, g6⟩ := h5
  simp [Cond.before, Cond.holds, Cond.value, h1, h2, h3, h4, g1, g2, g3, g4, g5, g6]
def isCode : Jvm.Cond → Bool
  | .code _ _ _ _ => true
  | _ => false
theorem all_split {L : List Jvm.Cond} {P : Jvm.Cond → Bool} (h1 : L.all (fun c => isCode c || P c) = true) (h2 : ∀ c ∈ L.filter isCode, P c = true) : L.all P = true := by
  refine List.all_eq_true.mpr fun c hc => ?_
  have h := List.all_eq_true.mp h1 c hc
  rcases Bool.eq_false_or_eq_true (isCode c) with hi | hi
  · exact h2 c (List.mem_filter.mpr ⟨hc, hi⟩)
  · simpa [hi] using h
set_option maxRecDepth 65536 in
theorem w_c0 : (Jvm.Cond.code x code maxLocals ret).before args0 about1 = true := code_word (m := ⟨1, 2⟩) (meth := k1m2) (c := k1c2) (by decide +kernel) rfl rfl rfl (by decide +kernel)
set_option maxRecDepth 65536 in
theorem w_c1 : (Jvm.Cond.code ({ cls := "com/example/bitmend/bitmend/PositionalColumns", name := "<init>", desc := "(I)V" } : Jvm.MethodName) prog_35_method_1_code (4 : Nat) (Option.none : Option Jvm.ClassFile.FieldType)).before args0 about1 = true := code_word (m := ⟨2, 0⟩) (meth := k2m0) (c := k2c0) (by decide +kernel) rfl rfl rfl (by decide +kernel)
set_option maxRecDepth 65536 in
theorem w_c2 : (Jvm.Cond.code ({ cls := "java/lang/Object", name := "<init>", desc := "()V" } : Jvm.MethodName) object_method_1_code (1 : Nat) (Option.none : Option Jvm.ClassFile.FieldType)).before args0 about1 = true := code_word (m := ⟨0, 0⟩) (meth := k0m0) (c := k0c0) (by decide +kernel) rfl rfl rfl (by decide +kernel)
set_option maxRecDepth 65536 in
theorem w_c3 : (Jvm.Cond.code ({ cls := "com/example/bitmend/bitmend/CodeParameters", name := "columns", desc := "(II)J" } : Jvm.MethodName) prog_10_method_16_code (5 : Nat) (Option.some Jvm.ClassFile.FieldType.long)).before args0 about1 = true := code_word (m := ⟨3, 0⟩) (meth := k3m0) (c := k3c0) (by decide +kernel) rfl rfl rfl (by decide +kernel)
set_option maxRecDepth 65536 in
theorem w_c4 : (Jvm.Cond.code ({ cls := "java/util/Arrays", name := "copyOf", desc := "([JI)[J" } : Jvm.MethodName) jdk_65_method_124_code (3 : Nat) (Option.some (Jvm.ClassFile.FieldType.array Jvm.ClassFile.FieldType.long))).before args0 about1 = true := code_word (m := ⟨4, 1⟩) (meth := k4m1) (c := k4c1) (by decide +kernel) rfl rfl rfl (by decide +kernel)
set_option maxRecDepth 65536 in
theorem w_c5 : (Jvm.Cond.code ({ cls := "java/lang/Math", name := "min", desc := "(II)I" } : Jvm.MethodName) jdk_29_method_69_code (2 : Nat) (Option.some Jvm.ClassFile.FieldType.int)).before args0 about1 = true := code_word (m := ⟨5, 1⟩) (meth := k5m1) (c := k5c1) (by decide +kernel) rfl rfl rfl (by decide +kernel)
set_option maxRecDepth 65536 in
theorem w_c6 : (Jvm.Cond.code ({ cls := "java/util/Objects", name := "requireNonNull", desc := "(Ljava/lang/Object;)Ljava/lang/Object;" } : Jvm.MethodName) jdk_31_method_10_code (1 : Nat) (Option.some (Jvm.ClassFile.FieldType.object "java/lang/Object"))).before args0 about1 = true := code_word (m := ⟨8, 1⟩) (meth := k8m1) (c := k8c1) (by decide +kernel) rfl rfl rfl (by decide +kernel)
set_option maxRecDepth 65536 in
theorem w_c7 : (Jvm.Cond.code ({ cls := "com/example/bitmend/bitmend/PositionalColumns$DataPositions", name := "<init>", desc := "(Lcom/example/bitmend/bitmend/PositionalColumns;)V" } : Jvm.MethodName) prog_36_method_1_code (2 : Nat) (Option.none : Option Jvm.ClassFile.FieldType)).before args0 about1 = true := code_word (m := ⟨7, 0⟩) (meth := k7m0) (c := k7c0) (by decide +kernel) rfl rfl rfl (by decide +kernel)
set_option maxRecDepth 65536 in
theorem w_c8 : (Jvm.Cond.code ({ cls := "com/example/bitmend/bitmend/PositionalColumns$DataPositions", name := "next", desc := "()I" } : Jvm.MethodName) prog_36_method_2_code (1 : Nat) (Option.some Jvm.ClassFile.FieldType.int)).before args0 about1 = true := code_word (m := ⟨7, 1⟩) (meth := k7m1) (c := k7c1) (by decide +kernel) rfl rfl rfl (by decide +kernel)
set_option maxRecDepth 65536 in
theorem w_c9 : (Jvm.Cond.code ({ cls := "com/example/bitmend/bitmend/DataPositionsNextPinLaw", name := "expected", desc := "(II)I" } : Jvm.MethodName) method_2_code (3 : Nat) (Option.some Jvm.ClassFile.FieldType.int)).before args0 about1 = true := code_word (m := ⟨1, 1⟩) (meth := k1m1) (c := k1c1) (by decide +kernel) rfl rfl rfl (by decide +kernel)
def codes1 : List Jvm.Cond := [Jvm.Cond.code x code maxLocals ret, Jvm.Cond.code ({ cls := "com/example/bitmend/bitmend/PositionalColumns", name := "<init>", desc := "(I)V" } : Jvm.MethodName) prog_35_method_1_code (4 : Nat) (Option.none : Option Jvm.ClassFile.FieldType), Jvm.Cond.code ({ cls := "java/lang/Object", name := "<init>", desc := "()V" } : Jvm.MethodName) object_method_1_code (1 : Nat) (Option.none : Option Jvm.ClassFile.FieldType), Jvm.Cond.code ({ cls := "com/example/bitmend/bitmend/CodeParameters", name := "columns", desc := "(II)J" } : Jvm.MethodName) prog_10_method_16_code (5 : Nat) (Option.some Jvm.ClassFile.FieldType.long), Jvm.Cond.code ({ cls := "java/util/Arrays", name := "copyOf", desc := "([JI)[J" } : Jvm.MethodName) jdk_65_method_124_code (3 : Nat) (Option.some (Jvm.ClassFile.FieldType.array Jvm.ClassFile.FieldType.long)), Jvm.Cond.code ({ cls := "java/lang/Math", name := "min", desc := "(II)I" } : Jvm.MethodName) jdk_29_method_69_code (2 : Nat) (Option.some Jvm.ClassFile.FieldType.int), Jvm.Cond.code ({ cls := "java/util/Objects", name := "requireNonNull", desc := "(Ljava/lang/Object;)Ljava/lang/Object;" } : Jvm.MethodName) jdk_31_method_10_code (1 : Nat) (Option.some (Jvm.ClassFile.FieldType.object "java/lang/Object")), Jvm.Cond.code ({ cls := "com/example/bitmend/bitmend/PositionalColumns$DataPositions", name := "<init>", desc := "(Lcom/example/bitmend/bitmend/PositionalColumns;)V" } : Jvm.MethodName) prog_36_method_1_code (2 : Nat) (Option.none : Option Jvm.ClassFile.FieldType), Jvm.Cond.code ({ cls := "com/example/bitmend/bitmend/PositionalColumns$DataPositions", name := "next", desc := "()I" } : Jvm.MethodName) prog_36_method_2_code (1 : Nat) (Option.some Jvm.ClassFile.FieldType.int), Jvm.Cond.code ({ cls := "com/example/bitmend/bitmend/DataPositionsNextPinLaw", name := "expected", desc := "(II)I" } : Jvm.MethodName) method_2_code (3 : Nat) (Option.some Jvm.ClassFile.FieldType.int)]
set_option maxRecDepth 65536 in
theorem codes_eq : words1.filter isCode = codes1 := rfl
theorem w_codes : ∀ c ∈ words1.filter isCode, c.before args0 about1 = true := by
  rw [codes_eq]
  intro c hc
  simp only [codes1, List.mem_cons, List.not_mem_nil, or_false] at hc
  rcases hc with rfl | rfl | rfl | rfl | rfl | rfl | rfl | rfl | rfl | rfl
  · exact w_c0
  · exact w_c1
  · exact w_c2
  · exact w_c3
  · exact w_c4
  · exact w_c5
  · exact w_c6
  · exact w_c7
  · exact w_c8
  · exact w_c9
set_option maxRecDepth 65536 in
theorem w_t1 : (words1.take 24).all (fun c => isCode c || c.before args0 about1) = true := by decide +kernel
set_option maxRecDepth 65536 in
theorem w_t2 : ((words1.drop 24).take 24).all (fun c => isCode c || c.before args0 about1) = true := by decide +kernel
set_option maxRecDepth 65536 in
theorem w_t3 : ((words1.drop 24).drop 24).all (fun c => isCode c || c.before args0 about1) = true := by decide +kernel
theorem w_tables : (allAtoms (Jvm.Cond.code x code maxLocals ret :: tables_1)).before args0 about1 = true := by
  rw [allAtoms_all]
  show words1.all (fun c => c.before args0 about1) = true
  refine all_split ?_ w_codes
  rw [← List.take_append_drop 24 words1, List.all_append, w_t1, ← List.take_append_drop 24 (words1.drop 24), List.all_append, w_t2, w_t3]
  rfl
set_option maxRecDepth 65536 in
theorem w_case : (Jvm.Cond.and given_1 narrow_1).before args0 about1 = true := by decide +kernel
theorem w_applies : (headSpec (Jvm.Cond.code x code maxLocals ret :: tables_1) room_1).applies x e0.platform about1 = true :=
  (Spec.applies_iff w_frames).mpr ⟨w_running, w_runnable, w_alone, w_named, w_hears, w_ripe, w_room, w_tables⟩
theorem atStart : AtStart classFile x code maxLocals ret World_1 tables_1 room_1 Calls_1 rest_1 Pre_1 launch0 p0 e0 about1 theMethod args0 below0 :=
  ⟨lists_1, trivial, launch0.admits_env _ _ _, launch0.least_env, fairChoices_fair.cas, fairChoices_fair.clock, w_frames, w_args, w_heap, w_applies, trivial, trivial, w_case⟩
end start1
theorem witness_1 : WitnessClaimed_1 := ⟨start1.p0, start1.e0, start1.about1, start1.theMethod, start1.args0, start1.below0, start1.atStart⟩
end Jvm.Pilot.@@N@@
