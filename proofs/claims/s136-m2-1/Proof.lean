import JvmDerived
import JvmDerived.Pilot.@@N@@Statement
import JvmDerived.Pilot.@@N@@Code
set_option linter.unusedVariables false
set_option linter.unusedSimpArgs false
namespace Jvm.RoadKit
open Sem ClassFile Op Lib Jvm.Stand Jvm.Free Jvm.LawKit
section Own
variable {p : Program} {l : Launch} {e : Env} {R : Room} {s : State} {m : MethodId} {args : Array Value} {below : List Frame} {meth : Method} {c : Code} {T : State} {locs : List Loc} {cells slots : Nat}
/-- from U the run ends, and Q holds of what it returns -/
def Outs (p : Program) (e : Env) (below : List Frame) (s : State) (Q : Option Value → Heap → List Loc → Prop) (C S : Nat) (U : State) : Prop :=
  ∃ s₂ o, Steps p.tables e below U s₂ ∧ s₂.status = .running ∧ Ended s₂ below o ∧ ∃ v L, o = .returned v ∧ Q v s₂.heap L ∧ FrameEnd s o s₂ L C S
variable {Q : Option Value → Heap → List Loc → Prop} {C S : Nat}
theorem Outs.of {U U' : State} (h : ∀ t, Steps p.tables e below U' t → Steps p.tables e below U t) (k : Outs p e below s Q C S U') : Outs p e below s Q C S U := by
  obtain ⟨t, o, st, r⟩ := k
  exact ⟨t, o, h t st, r⟩
theorem Outs.to {U U' : State} (h : Steps p.tables e below U U') (k : Outs p e below s Q C S U') : Outs p e below s Q C S U := by
  obtain ⟨t, o, st, r⟩ := k
  exact ⟨t, o, h.trans st, r⟩
theorem Outs.mono {U : State} {Q' : Option Value → Heap → List Loc → Prop} (k : Outs p e below s Q C S U) (h : ∀ v h L, Q v h L → Q' v h L) : Outs p e below s Q' C S U := by
  obtain ⟨t, o, st, h1, h2, v, L, h3, h4, h5⟩ := k
  exact ⟨t, o, st, h1, h2, v, L, h3, h _ _ _ h4, h5⟩
theorem Outs.ret (X : Stand p l e R s m args below meth c T locs cells slots) {g : JFrame} {v : Option Value} (hv : meth.sig.returnType = none → v = none) (hlk : meth.locks = false) (hC : cells ≤ C) (hS : slots ≤ S)
    (st : ∀ fs, (∀ (f : JFrame) (acts : List Action), f.method = m → f.locked = none → f.entered = [] → (doReturn e (T.setTop f) acts v).1 = T.setFrames fs) → Steps p.tables e below (T.setTop g) (T.setFrames fs))
    {h : Heap} (eT : T.heap = h) (q : Q v h locs) : Outs p e below s Q C S (T.setTop g) := by
  subst eT
  obtain ⟨fs, hr, hrun, hended, hW, hsame⟩ := X.leave (v := v) hv hlk
  exact ⟨_, _, st fs hr, hrun, hended, v, locs, rfl, q, ⟨_, rfl⟩, hW, hsame.mono hC hS⟩
theorem Outs.retI (X : Stand p l e R s m args below meth c T locs cells slots) (hx : p.tables.exec = Jvm.exec) {pc : Nat} {Ls : Array Slot} {z : Int32} {rest : List Value} (hret : meth.sig.returnType = some .int) (hd : decode c.code pc = .ok (.ireturn, 1)) (hlk : meth.locks = false) (hC : cells ≤ C) (hS : slots ≤ S)
    {h : Heap} (eT : T.heap = h) (q : Q (some (.int z)) h locs) : Outs p e below s Q C S (T.setTop (mkF m pc Ls (.int z :: rest))) :=
  Outs.ret X (fun h => by rw [hret] at h; cases h) hlk hC hS (fun fs hl => retOut X hx hret rfl (Or.inl ⟨rfl, Or.inl rfl, z, rfl⟩) hd hl) eT q
theorem Outs.retL (X : Stand p l e R s m args below meth c T locs cells slots) (hx : p.tables.exec = Jvm.exec) {pc : Nat} {Ls : Array Slot} {z : Int64} {rest : List Value} (hret : meth.sig.returnType = some .long) (hd : decode c.code pc = .ok (.lreturn, 1)) (hlk : meth.locks = false) (hC : cells ≤ C) (hS : slots ≤ S)
    {h : Heap} (eT : T.heap = h) (q : Q (some (.long z)) h locs) : Outs p e below s Q C S (T.setTop (mkF m pc Ls (.long z :: rest))) :=
  Outs.ret X (fun h => by rw [hret] at h; cases h) hlk hC hS (fun fs hl => retOut X hx hret rfl (Or.inr (Or.inl ⟨rfl, rfl, z, rfl⟩)) hd hl) eT q
theorem Outs.retN (X : Stand p l e R s m args below meth c T locs cells slots) (hx : p.tables.exec = Jvm.exec) {pc : Nat} {Ls : Array Slot} {z : Int32} {t : FieldType} {rest : List Value} (hret : meth.sig.returnType = some t) (ht : t = .boolean ∨ t = .byte ∨ t = .char ∨ t = .short) (hd : decode c.code pc = .ok (.ireturn, 1)) (hlk : meth.locks = false) (hC : cells ≤ C) (hS : slots ≤ S)
    {h : Heap} (eT : T.heap = h) (q : Q (some (.int (nar t z))) h locs) : Outs p e below s Q C S (T.setTop (mkF m pc Ls (.int z :: rest))) :=
  Outs.ret X (fun h => by rw [hret] at h; cases h) hlk hC hS (fun fs hl => Jvm.RoadKit.retN X hx hret ht hd hl) eT q
theorem Outs.retV (X : Stand p l e R s m args below meth c T locs cells slots) (hx : p.tables.exec = Jvm.exec) {pc : Nat} {Ls : Array Slot} (hret : meth.sig.returnType = none) (hd : decode c.code pc = .ok (.return_, 1)) (hlk : meth.locks = false) (hC : cells ≤ C) (hS : slots ≤ S)
    {h : Heap} (eT : T.heap = h) (q : Q none h locs) : Outs p e below s Q C S (T.setTop (mkF m pc Ls [])) :=
  Outs.ret X (fun _ => rfl) hlk hC hS (fun fs hl => X.returnOut hx hret hd hl) eT q
theorem Outs.retA (X : Stand p l e R s m args below meth c T locs cells slots) (hx : p.tables.exec = Jvm.exec) {pc : Nat} {Ls : Array Slot} {w : Value} {t : FieldType} {rest : List Value} (hret : meth.sig.returnType = some t) (ht : t.isReference = true) (hw : w.isRef = true) (hn : narrow t w = w) (hd : decode c.code pc = .ok (.areturn, 1)) (hlk : meth.locks = false) (hC : cells ≤ C) (hS : slots ≤ S)
    {h : Heap} (eT : T.heap = h) (q : Q (some w) h locs) : Outs p e below s Q C S (T.setTop (mkF m pc Ls (w :: rest))) :=
  Outs.ret X (fun h => by rw [hret] at h; cases h) hlk hC hS (fun fs hl => retOut X hx hret hn (Or.inr (Or.inr (Or.inr (Or.inr ⟨rfl, ht, hw⟩)))) hd hl) eT q
theorem lremM {g : JFrame} {target : State} (X : Stand p l e R s m args below meth c T locs cells slots) (hx : p.tables.exec = Jvm.exec) (hg : g.method = m) {x y : Int64} {rest : List Value} (hd : decode c.code g.pc = .ok (.lrem, 1)) (hs : g.stack = .long y :: .long x :: rest) (hy : y ≠ 0)
    (hr : Steps p.tables e below (T.setTop { g with pc := g.pc + 1, stack := .long (x % y) :: rest }) target) : Steps p.tables e below (T.setTop g) target :=
  XS.lrem X.here hx hg hd hs hy (by rw [lrem_mod]; exact hr)
/-- a body that returns v and leaves the heap as it was -/
def QR (z : Option Value) (h0 : Heap) (n0 : Nat) (v : Option Value) (h : Heap) (L : List Loc) : Prop := v = z ∧ Fr n0 L ∧ h = h0
/-- the law's own -/
def QL (n0 : Nat) (v : Option Value) (h : Heap) (L : List Loc) : Prop := v = some (.int 1) ∧ Fr n0 L
end Own
end Jvm.RoadKit
namespace Jvm.RoadKit
open Sem ClassFile Op Lib Jvm.Stand Jvm.Free Jvm.LawKit
section OwnHeap
variable {p : Program} {l : Launch} {e : Env} {R : Room} {s : State} {m : MethodId} {args : Array Value} {below : List Frame} {meth : Method} {c : Code} {T : State} {locs : List Loc} {cells slots : Nat} {Z : State} {a0 : Array Value} {h h' : Heap} {a b : Addr} {ty : FieldType} {n : Nat}
def upv {α : Type} (g : Nat → α) (k : Nat) (v : α) : Nat → α := fun j => if j = k then v else g j
theorem upv_same {α : Type} (g : Nat → α) (k : Nat) (v : α) : upv g k v k = v := if_pos rfl
theorem upv_ne {α : Type} (g : Nat → α) {k j : Nat} (v : α) (q : j ≠ k) : upv g k v j = g j := if_neg q
/-- an array of n places; place j holds f j -/
def AF (Z : State) (h : Heap) (a : Addr) (ty : FieldType) (n : Nat) (f : Nat → Value) : Prop :=
  ∃ c : Cell, Arr Z h a c ty ∧ c.slots.size = n ∧ n < 2147483648 ∧ ∀ j, j < n → c.slots[j]? = some (f j)
def AI (Z : State) (h : Heap) (a : Addr) (ty : FieldType) (n : Nat) (g : Nat → Int32) : Prop := AF Z h a ty n (fun j => .int (g j))
def AJ (Z : State) (h : Heap) (a : Addr) (ty : FieldType) (n : Nat) (g : Nat → Int64) : Prop := AF Z h a ty n (fun j => .long (g j))
theorem AF.lt {f : Nat → Value} (F : AF Z h a ty n f) : a < h.size := by obtain ⟨c, A, -⟩ := F; exact A.lt
theorem AF.ext {f : Nat → Value} (F : AF Z h a ty n f) (E : Ext h h') : AF Z h' a ty n f := by obtain ⟨c, A, r⟩ := F; exact ⟨c, A.ext E, r⟩
theorem AF.other {f : Nat → Value} {sl : Nat} {v : Value} (F : AF Z h b ty n f) (W : Wr h h' a sl v) (q : b ≠ a) : AF Z h' b ty n f := by obtain ⟨c, A, r⟩ := F; exact ⟨c, A.other W q, r⟩
theorem AF.keep {f : Nat → Value} {ws : List Addr} (F : AF Z h a ty n f) (K : Keep h h' ws) (q : a ∉ ws) : AF Z h' a ty n f := by obtain ⟨c, A, r⟩ := F; exact ⟨c, ⟨K.2.1 a c A.1 q, A.2⟩, r⟩
theorem AF.len {f : Nat → Value} (F : AF Z h a ty n f) : n < 2147483648 := by obtain ⟨c, A, -, M, -⟩ := F; exact M
theorem AF.cong {f f' : Nat → Value} (F : AF Z h a ty n f) (q : ∀ j, j < n → f j = f' j) : AF Z h a ty n f' := by
  obtain ⟨c, A, S, M, G⟩ := F
  exact ⟨c, A, S, M, fun j hj => by rw [← q j hj]; exact G j hj⟩
theorem AI.cong {g g' : Nat → Int32} (F : AI Z h a ty n g) (q : ∀ j, j < n → g j = g' j) : AI Z h a ty n g' := AF.cong F fun j hj => by rw [q j hj]
theorem AJ.cong {g g' : Nat → Int64} (F : AJ Z h a ty n g) (q : ∀ j, j < n → g j = g' j) : AJ Z h a ty n g' := AF.cong F fun j hj => by rw [q j hj]
theorem own_nat {j : Int32} {k : Nat} (hk : j.toInt = k) : j.toNatClampNeg = k := by
  show j.toInt.toNat = k
  rw [hk]; rfl
theorem own_in {cl : Cell} {j : Int32} {k : Nat} (S : cl.slots.size = n) (hk : j.toInt = k) (hn : k < n) : ¬ (j < 0 ∨ cl.slots.size ≤ j.toNatClampNeg) := by
  rw [own_nat hk, S, Int32.lt_iff_toInt_lt, hk]
  have : (0 : Int32).toInt = 0 := rfl
  omega
theorem AF.set {f : Nat → Value} {k : Nat} {v : Value} (F : AF Z h a ty n f) (W : Wr h h' a k v) : AF Z h' a ty n (upv f k v) := by
  obtain ⟨c, A, S, M, G⟩ := F
  refine ⟨c.setSlot k v, A.same W, by rw [sz_set]; exact S, M, fun j hj => ?_⟩
  have hz : j < c.slots.size := by omega
  simp only [Cell.setSlot, upv, Array.getElem?_setIfInBounds]
  by_cases q : j = k
  · subst q; simp [hz]
  · rw [if_neg (Ne.symm q), if_neg q]; exact G j hj
theorem AI.set {g : Nat → Int32} {k : Nat} {x : Int32} (F : AI Z h a ty n g) (W : Wr h h' a k (.int x)) : AI Z h' a ty n (upv g k x) :=
  AF.cong (AF.set F W) fun j _ => by simp only [upv]; split <;> rfl
theorem AJ.set {g : Nat → Int64} {k : Nat} {x : Int64} (F : AJ Z h a ty n g) (W : Wr h h' a k (.long x)) : AJ Z h' a ty n (upv g k x) :=
  AF.cong (AF.set F W) fun j _ => by simp only [upv]; split <;> rfl
theorem AF.fresh {k : ClassId} {z : Int32} {i : Nat} (A : Arr Z h a (newA k ty z) ty) (q : z.toInt = i) : AF Z h a ty i (fun _ => defaultValue ty) := by
  have S : (newA k ty z).slots.size = i := by rw [sz_new, own_nat q]
  refine ⟨_, A, S, ?_, fun j hj => ?_⟩
  · have := z.toInt_lt; omega
  · have hz : j < (newA k ty z).slots.size := by omega
    simp only [newA] at hz ⊢
    rw [Array.getElem?_eq_getElem hz]; simp
section Loads
theorem ldI (X : Stand p l e R s m args below meth c T locs cells slots) (hx : p.tables.exec = Jvm.exec) (hZ : Z.Warmed39 s.vm) (eT : T.heap = h) {g : Nat → Int32} (F : AI Z h a .int n g) {j : Int32} {k : Nat} (hk : j.toInt = k) (hn : k < n) {f : JFrame} (hg : f.method = m) {rest : List Value} (hs : f.stack = .int j :: .ref a :: rest) (hd : decode c.code f.pc = .ok (.iaload, 1)) :
    ∀ target, Steps p.tables e below (T.setTop { f with pc := f.pc + 1, stack := .int (g k) :: rest }) target → Steps p.tables e below (T.setTop f) target := by
  obtain ⟨cl, A, S, M, G⟩ := F
  intro target kt
  exact X.iaload hx (by rw [eT]; exact A.1) (State.isArrayOf_alike hZ.alike A.2.1) A.2.2 (own_in S hk hn) (by rw [own_nat hk]; exact G k hn) hg hs hd target kt
theorem ldB (X : Stand p l e R s m args below meth c T locs cells slots) (hx : p.tables.exec = Jvm.exec) (hZ : Z.Warmed39 s.vm) (eT : T.heap = h) {g : Nat → Int32} (F : AI Z h a .byte n g) {j : Int32} {k : Nat} (hk : j.toInt = k) (hn : k < n) {f : JFrame} (hg : f.method = m) {rest : List Value} (hs : f.stack = .int j :: .ref a :: rest) (hd : decode c.code f.pc = .ok (.baload, 1)) :
    ∀ target, Steps p.tables e below (T.setTop { f with pc := f.pc + 1, stack := .int (g k) :: rest }) target → Steps p.tables e below (T.setTop f) target := by
  obtain ⟨cl, A, S, M, G⟩ := F
  intro target kt
  exact X.baloadBytes hx (by rw [eT]; exact A.1) (State.isArrayOf_alike hZ.alike A.2.1) A.2.2 (own_in S hk hn) (by rw [own_nat hk]; exact G k hn) hg hs hd target kt
theorem ldJ (X : Stand p l e R s m args below meth c T locs cells slots) (hx : p.tables.exec = Jvm.exec) (hZ : Z.Warmed39 s.vm) (eT : T.heap = h) {g : Nat → Int64} (F : AJ Z h a .long n g) {j : Int32} {k : Nat} (hk : j.toInt = k) (hn : k < n) {f : JFrame} (hg : f.method = m) {rest : List Value} (hs : f.stack = .int j :: .ref a :: rest) (hd : decode c.code f.pc = .ok (.laload, 1)) :
    ∀ target, Steps p.tables e below (T.setTop { f with pc := f.pc + 1, stack := .long (g k) :: rest }) target → Steps p.tables e below (T.setTop f) target := by
  obtain ⟨cl, A, S, M, G⟩ := F
  intro target kt
  exact X.laload hx (by rw [eT]; exact A.1) (State.isArrayOf_alike hZ.alike A.2.1) A.2.2 (own_in S hk hn) (by rw [own_nat hk]; exact G k hn) hg hs hd target kt
theorem ldR (X : Stand p l e R s m args below meth c T locs cells slots) (hx : p.tables.exec = Jvm.exec) (hZ : Z.Warmed39 s.vm) (eT : T.heap = h) {g : Nat → Value} (F : AF Z h a ty n g) (hty : ty.isReference = true) {j : Int32} {k : Nat} (hk : j.toInt = k) (hn : k < n) {f : JFrame} (hg : f.method = m) {rest : List Value} (hs : f.stack = .int j :: .ref a :: rest) (hd : decode c.code f.pc = .ok (.aaload, 1)) :
    ∀ target, Steps p.tables e below (T.setTop { f with pc := f.pc + 1, stack := g k :: rest }) target → Steps p.tables e below (T.setTop f) target := by
  obtain ⟨cl, A, S, M, G⟩ := F
  intro target kt
  exact X.aaload hx (by rw [eT]; exact A.1) (State.isArrayOf_alike hZ.alike A.2.1) hty A.2.2 (own_in S hk hn) (by rw [own_nat hk]; exact G k hn) hg hs hd target kt
theorem alen (X : Stand p l e R s m args below meth c T locs cells slots) (hx : p.tables.exec = Jvm.exec) (hZ : Z.Warmed39 s.vm) (eT : T.heap = h) {g : Nat → Value} (F : AF Z h a ty n g) {z : Int32} (hz : z.toInt = n) {f : JFrame} (hg : f.method = m) {rest : List Value} (hs : f.stack = .ref a :: rest) (hd : decode c.code f.pc = .ok (.arraylength, 1)) :
    ∀ target, Steps p.tables e below (T.setTop { f with pc := f.pc + 1, stack := .int z :: rest }) target → Steps p.tables e below (T.setTop f) target := by
  obtain ⟨cl, A, S, M, G⟩ := F
  intro target kt
  have h0 : ¬ z < 0 := by
    rw [Int32.lt_iff_toInt_lt, hz]
    have : (0 : Int32).toInt = 0 := rfl
    omega
  have q : cl.slots.size.toInt32 = z := by rw [S, ← own_nat hz]; exact (back32 h0).1
  refine X.arraylength hx (by rw [eT]; exact A.1) (State.isArrayOf_alike hZ.alike A.2.1) hg hs hd target ?_
  rw [q]; exact kt
end Loads
section Stores
theorem puI (X : Stand p l e R s m args below meth c T locs cells slots) (hx : p.tables.exec = Jvm.exec) (hZ : Z.Warmed39 s.vm) (eT : T.heap = h) {g : Nat → Int32} (F : AI Z h a .int n g) {j x : Int32} {k : Nat} (hk : j.toInt = k) (hn : k < n) {f : JFrame} (hg : f.method = m) {rest : List Value} (hs : f.stack = .int x :: .int j :: .ref a :: rest) (hd : decode c.code f.pc = .ok (.iastore, 1)) :
    ∃ T' h', Stand p l e R s m args below meth c T' (locs ++ [⟨a, k⟩]) cells slots ∧ T'.heap = h' ∧ Wr h h' a k (.int x) ∧ AI Z h' a .int n (upv g k x) ∧ ∀ target, Steps p.tables e below (T'.setTop { f with pc := f.pc + 1, stack := rest }) target → Steps p.tables e below (T.setTop f) target := by
  obtain ⟨cl, A, S, M, G⟩ := id F
  obtain ⟨T', h', X', e', W, st⟩ := stI X hx hZ eT A (j := j) (own_in S hk hn) hg hs hd
  rw [own_nat hk] at X' W
  exact ⟨T', h', X', e', W, AI.set F W, st⟩
theorem puB (X : Stand p l e R s m args below meth c T locs cells slots) (hx : p.tables.exec = Jvm.exec) (hZ : Z.Warmed39 s.vm) (eT : T.heap = h) {g : Nat → Int32} (F : AI Z h a .byte n g) {j x : Int32} {k : Nat} (hk : j.toInt = k) (hn : k < n) {f : JFrame} (hg : f.method = m) {rest : List Value} (hs : f.stack = .int x :: .int j :: .ref a :: rest) (hd : decode c.code f.pc = .ok (.bastore, 1)) :
    ∃ T' h', Stand p l e R s m args below meth c T' (locs ++ [⟨a, k⟩]) cells slots ∧ T'.heap = h' ∧ Wr h h' a k (.int x.toInt8.toInt32) ∧ AI Z h' a .byte n (upv g k x.toInt8.toInt32) ∧ ∀ target, Steps p.tables e below (T'.setTop { f with pc := f.pc + 1, stack := rest }) target → Steps p.tables e below (T.setTop f) target := by
  obtain ⟨cl, A, S, M, G⟩ := id F
  obtain ⟨T', h', X', e', W, st⟩ := stB X hx hZ eT A (j := j) (own_in S hk hn) hg hs hd
  rw [own_nat hk] at X' W
  exact ⟨T', h', X', e', W, AI.set F W, st⟩
theorem puJ (X : Stand p l e R s m args below meth c T locs cells slots) (hx : p.tables.exec = Jvm.exec) (hZ : Z.Warmed39 s.vm) (eT : T.heap = h) {g : Nat → Int64} (F : AJ Z h a .long n g) {j : Int32} {x : Int64} {k : Nat} (hk : j.toInt = k) (hn : k < n) {f : JFrame} (hg : f.method = m) {rest : List Value} (hs : f.stack = .long x :: .int j :: .ref a :: rest) (hd : decode c.code f.pc = .ok (.lastore, 1)) :
    ∃ T' h', Stand p l e R s m args below meth c T' (locs ++ [⟨a, k⟩]) cells slots ∧ T'.heap = h' ∧ Wr h h' a k (.long x) ∧ AJ Z h' a .long n (upv g k x) ∧ ∀ target, Steps p.tables e below (T'.setTop { f with pc := f.pc + 1, stack := rest }) target → Steps p.tables e below (T.setTop f) target := by
  obtain ⟨cl, A, S, M, G⟩ := id F
  obtain ⟨T', h', X', e', W, st⟩ := stJ X hx hZ eT A (j := j) (own_in S hk hn) hg hs hd
  rw [own_nat hk] at X' W
  exact ⟨T', h', X', e', W, AJ.set F W, st⟩
theorem puR (X : Stand p l e R s m args below meth c T locs cells slots) (hx : p.tables.exec = Jvm.exec) (hZ : Z.Warmed39 s.vm) (eT : T.heap = h) {g : Nat → Value} (F : AF Z h a ty n g) (hty : ty.isReference = true) {j : Int32} {x : Value} (O : Sto Z h a x) {k : Nat} (hk : j.toInt = k) (hn : k < n) {f : JFrame} (hg : f.method = m) {rest : List Value} (hs : f.stack = x :: .int j :: .ref a :: rest) (hd : decode c.code f.pc = .ok (.aastore, 1)) :
    ∃ T' h', Stand p l e R s m args below meth c T' (locs ++ [⟨a, k⟩]) cells slots ∧ T'.heap = h' ∧ Wr h h' a k x ∧ AF Z h' a ty n (upv g k x) ∧ ∀ target, Steps p.tables e below (T'.setTop { f with pc := f.pc + 1, stack := rest }) target → Steps p.tables e below (T.setTop f) target := by
  obtain ⟨cl, A, S, M, G⟩ := id F
  obtain ⟨T', h', X', e', W, st⟩ := stR X hx hZ eT A (j := j) (own_in S hk hn) hty O hg hs hd
  rw [own_nat hk] at X' W
  exact ⟨T', h', X', e', W, AF.set F W, st⟩
theorem newAF (X : Stand p l e R s m args below meth c T locs cells slots) (hx : p.tables.exec = Jvm.exec) (hZ : Z.Warmed39 s.vm) {aty : ArrayType} (w : (Cond.arrayClass (newarray.typeOf aty)).before a0 Z = true) (eT : T.heap = h) {f : JFrame} (hg : f.method = m) (hd : decode c.code f.pc = .ok (.newarray aty, 2)) {z : Int32} {rest : List Value} (hs : f.stack = .int z :: rest)
    {k : Nat} (hk : z.toInt = k) {cap : Nat} (hcap : k ≤ cap) (hb : cap * 8 ≤ 536870912) (hc : cells + 1 ≤ R.cells) (hl : slots + cap ≤ R.slots) :
    ∃ T' h', Stand p l e R s m args below meth c T' locs (cells + 1) (slots + cap) ∧ T'.heap = h' ∧ Ext h h' ∧ AF Z h' h.size (newarray.typeOf aty) k (fun _ => defaultValue (newarray.typeOf aty)) ∧
      ∀ target, Steps p.tables e below (T'.setTop { f with pc := f.pc + 2, stack := .ref h.size :: rest }) target → Steps p.tables e below (T.setTop f) target := by
  have h0 : ¬ z < 0 := by
    rw [Int32.lt_iff_toInt_lt, hk]
    have : (0 : Int32).toInt = 0 := rfl
    omega
  obtain ⟨T', h', cA, X', e', E, A, st⟩ := newP X hx hZ w eT hg hd hs h0 (cap := cap) (by rw [own_nat hk]; exact hcap) hb hc hl
  exact ⟨T', h', X', e', E, AF.fresh A hk, st⟩
end Stores
theorem hide (X : Stand p l e R s m args below meth c T locs cells slots) {n0 : Nat} (N : Fr n0 locs) {C S : Nat} (hc : cells ≤ C) (hs : slots ≤ S) : ∃ L, Stand p l e R s m args below meth c T L C S ∧ Fr n0 L := ⟨locs, X.more hc hs, N⟩
theorem own_selects {args' : Array Value} {U : State} {y : MethodName} {k : Nat} (wi : (Cond.instantiable y.cls k).before args' U = true) (hpriv : U.PrivateAt y) (hinst : (Cond.instanceMethod y).before args' U = true) (hy : y.cls ≠ "java/lang/invoke/MethodHandle" ∧ y.cls ≠ "java/lang/invoke/VarHandle") : (Cond.selects y.cls y y).before args' U = true := by
  obtain ⟨c1, k1, i1, i2, -, i3, -⟩ := Cond.instantiable_spec wi
  have hni : k1.isInterface = false := by cases q : k1.isInterface <;> simp [q] at i3 ⊢
  exact Jvm.Stand.selects_self_of_private i1 i2 hni hpriv hinst hy
theorem isRef_cat {w : Value} (q : w.isRef = true) : w.category = 1 := by
  rcases ref_cases q with rfl | ⟨x, rfl⟩ <;> rfl
theorem mem1 {α : Type} (x : α) (L : List α) : x ∈ x :: L := List.mem_cons_self
theorem mem2 {α : Type} (x y : α) (L : List α) : x ∈ y :: x :: L := List.mem_cons_of_mem _ List.mem_cons_self
end OwnHeap
end Jvm.RoadKit
namespace Jvm.RoadKit
open Sem ClassFile Op Lib Jvm.Stand Jvm.Free Jvm.LawKit
section OwnCopy
variable {p : Program} {l : Launch} {e : Env} {R : Room} {s : State} {m : MethodId} {args : Array Value} {below : List Frame} {meth : Method} {c : Code} {T : State} {locs : List Loc} {cells slots : Nat} {Z : State} {a0 : Array Value} {h h' : Heap} {a b : Addr} {ty : FieldType} {n : Nat}
theorem own_map {g : Nat → Int64} {i : Nat} (hi : i < n) (d : Value) : ((List.range n).map fun j => Value.long (g j)).getD i d = .long (g i) := by
  simp [List.getD_eq_getElem?_getD, hi]
theorem own_z (h : n < 2147483648) : ∃ z : Int32, z.toInt = n := ⟨Int32.ofInt n, Int32.toInt_ofInt_of_le (by omega) (by omega)⟩
theorem AJ.arv {g : Nat → Int64} {z : Int32} (F : AJ Z h a .long n g) (hz : z.toInt = n) : ∃ k, Arv Z h a k .long z ((List.range n).map fun j => Value.long (g j)) (.long 0) := by
  obtain ⟨c, A, S, M, G⟩ := F
  refine ⟨c.cls, c, A, rfl, by rw [S, own_nat hz], ?_, fun i hi => ?_, fun i hi => ?_⟩
  · rw [Int32.lt_iff_toInt_lt, hz]
    have : (0 : Int32).toInt = 0 := rfl
    omega
  · rw [own_map (by omega)]; exact G i (by omega)
  · rw [own_map (by omega)]; rfl
theorem Arv.aj {g : Nat → Int64} {z : Int32} {k : ClassId} {vs : List Value} {d : Value} (F : Arv Z h a k .long z vs d) (hz : z.toInt = n) (q : ∀ j, j < n → vs.getD j d = .long (g j)) : AJ Z h a .long n g := by
  obtain ⟨c, A, -, S, M, G, -⟩ := F
  rw [own_nat hz] at S
  have := z.toInt_lt
  exact ⟨c, A, S, by omega, fun j hj => by rw [G j (by omega), q j hj]⟩
theorem cpJ (X : Stand p l e R s m args below meth c T locs cells slots) (hx : p.tables.exec = Jvm.exec) (hZ : Z.Warmed39 s.vm) {own : String} {index : Nat} (hown : s.vm.findClass own = some m.cls)
    (w1 : (Cond.methodLink own index Jvm.Stand.acN).before a0 Z = true) (w2 : (Cond.native Jvm.Stand.acN).before a0 Z = true) (w3 : (Cond.static Jvm.Stand.acN).before a0 Z = true) (w4 : (Cond.initialized "java/lang/System").before a0 Z = true) (eT : T.heap = h)
    {n1 n2 k : Nat} {g1 g2 : Nat → Int64} (A : AJ Z h a .long n1 g1) (B : AJ Z h b .long n2 g2) {nn : Int32} (hk : nn.toInt = k) (h1 : k ≤ n1) (h2 : k ≤ n2) {n0 : Nat} (N : Fr n0 locs) (ge : n0 ≤ b)
    {f : JFrame} (hg : f.method = m) (hsize : f.locals.size = c.maxLocals) {rest : List Value} (hs : f.stack = .int nn :: .int 0 :: .ref b :: .int 0 :: .ref a :: rest) (hd : decode c.code f.pc = .ok (.invokestatic index, 3))
    (hf : 1 ≤ R.frames) {W : Nat} (hW : 2 * f.monitorRoom + (rest.map fun v => v.category).sum ≤ W) (hlo : W + (nativeFrameWords "java/lang/System" "arraycopy" 5 + 11) ≤ R.locals) :
    ∃ T' h' L, Stand p l e R s m args below meth c T' L cells slots ∧ T'.heap = h' ∧ Fr n0 L ∧ Keep h h' [b] ∧ AJ Z h' b .long n2 (fun j => if j < k then g1 j else g2 j) ∧
      ∀ target, Steps p.tables e below (T'.setTop { f with pc := f.pc + 3, stack := rest }) target → Steps p.tables e below (T.setTop f) target := by
  obtain ⟨z1, hz1⟩ := own_z (AF.len A)
  obtain ⟨z2, hz2⟩ := own_z (AF.len B)
  obtain ⟨k1, A1⟩ := AJ.arv A hz1
  obtain ⟨k2, B1⟩ := AJ.arv B hz2
  have e0 : (0 : Int32).toNatClampNeg = 0 := rfl
  have en : nn.toNatClampNeg = k := own_nat hk
  obtain ⟨T', h', L, X', e', N', K', V', st⟩ := cpA X hx hZ hown w1 w2 w3 w4 eT A1 B1 (sp := 0) (dp := 0) (nn := nn) (us := (List.range nn.toNatClampNeg).map fun i => ((List.range n1).map fun j => Value.long (g1 j)).getD ((0 : Int32).toNatClampNeg + i) (.long 0)) (Or.inl ⟨rfl, rfl⟩) (by decide) (by decide)
    (by rw [Int32.lt_iff_toInt_lt, hk]; have : (0 : Int32).toInt = 0 := rfl
        omega)
    (by rw [e0, en, own_nat hz1]; omega) (by rw [e0, en, own_nat hz2]; omega) rfl (by rw [e0, en]; simp; exact h2) N ge hg hsize hs hd hf hW hlo
  refine ⟨T', h', L, X', e', N', K', Arv.aj V' hz2 (fun j hj => ?_), st⟩
  rw [e0, en]
  simp only [List.take_zero, List.nil_append, Nat.zero_add, List.getD_eq_getElem?_getD]
  by_cases q : j < k
  · rw [List.getElem?_append_left (by simp; exact q), if_pos q]
    simp [q, Nat.lt_of_lt_of_le q h1]
  · rw [List.getElem?_append_right (by simp; omega), if_neg q]
    simp only [List.length_map, List.length_range, List.getElem?_drop]
    rw [show k + (j - k) = j by omega]
    simp [hj]
end OwnCopy
end Jvm.RoadKit
namespace Jvm.Pilot.@@N@@
open Jvm Jvm.ClassFile Sem Op Lib Jvm.Free Jvm.Stand Jvm.LawKit Jvm.RoadKit Bundle Jvm.Pilot.@@N@@.Jvm.D
def colA (q : Int64) : Nat → Int64 → Int64
  | 0, a => a
  | n + 1, a => colA q n ((a * q) + 1)
theorem own_left {i i1 : Int32} {n : Nat} (h : i1.toInt - i.toInt = (n : Int) + 1) : i < i1 ∧ i1.toInt - (i + 1).toInt = n := by
  have a := c_iadd i 1
  have h1 : (1 : Int32).toInt = 1 := by decide
  have r1 := rng32 i
  have r2 := rng32 i1
  have r3 := rng32 (i + 1)
  rw [Int32.lt_iff_toInt_lt]
  omega
theorem d5_5 : decode prog_10_method_16_code 5 = .ok (.iload 4, 2) := by decide +kernel
theorem d5_7 : decode prog_10_method_16_code 7 = .ok (.iload_n 1, 1) := by decide +kernel
theorem d5_8 : decode prog_10_method_16_code 8 = .ok (.if_icmp .ge 16, 3) := by decide +kernel
theorem d5_24 : decode prog_10_method_16_code 24 = .ok (.lload_n 2, 1) := by decide +kernel
theorem d5_25 : decode prog_10_method_16_code 25 = .ok (.lreturn, 1) := by decide +kernel
theorem d5_11 : decode prog_10_method_16_code 11 = .ok (.lload_n 2, 1) := by decide +kernel
theorem d5_12 : decode prog_10_method_16_code 12 = .ok (.iload_n 0, 1) := by decide +kernel
theorem d5_13 : decode prog_10_method_16_code 13 = .ok (.i2l, 1) := by decide +kernel
theorem d5_14 : decode prog_10_method_16_code 14 = .ok (.lmul, 1) := by decide +kernel
theorem d5_15 : decode prog_10_method_16_code 15 = .ok (.lconst 1, 1) := by decide +kernel
theorem d5_16 : decode prog_10_method_16_code 16 = .ok (.ladd, 1) := by decide +kernel
theorem d5_17 : decode prog_10_method_16_code 17 = .ok (.lstore_n 2, 1) := by decide +kernel
theorem d5_18 : decode prog_10_method_16_code 18 = .ok (.iinc 4 1, 3) := by decide +kernel
theorem d5_21 : decode prog_10_method_16_code 21 = .ok (.goto (-16), 3) := by decide +kernel
set_option maxRecDepth 65536 in
set_option maxHeartbeats 40000000 in
theorem loopc {p : Program} {l : Launch} {e : Env} {s : State} {m : MethodId} {args : Array Value} {below : List Frame} {meth : Method} {c : Code} {Z : State} {a0 : Array Value} (hx : p.tables.exec = Jvm.exec) (hZ : Z.Warmed39 s.vm) (hw : ∀ d ∈ tables_1, d.before a0 Z = true) (hby : c.code = prog_10_method_16_code) (hml : c.maxLocals = 5) (hown : s.vm.findClass "com/example/bitmend/bitmend/CodeParameters" = some m.cls) (hnm : meth.name = "columns") (hret : meth.sig.returnType = some .long) (hlk : meth.locks = false) (i0 i1 : Int32) (h0 : Heap) (n0 : Nat) : ∀ (n : Nat) (T : State) (locs : List Loc) (X0 : Stand p l e ({ frames := 0, cells := 0, slots := 0, locals := 0 } : Room) s m args below meth c T locs 0 0) (N0 : Fr n0 locs) (e0 : T.heap = h0) (i : Int32) (ch : Int64) (hi : i1.toInt - i.toInt = n),
    Outs p e below s (QR (some (.long (colA (i0.toInt64) n ch))) h0 n0) 0 0 (T.setTop (mkF m 5 #[.val (.int i0), .val (.int i1), .val (.long ch), .second, .val (.int i)] [])) := by
  intro n
  induction n with
  | zero =>
    intro T locs X0 N0 e0 i ch hi
    have h8 : ¬ i < i1 := by rw [Int32.lt_iff_toInt_lt]; omega
    refine Outs.of (U' := T.setTop (mkF m 25 #[.val (.int i0), .val (.int i1), .val (.long ch), .second, .val (.int i)] [(.long ch)])) (fun t k => ?_) ?_
    · refine XS.iload X0.here hx rfl (hb hby d5_5) rfl ?_
      refine XS.iloadN X0.here hx rfl (hb hby d5_7) rfl ?_
      refine XS.icmpYes X0.here hx rfl (pc0 := 8) (pc' := 24) rfl (hb hby d5_8) rfl (flt h8).2.1 (by decide) (by decide) ?_
      refine XS.lloadN X0.here hx rfl (hb hby d5_24) rfl ?_
      exact k
    exact Outs.retL X0 hx hret (hb hby d5_25) hlk (by decide) (by decide) e0 ⟨rfl, N0, rfl⟩
  | succ n ih =>
    intro T locs X0 N0 e0 i ch hi
    have h8 := own_left hi
    refine Outs.of (U' := T.setTop (mkF m 5 #[.val (.int i0), .val (.int i1), .val (.long ((ch * (i0.toInt64)) + (1 : Int64))), .second, .val (.int (i + (1 : Int32)))] [])) (fun t k => ?_) ?_
    · refine XS.iload X0.here hx rfl (hb hby d5_5) rfl ?_
      refine XS.iloadN X0.here hx rfl (hb hby d5_7) rfl ?_
      refine XS.icmpNo X0.here hx rfl (hb hby d5_8) rfl (tlt h8.1).2.1 ?_
      refine XS.lloadN X0.here hx rfl (hb hby d5_11) rfl ?_
      refine XS.iloadN X0.here hx rfl (hb hby d5_12) rfl ?_
      refine XS.i2l X0.here hx rfl (hb hby d5_13) rfl ?_
      refine XS.lmul X0.here hx rfl (hb hby d5_14) rfl ?_
      refine XS.lconst X0.here hx rfl (hb hby d5_15) ?_
      refine XS.ladd X0.here hx rfl (hb hby d5_16) rfl ?_
      refine XS.lstoreN X0.here hx rfl (hb hby d5_17) rfl (l' := #[.val (.int i0), .val (.int i1), .val (.long ((ch * (i0.toInt64)) + (1 : Int64))), .second, .val (.int i)]) rfl ?_
      refine XS.iinc X0.here hx rfl (hb hby d5_18) rfl (l' := #[.val (.int i0), .val (.int i1), .val (.long ((ch * (i0.toInt64)) + (1 : Int64))), .second, .val (.int (i + (1 : Int32)))]) rfl ?_
      refine XS.goto X0.here hx rfl (pc0 := 21) (pc' := 5) rfl (hb hby d5_21) (by decide) (by decide) ?_
      exact k
    exact ih T locs X0 N0 e0 (i + 1) ((ch * (i0.toInt64)) + 1) h8.2
theorem ef_5 (m : MethodId) (x0 : Int32) (x1 : Int32) : entryFrame m #[(.int x0), (.int x1)] 5 = mkF m 0 #[.val (.int x0), .val (.int x1), .unset, .unset, .unset] [] := by first | (simp [entryFrame, mkF, argsToLocals, Value.category]; done) | rfl
theorem d5_0 : decode prog_10_method_16_code 0 = .ok (.lconst 0, 1) := by decide +kernel
theorem d5_1 : decode prog_10_method_16_code 1 = .ok (.lstore_n 2, 1) := by decide +kernel
theorem d5_2 : decode prog_10_method_16_code 2 = .ok (.iconst 0, 1) := by decide +kernel
theorem d5_3 : decode prog_10_method_16_code 3 = .ok (.istore 4, 2) := by decide +kernel
theorem pn_5 : plainName "com/example/bitmend/bitmend/CodeParameters" = true := by first | (simp [plainName, overriddenIn]; done) | decide +kernel
def F_f5 (i0 : Int32) (i1 : Int32) : Int64 := (colA (i0.toInt64) (i1.toInt.toNat) (0 : Int64))
set_option maxRecDepth 65536 in
set_option maxHeartbeats 40000000 in
theorem rm5 (l : Launch) (Z : State) (a0 : Array Value) (hw : ∀ d ∈ tables_1, d.before a0 Z = true) (ws : List Jvm.Cond) (i0 : Int32) (i1 : Int32)  (h0 : Heap) (n0 : Nat) (hpos : 0 ≤ i1.toInt) :
    MetFree l (⟨"com/example/bitmend/bitmend/CodeParameters", "columns", "(II)J"⟩ : MethodName) (head1 (Jvm.Cond.code (⟨"com/example/bitmend/bitmend/CodeParameters", "columns", "(II)J"⟩ : MethodName) prog_10_method_16_code 5 (some .long) :: ws) ({ frames := 0, cells := 0, slots := 0, locals := 0 } : Room)) (fun a U => a = #[(.int i0), (.int i1)] ∧ Z.Warmed39 U.vm ∧ U.heap = h0) (fun _ _ _ _ _ => True) (fun _ U o U' => ∃ v L, o = .returned v ∧ QR (some (.long (F_f5 i0 i1))) h0 n0 v U'.heap L ∧ FrameEnd U o U' L ({ frames := 0, cells := 0, slots := 0, locals := 0 } : Room).cells ({ frames := 0, cells := 0, slots := 0, locals := 0 } : Room).slots) := by
  refine MetFree.of_bodySF (plainFor_of_name pn_5) hisR ?_
  intro p e s m args below meth c s₁ Bd hml0 hP hK
  obtain ⟨rfl, hZ, hh⟩ := hP
  have hx := Bd.exec
  have hby := Bd.bytes
  have hml : c.maxLocals = 5 := hml0
  have hown : s.vm.findClass "com/example/bitmend/bitmend/CodeParameters" = some m.cls := findClass_of_methodNamed Bd.named
  have hnm := (name_of_methodNamed Bd.named Bd.method).1
  have hret := Bd.returns
  have hlk : meth.locks = false := BodyLoose.notSynchronized Bd
  have X0 : Stand p l e ({ frames := 0, cells := 0, slots := 0, locals := 0 } : Room) s m #[(.int i0), (.int i1)] below meth c s₁ [] 0 0 := Stand.of_body Bd
  have e0 : s₁.heap = h0 := by rw [← hh, Bd.state]; rfl
  have N0 := Fr.nil n0
  show Outs p e below s (QR (some (.long (F_f5 i0 i1))) h0 n0) _ _ _
  refine Outs.of (U' := s₁.setTop (mkF m 0 #[.val (.int i0), .val (.int i1), .unset, .unset, .unset] [])) (fun t k => castTop (ef_5 m i0 i1) k) ?_
  refine Outs.of (U' := s₁.setTop (mkF m 5 #[.val (.int i0), .val (.int i1), .val (.long (0 : Int64)), .second, .val (.int (0 : Int32))] [])) (fun t k => ?_) ?_
  · refine XS.lconst X0.here hx rfl (hb hby d5_0) ?_
    refine XS.lstoreN X0.here hx rfl (hb hby d5_1) rfl (l' := #[.val (.int i0), .val (.int i1), .val (.long (0 : Int64)), .second, .unset]) rfl ?_
    refine XS.iconst X0.here hx rfl (hb hby d5_2) ?_
    refine XS.istore X0.here hx rfl (hb hby d5_3) rfl (l' := #[.val (.int i0), .val (.int i1), .val (.long (0 : Int64)), .second, .val (.int (0 : Int32))]) rfl ?_
    exact k
  rw [show (F_f5 i0 i1) = (colA (i0.toInt64) (i1.toInt.toNat) (0 : Int64)) from rfl]
  exact loopc hx hZ hw hby hml hown hnm hret hlk i0 i1 h0 n0 _ s₁ _ X0 N0 e0 0 0 (by rw [Int.toNat_of_nonneg hpos]; exact Int.sub_zero _)
theorem ef_7 (m : MethodId) (x0 : Int32) (x1 : Int32) : entryFrame m #[(.int x0), (.int x1)] 2 = mkF m 0 #[.val (.int x0), .val (.int x1)] [] := by first | (simp [entryFrame, mkF, argsToLocals, Value.category]; done) | rfl
theorem d7_0 : decode jdk_29_method_69_code 0 = .ok (.iload_n 0, 1) := by decide +kernel
theorem d7_1 : decode jdk_29_method_69_code 1 = .ok (.iload_n 1, 1) := by decide +kernel
theorem d7_2 : decode jdk_29_method_69_code 2 = .ok (.if_icmp .gt 7, 3) := by decide +kernel
theorem d7_9 : decode jdk_29_method_69_code 9 = .ok (.iload_n 1, 1) := by decide +kernel
theorem d7_5 : decode jdk_29_method_69_code 5 = .ok (.iload_n 0, 1) := by decide +kernel
theorem d7_6 : decode jdk_29_method_69_code 6 = .ok (.goto 4, 3) := by decide +kernel
theorem d7_10 : decode jdk_29_method_69_code 10 = .ok (.ireturn, 1) := by decide +kernel
def f7_2_s0 (i0 : Int32) (i1 : Int32) : Int32 := (if i1 < i0 then i1 else i0)
def F_f7 (i0 : Int32) (i1 : Int32) : Int32 := (f7_2_s0 i0 i1)
set_option maxRecDepth 65536 in
set_option maxHeartbeats 40000000 in
theorem rm7 (l : Launch) (Z : State) (a0 : Array Value) (hw : ∀ d ∈ tables_1, d.before a0 Z = true) (ws : List Jvm.Cond) (i0 : Int32) (i1 : Int32)  (h0 : Heap) (n0 : Nat)  :
    MetFree l (⟨"java/lang/Math", "min", "(II)I"⟩ : MethodName) (head1 (Jvm.Cond.code (⟨"java/lang/Math", "min", "(II)I"⟩ : MethodName) jdk_29_method_69_code 2 (some .int) :: ws) ({ frames := 0, cells := 0, slots := 0, locals := 0 } : Room)) (fun a U => a = #[(.int i0), (.int i1)] ∧ Z.Warmed39 U.vm ∧ U.heap = h0) (fun _ _ _ _ _ => True) (fun _ U o U' => ∃ v L, o = .returned v ∧ QR (some (.int (F_f7 i0 i1))) h0 n0 v U'.heap L ∧ FrameEnd U o U' L ({ frames := 0, cells := 0, slots := 0, locals := 0 } : Room).cells ({ frames := 0, cells := 0, slots := 0, locals := 0 } : Room).slots) := by
  refine MetFree.of_bodySF (Jvm.Free.JP.mathPlain rfl (by decide +kernel)) hisR ?_
  intro p e s m args below meth c s₁ Bd hml0 hP hK
  obtain ⟨rfl, hZ, hh⟩ := hP
  have hx := Bd.exec
  have hby := Bd.bytes
  have hml : c.maxLocals = 2 := hml0
  have hown : s.vm.findClass "java/lang/Math" = some m.cls := findClass_of_methodNamed Bd.named
  have hnm := (name_of_methodNamed Bd.named Bd.method).1
  have hret := Bd.returns
  have hlk : meth.locks = false := BodyLoose.notSynchronized Bd
  have X0 : Stand p l e ({ frames := 0, cells := 0, slots := 0, locals := 0 } : Room) s m #[(.int i0), (.int i1)] below meth c s₁ [] 0 0 := Stand.of_body Bd
  have e0 : s₁.heap = h0 := by rw [← hh, Bd.state]; rfl
  have N0 := Fr.nil n0
  show Outs p e below s (QR (some (.int (F_f7 i0 i1))) h0 n0) _ _ _
  refine Outs.of (U' := s₁.setTop (mkF m 0 #[.val (.int i0), .val (.int i1)] [])) (fun t k => castTop (ef_7 m i0 i1) k) ?_
  refine Outs.of (U' := s₁.setTop (mkF m 10 #[.val (.int i0), .val (.int i1)] [(.int (f7_2_s0 i0 i1))])) (fun t k => ?_) ?_
  · refine XS.iloadN X0.here hx rfl (hb hby d7_0) rfl ?_
    refine XS.iloadN X0.here hx rfl (hb hby d7_1) rfl ?_
    by_cases hc2 : i1 < i0
    · refine XS.icmpYes X0.here hx rfl (pc0 := 2) (pc' := 9) rfl (hb hby d7_2) rfl (tlt hc2).2.2.1 (by decide) (by decide) ?_
      refine XS.iloadN X0.here hx rfl (hb hby d7_9) rfl ?_
      rw [show (f7_2_s0 i0 i1) = i1 from (if_pos hc2)] at k
      exact k
    · refine XS.icmpNo X0.here hx rfl (hb hby d7_2) rfl (flt hc2).2.2.1 ?_
      refine XS.iloadN X0.here hx rfl (hb hby d7_5) rfl ?_
      refine XS.goto X0.here hx rfl (pc0 := 6) (pc' := 10) rfl (hb hby d7_6) (by decide) (by decide) ?_
      rw [show (f7_2_s0 i0 i1) = i0 from (if_neg hc2)] at k
      exact k
  exact Outs.retI X0 hx hret (hb hby d7_10) hlk (by decide) (by decide) e0 ⟨congrArg (fun z_ => some (Value.int z_)) (show (F_f7 i0 i1) = (f7_2_s0 i0 i1) from rfl).symm, N0, rfl⟩
theorem ef_6 (m : MethodId) (x0 : Addr) (x1 : Int32) : entryFrame m #[(.ref x0), (.int x1)] 3 = mkF m 0 #[.val (.ref x0), .val (.int x1), .unset] [] := by first | (simp [entryFrame, mkF, argsToLocals, Value.category]; done) | rfl
theorem d6_0 : decode jdk_65_method_124_code 0 = .ok (.iload_n 1, 1) := by decide +kernel
theorem d6_1 : decode jdk_65_method_124_code 1 = .ok (.aload_n 0, 1) := by decide +kernel
theorem d6_2 : decode jdk_65_method_124_code 2 = .ok (.arraylength, 1) := by decide +kernel
theorem d6_3 : decode jdk_65_method_124_code 3 = .ok (.if_icmp .ne 11, 3) := by decide +kernel
theorem d6_14 : decode jdk_65_method_124_code 14 = .ok (.iload_n 1, 1) := by decide +kernel
theorem d6_15 : decode jdk_65_method_124_code 15 = .ok (.newarray .long, 2) := by decide +kernel
theorem d6_17 : decode jdk_65_method_124_code 17 = .ok (.astore_n 2, 1) := by decide +kernel
theorem d6_18 : decode jdk_65_method_124_code 18 = .ok (.aload_n 0, 1) := by decide +kernel
theorem d6_19 : decode jdk_65_method_124_code 19 = .ok (.iconst 0, 1) := by decide +kernel
theorem d6_20 : decode jdk_65_method_124_code 20 = .ok (.aload_n 2, 1) := by decide +kernel
theorem d6_21 : decode jdk_65_method_124_code 21 = .ok (.iconst 0, 1) := by decide +kernel
theorem d6_22 : decode jdk_65_method_124_code 22 = .ok (.aload_n 0, 1) := by decide +kernel
theorem d6_23 : decode jdk_65_method_124_code 23 = .ok (.arraylength, 1) := by decide +kernel
theorem d6_24 : decode jdk_65_method_124_code 24 = .ok (.iload_n 1, 1) := by decide +kernel
theorem pd_5 : parseMethodDescriptor "(II)I" = some ⟨[.int, .int], some .int⟩ := by decide +kernel
theorem d6_25 : decode jdk_65_method_124_code 25 = .ok (.invokestatic 304, 3) := by decide +kernel
theorem d6_28 : decode jdk_65_method_124_code 28 = .ok (.invokestatic 150, 3) := by decide +kernel
theorem d6_31 : decode jdk_65_method_124_code 31 = .ok (.aload_n 2, 1) := by decide +kernel
theorem d6_32 : decode jdk_65_method_124_code 32 = .ok (.areturn, 1) := by decide +kernel
theorem pn_6 : plainName "java/util/Arrays" = true := by first | (simp [plainName, overriddenIn]; done) | decide +kernel
def cp2_g28 (g : Nat → Int64) : Nat → Int64 := (fun j_ => if j_ < 32 then g j_ else (fun _ => (0 : Int64)) j_)
def Q_cp2 (Z : State) (o0 : Addr) (g : Nat → Int64) (h0 : Heap) (n0 : Nat) (v : Option Value) (h : Heap) (L : List Loc) : Prop := ∃ b1 : Addr, n0 ≤ b1 ∧ h0.size ≤ b1 ∧ v = some (.ref b1) ∧ Fr n0 L ∧ Keep h0 h [] ∧ AJ Z h b1 .long 32 (cp2_g28 g)
set_option maxRecDepth 65536 in
set_option maxHeartbeats 40000000 in
theorem rmcp2 (l : Launch) (Z : State) (a0 : Array Value) (hw : ∀ d ∈ tables_1, d.before a0 Z = true) (ws : List Jvm.Cond) (o0 : Addr) (g : Nat → Int64) (h0 : Heap) (n0 : Nat) (Z0 : n0 ≤ h0.size) (A_o0 : AJ Z h0 o0 .long 33 g) :
    MetFree l (⟨"java/util/Arrays", "copyOf", "([JI)[J"⟩ : MethodName) (head1 (Jvm.Cond.code (⟨"java/util/Arrays", "copyOf", "([JI)[J"⟩ : MethodName) jdk_65_method_124_code 3 (some (.array .long)) :: ws) ({ frames := 1, cells := 1, slots := 32, locals := 18 } : Room)) (fun a U => a = #[(.ref o0), (.int (32 : Int32))] ∧ Z.Warmed39 U.vm ∧ U.heap = h0) (fun _ _ _ _ _ => True) (fun _ U o U' => ∃ v L, o = .returned v ∧ Q_cp2 Z o0 g h0 n0 v U'.heap L ∧ FrameEnd U o U' L ({ frames := 1, cells := 1, slots := 32, locals := 18 } : Room).cells ({ frames := 1, cells := 1, slots := 32, locals := 18 } : Room).slots) := by
  refine MetFree.of_bodySF (plainFor_of_name pn_6) hisR ?_
  intro p e s m args below meth c s₁ Bd hml0 hP hK
  obtain ⟨rfl, hZ, hh⟩ := hP
  have hx := Bd.exec
  have hby := Bd.bytes
  have hml : c.maxLocals = 3 := hml0
  have hown : s.vm.findClass "java/util/Arrays" = some m.cls := findClass_of_methodNamed Bd.named
  have hnm := (name_of_methodNamed Bd.named Bd.method).1
  have hret := Bd.returns
  have hlk : meth.locks = false := BodyLoose.notSynchronized Bd
  have X0 : Stand p l e ({ frames := 1, cells := 1, slots := 32, locals := 18 } : Room) s m #[(.ref o0), (.int (32 : Int32))] below meth c s₁ [] 0 0 := Stand.of_body Bd
  have e0 : s₁.heap = h0 := by rw [← hh, Bd.state]; rfl
  have N0 := Fr.nil n0
  show Outs p e below s (Q_cp2 Z o0 g h0 n0) _ _ _
  refine Outs.of (U' := s₁.setTop (mkF m 0 #[.val (.ref o0), .val (.int (32 : Int32)), .unset] [])) (fun t k => castTop (ef_6 m o0 (32 : Int32)) k) ?_
  refine Outs.of (U' := s₁.setTop (mkF m 2 #[.val (.ref o0), .val (.int (32 : Int32)), .unset] [(.ref o0), (.int (32 : Int32))])) (fun t k => ?_) ?_
  · refine XS.iloadN X0.here hx rfl (hb hby d6_0) rfl ?_
    refine XS.aloadN X0.here hx rfl (hb hby d6_1) rfl rfl ?_
    exact k
  refine Outs.of (alen X0 hx hZ e0 A_o0 (z := (33 : Int32)) rfl (f := (mkF m 2 #[.val (.ref o0), .val (.int (32 : Int32)), .unset] [(.ref o0), (.int (32 : Int32))])) rfl rfl (hb hby d6_2)) ?_
  show Outs p e below s _ _ _ (s₁.setTop (mkF m 3 #[.val (.ref o0), .val (.int (32 : Int32)), .unset] [(.int (33 : Int32)), (.int (32 : Int32))]))
  refine Outs.of (U' := s₁.setTop (mkF m 15 #[.val (.ref o0), .val (.int (32 : Int32)), .unset] [(.int (32 : Int32))])) (fun t k => ?_) ?_
  · refine XS.icmpYes X0.here hx rfl (pc0 := 3) (pc' := 14) rfl (hb hby d6_3) rfl (feq (show ¬ ((32 : Int32) = (33 : Int32)) from (by decide))).2 (by decide) (by decide) ?_
    refine XS.iloadN X0.here hx rfl (hb hby d6_14) rfl ?_
    exact k
  obtain ⟨T1, h1, X1, e1, E1, A1, st1⟩ := newAF X0 hx hZ (aty := .long) (hw _ (List.mem_of_getElem? (i := 22) rfl)) e0 (f := (mkF m 15 #[.val (.ref o0), .val (.int (32 : Int32)), .unset] [(.int (32 : Int32))])) rfl (hb hby d6_15) rfl (k := 32) rfl (cap := 32) (by decide) (by decide) (by decide) (by decide)
  obtain ⟨b1, g1⟩ : ∃ z, z = h0.size := ⟨_, rfl⟩
  rw [← g1] at A1 st1
  have g_b1 : n0 ≤ b1 := Nat.le_trans Z0 (Nat.le_of_eq g1.symm)
  have sz_b1 : h0.size ≤ b1 := Nat.le_trans (Keep.refl h0 []).1 (Nat.le_of_eq g1.symm)
  have ne_o0_b1 : o0 ≠ b1 := Nat.ne_of_lt (Nat.lt_of_lt_of_eq A_o0.lt g1.symm)
  have V1 : AJ Z h1 b1 .long 32 (fun _ => (0 : Int64)) := A1
  refine Outs.of st1 ?_
  show Outs p e below s _ _ _ (T1.setTop (mkF m 17 #[.val (.ref o0), .val (.int (32 : Int32)), .unset] [(.ref b1)]))
  refine Outs.of (U' := T1.setTop (mkF m 23 #[.val (.ref o0), .val (.int (32 : Int32)), .val (.ref b1)] [(.ref o0), (.int (0 : Int32)), (.ref b1), (.int (0 : Int32)), (.ref o0)])) (fun t k => ?_) ?_
  · refine XS.astoreN X1.here hx rfl (hb hby d6_17) rfl rfl (l' := #[.val (.ref o0), .val (.int (32 : Int32)), .val (.ref b1)]) rfl ?_
    refine XS.aloadN X1.here hx rfl (hb hby d6_18) rfl rfl ?_
    refine XS.iconst X1.here hx rfl (hb hby d6_19) ?_
    refine XS.aloadN X1.here hx rfl (hb hby d6_20) rfl rfl ?_
    refine XS.iconst X1.here hx rfl (hb hby d6_21) ?_
    refine XS.aloadN X1.here hx rfl (hb hby d6_22) rfl rfl ?_
    exact k
  have f2 : AJ Z h1 o0 .long 33 g := (A_o0.ext E1)
  refine Outs.of (alen X1 hx hZ e1 f2 (z := (33 : Int32)) rfl (f := (mkF m 23 #[.val (.ref o0), .val (.int (32 : Int32)), .val (.ref b1)] [(.ref o0), (.int (0 : Int32)), (.ref b1), (.int (0 : Int32)), (.ref o0)])) rfl rfl (hb hby d6_23)) ?_
  show Outs p e below s _ _ _ (T1.setTop (mkF m 24 #[.val (.ref o0), .val (.int (32 : Int32)), .val (.ref b1)] [(.int (33 : Int32)), (.int (0 : Int32)), (.ref b1), (.int (0 : Int32)), (.ref o0)]))
  refine Outs.of (U' := T1.setTop (mkF m 25 #[.val (.ref o0), .val (.int (32 : Int32)), .val (.ref b1)] [(.int (32 : Int32)), (.int (33 : Int32)), (.int (0 : Int32)), (.ref b1), (.int (0 : Int32)), (.ref o0)])) (fun t k => ?_) ?_
  · refine XS.iloadN X1.here hx rfl (hb hby d6_24) rfl ?_
    exact k
  obtain ⟨_, _, ⟨T3, L3, k3, n3⟩, -, X3, ⟨Lc3, hQ3, l3, y3, z3⟩, st3⟩ := Jvm.LawKit.callS X1 hx (y := (⟨"java/lang/Math", "min", "(II)I"⟩ : MethodName)) hown (mvT hZ (hw _ (List.mem_of_getElem? (i := 32) rfl))) (mvT hZ (hw _ (List.mem_of_getElem? (i := 33) rfl))) (mvT hZ (hw _ (List.mem_of_getElem? (i := 8) rfl))) (mvT hZ (hw _ (List.mem_of_getElem? (i := 34) rfl))) (by decide) (backOf (W := 4) (rm7 l Z a0 hw [] (33 : Int32) (32 : Int32) h1 n0 ) hZ (hw _ (List.mem_of_getElem? (i := 34) rfl)) (hw _ (List.mem_of_getElem? (i := 8) rfl)) (by decide) (by decide)) (g := (mkF m 25 #[.val (.ref o0), .val (.int (32 : Int32)), .val (.ref b1)] [(.int (32 : Int32)), (.int (33 : Int32)), (.int (0 : Int32)), (.ref b1), (.int (0 : Int32)), (.ref o0)])) rfl (by rw [hml]; rfl) (argsL := [(.int (33 : Int32)), (.int (32 : Int32))]) (rest := [(.int (0 : Int32)), (.ref b1), (.int (0 : Int32)), (.ref o0)]) (lenOf pd_5 rfl) rfl (by show 2 * 0 + _ ≤ _; exact Nat.le_of_eq rfl) (hb hby d6_25) (fun _ _ => ⟨rfl, e1, (by decide : 1 + 0 ≤ _), (by decide : 32 + 0 ≤ _)⟩)
  dsimp only [Pt.U, Pt.locs, Pt.cells, Pt.slots] at X3 l3 y3 z3 st3 hQ3
  subst l3 y3 z3
  obtain ⟨rfl, N3q, e3⟩ := hQ3
  have N3 := Fr.app N0 N3q
  obtain ⟨Lh3, X3, N3⟩ := hide X3 N3 (C := 1) (S := 32) (by decide) (by decide)
  refine Outs.of st3 ?_
  show Outs p e below s _ _ _ (T3.setTop (mkF m 28 #[.val (.ref o0), .val (.int (32 : Int32)), .val (.ref b1)] [(.int (32 : Int32)), (.int (0 : Int32)), (.ref b1), (.int (0 : Int32)), (.ref o0)]))
  obtain ⟨T4, h4, Lc4, X4, e4, N4, K4, V4, st4⟩ := cpJ X3 hx hZ hown (hw _ (List.mem_of_getElem? (i := 35) rfl)) (hw _ (List.mem_of_getElem? (i := 38) rfl)) (hw _ (List.mem_of_getElem? (i := 36) rfl)) (hw _ (List.mem_of_getElem? (i := 37) rfl)) e3 f2 V1 (nn := (32 : Int32)) (k := 32) rfl (by decide) (by decide) N3 g_b1 (f := (mkF m 28 #[.val (.ref o0), .val (.int (32 : Int32)), .val (.ref b1)] [(.int (32 : Int32)), (.int (0 : Int32)), (.ref b1), (.int (0 : Int32)), (.ref o0)])) rfl (by rw [hml]; rfl) rfl (hb hby d6_28) (by decide) (W := 0) (by show 2 * 0 + _ ≤ _; exact Nat.le_of_eq rfl) (by decide)
  replace V4 : AJ Z h4 b1 .long 32 (cp2_g28 g) := V4
  obtain ⟨Lh4, X4, N4⟩ := hide X4 N4 (C := 1) (S := 32) (by decide) (by decide)
  refine Outs.of st4 ?_
  show Outs p e below s _ _ _ (T4.setTop (mkF m 31 #[.val (.ref o0), .val (.int (32 : Int32)), .val (.ref b1)] []))
  refine Outs.of (U' := T4.setTop (mkF m 32 #[.val (.ref o0), .val (.int (32 : Int32)), .val (.ref b1)] [(.ref b1)])) (fun t k => ?_) ?_
  · refine XS.aloadN X4.here hx rfl (hb hby d6_31) rfl rfl ?_
    exact k
  exact Outs.retA (w := (.ref b1)) X4 hx hret rfl rfl rfl (hb hby d6_32) hlk (by decide) (by decide) e4 ⟨b1, g_b1, sz_b1, rfl, N4, (((Keep.refl h0 []).ext E1).trans K4 (allS (Or.inr sz_b1) all0)), V4⟩
theorem ef_3 (m : MethodId) (x0 : Addr) (x1 : Int32) : entryFrame m #[(.ref x0), (.int x1)] 4 = mkF m 0 #[.val (.ref x0), .val (.int x1), .unset, .unset] [] := by first | (simp [entryFrame, mkF, argsToLocals, Value.category]; done) | rfl
theorem d3_0 : decode prog_34_method_1_code 0 = .ok (.aload_n 0, 1) := by decide +kernel
theorem d3_1 : decode prog_34_method_1_code 1 = .ok (.invokespecial 1, 3) := by decide +kernel
theorem d3_4 : decode prog_34_method_1_code 4 = .ok (.aload_n 0, 1) := by decide +kernel
theorem d3_5 : decode prog_34_method_1_code 5 = .ok (.iload_n 1, 1) := by decide +kernel
theorem d3_6 : decode prog_34_method_1_code 6 = .ok (.putfield 7, 3) := by decide +kernel
theorem d3_9 : decode prog_34_method_1_code 9 = .ok (.bipush 33, 2) := by decide +kernel
theorem d3_11 : decode prog_34_method_1_code 11 = .ok (.newarray .long, 2) := by decide +kernel
theorem d3_13 : decode prog_34_method_1_code 13 = .ok (.astore_n 2, 1) := by decide +kernel
theorem d3_14 : decode prog_34_method_1_code 14 = .ok (.iconst 0, 1) := by decide +kernel
theorem d3_15 : decode prog_34_method_1_code 15 = .ok (.istore_n 3, 1) := by decide +kernel
theorem d3_16 : decode prog_34_method_1_code 16 = .ok (.aload_n 2, 1) := by decide +kernel
theorem d3_17 : decode prog_34_method_1_code 17 = .ok (.iload_n 3, 1) := by decide +kernel
theorem d3_18 : decode prog_34_method_1_code 18 = .ok (.iload_n 1, 1) := by decide +kernel
theorem d3_19 : decode prog_34_method_1_code 19 = .ok (.iload_n 3, 1) := by decide +kernel
theorem pd_0 : parseMethodDescriptor "(II)J" = some ⟨[.int, .int], some .long⟩ := by decide +kernel
theorem d3_20 : decode prog_34_method_1_code 20 = .ok (.invokestatic 15, 3) := by decide +kernel
theorem d3_23 : decode prog_34_method_1_code 23 = .ok (.lconst 1, 1) := by decide +kernel
theorem d3_24 : decode prog_34_method_1_code 24 = .ok (.ladd, 1) := by decide +kernel
theorem d3_25 : decode prog_34_method_1_code 25 = .ok (.lastore, 1) := by decide +kernel
theorem d3_26 : decode prog_34_method_1_code 26 = .ok (.iinc 3 1, 3) := by decide +kernel
theorem d3_29 : decode prog_34_method_1_code 29 = .ok (.aload_n 2, 1) := by decide +kernel
theorem d3_30 : decode prog_34_method_1_code 30 = .ok (.iload_n 3, 1) := by decide +kernel
theorem d3_31 : decode prog_34_method_1_code 31 = .ok (.iconst 1, 1) := by decide +kernel
theorem d3_32 : decode prog_34_method_1_code 32 = .ok (.isub, 1) := by decide +kernel
theorem d3_33 : decode prog_34_method_1_code 33 = .ok (.laload, 1) := by decide +kernel
theorem d3_34 : decode prog_34_method_1_code 34 = .ok (.ldc2_w 21, 3) := by decide +kernel
theorem d3_37 : decode prog_34_method_1_code 37 = .ok (.lcmp, 1) := by decide +kernel
theorem d3_38 : decode prog_34_method_1_code 38 = .ok (.ifCond .le (-22), 3) := by decide +kernel
theorem d3_41 : decode prog_34_method_1_code 41 = .ok (.aload_n 0, 1) := by decide +kernel
theorem d3_42 : decode prog_34_method_1_code 42 = .ok (.aload_n 2, 1) := by decide +kernel
theorem d3_43 : decode prog_34_method_1_code 43 = .ok (.iload_n 3, 1) := by decide +kernel
theorem pd_4 : parseMethodDescriptor "([JI)[J" = some ⟨[(.array .long), .int], some (.array .long)⟩ := by decide +kernel
theorem d3_44 : decode prog_34_method_1_code 44 = .ok (.invokestatic 23, 3) := by decide +kernel
theorem d3_47 : decode prog_34_method_1_code 47 = .ok (.putfield 29, 3) := by decide +kernel
theorem d3_50 : decode prog_34_method_1_code 50 = .ok (.return_, 1) := by decide +kernel
theorem pn_3 : plainName "com/example/bitmend/bitmend/PositionalColumns" = true := by first | (simp [plainName, overriddenIn]; done) | decide +kernel
def ct2_g25  : Nat → Int64 := (upv (fun _ => (0 : Int64)) 0 ((F_f5 (2 : Int32) (0 : Int32)) + (1 : Int64)))
def ct2_g25a  : Nat → Int64 := (upv ct2_g25 1 ((F_f5 (2 : Int32) (1 : Int32)) + (1 : Int64)))
def ct2_g25b  : Nat → Int64 := (upv ct2_g25a 2 ((F_f5 (2 : Int32) (2 : Int32)) + (1 : Int64)))
def ct2_g25c  : Nat → Int64 := (upv ct2_g25b 3 ((F_f5 (2 : Int32) (3 : Int32)) + (1 : Int64)))
def ct2_g25d  : Nat → Int64 := (upv ct2_g25c 4 ((F_f5 (2 : Int32) (4 : Int32)) + (1 : Int64)))
def ct2_g25e  : Nat → Int64 := (upv ct2_g25d 5 ((F_f5 (2 : Int32) (5 : Int32)) + (1 : Int64)))
def ct2_g25f  : Nat → Int64 := (upv ct2_g25e 6 ((F_f5 (2 : Int32) (6 : Int32)) + (1 : Int64)))
def ct2_g25g  : Nat → Int64 := (upv ct2_g25f 7 ((F_f5 (2 : Int32) (7 : Int32)) + (1 : Int64)))
def ct2_g25h  : Nat → Int64 := (upv ct2_g25g 8 ((F_f5 (2 : Int32) (8 : Int32)) + (1 : Int64)))
def ct2_g25i  : Nat → Int64 := (upv ct2_g25h 9 ((F_f5 (2 : Int32) (9 : Int32)) + (1 : Int64)))
def ct2_g25j  : Nat → Int64 := (upv ct2_g25i 10 ((F_f5 (2 : Int32) (10 : Int32)) + (1 : Int64)))
def ct2_g25k  : Nat → Int64 := (upv ct2_g25j 11 ((F_f5 (2 : Int32) (11 : Int32)) + (1 : Int64)))
def ct2_g25l  : Nat → Int64 := (upv ct2_g25k 12 ((F_f5 (2 : Int32) (12 : Int32)) + (1 : Int64)))
def ct2_g25m  : Nat → Int64 := (upv ct2_g25l 13 ((F_f5 (2 : Int32) (13 : Int32)) + (1 : Int64)))
def ct2_g25n  : Nat → Int64 := (upv ct2_g25m 14 ((F_f5 (2 : Int32) (14 : Int32)) + (1 : Int64)))
def ct2_g25o  : Nat → Int64 := (upv ct2_g25n 15 ((F_f5 (2 : Int32) (15 : Int32)) + (1 : Int64)))
def ct2_g25p  : Nat → Int64 := (upv ct2_g25o 16 ((F_f5 (2 : Int32) (16 : Int32)) + (1 : Int64)))
def ct2_g25q  : Nat → Int64 := (upv ct2_g25p 17 ((F_f5 (2 : Int32) (17 : Int32)) + (1 : Int64)))
def ct2_g25r  : Nat → Int64 := (upv ct2_g25q 18 ((F_f5 (2 : Int32) (18 : Int32)) + (1 : Int64)))
def ct2_g25s  : Nat → Int64 := (upv ct2_g25r 19 ((F_f5 (2 : Int32) (19 : Int32)) + (1 : Int64)))
def ct2_g25t  : Nat → Int64 := (upv ct2_g25s 20 ((F_f5 (2 : Int32) (20 : Int32)) + (1 : Int64)))
def ct2_g25u  : Nat → Int64 := (upv ct2_g25t 21 ((F_f5 (2 : Int32) (21 : Int32)) + (1 : Int64)))
def ct2_g25v  : Nat → Int64 := (upv ct2_g25u 22 ((F_f5 (2 : Int32) (22 : Int32)) + (1 : Int64)))
def ct2_g25w  : Nat → Int64 := (upv ct2_g25v 23 ((F_f5 (2 : Int32) (23 : Int32)) + (1 : Int64)))
def ct2_g25x  : Nat → Int64 := (upv ct2_g25w 24 ((F_f5 (2 : Int32) (24 : Int32)) + (1 : Int64)))
def ct2_g25y  : Nat → Int64 := (upv ct2_g25x 25 ((F_f5 (2 : Int32) (25 : Int32)) + (1 : Int64)))
def ct2_g25z  : Nat → Int64 := (upv ct2_g25y 26 ((F_f5 (2 : Int32) (26 : Int32)) + (1 : Int64)))
def ct2_g25aa  : Nat → Int64 := (upv ct2_g25z 27 ((F_f5 (2 : Int32) (27 : Int32)) + (1 : Int64)))
def ct2_g25ab  : Nat → Int64 := (upv ct2_g25aa 28 ((F_f5 (2 : Int32) (28 : Int32)) + (1 : Int64)))
def ct2_g25ac  : Nat → Int64 := (upv ct2_g25ab 29 ((F_f5 (2 : Int32) (29 : Int32)) + (1 : Int64)))
def ct2_g25ad  : Nat → Int64 := (upv ct2_g25ac 30 ((F_f5 (2 : Int32) (30 : Int32)) + (1 : Int64)))
def ct2_g25ae  : Nat → Int64 := (upv ct2_g25ad 31 ((F_f5 (2 : Int32) (31 : Int32)) + (1 : Int64)))
def Q_ct2 (Z : State) (o0 : Addr) (h0 : Heap) (n0 : Nat) (v : Option Value) (h : Heap) (L : List Loc) : Prop := v = none ∧ Fr n0 L ∧ Keep h0 h [o0] ∧ Exa Z h o0 "com/example/bitmend/bitmend/PositionalColumns" ∧ Fld Z h o0 "com/example/bitmend/bitmend/PositionalColumns" "fieldSize" "I" (.int (2 : Int32))
set_option maxRecDepth 65536 in
set_option maxHeartbeats 40000000 in
theorem rmct2 (l : Launch) (Z : State) (a0 : Array Value) (hw : ∀ d ∈ tables_1, d.before a0 Z = true) (ws : List Jvm.Cond) (o0 : Addr)  (h0 : Heap) (n0 : Nat) (Z0 : n0 ≤ h0.size) (E_o0 : Exa Z h0 o0 "com/example/bitmend/bitmend/PositionalColumns") (g_o0 : n0 ≤ o0) (F_o0_fieldSize : Fld Z h0 o0 "com/example/bitmend/bitmend/PositionalColumns" "fieldSize" "I" (.int (0 : Int32))) (F_o0_checkPositions : Fld Z h0 o0 "com/example/bitmend/bitmend/PositionalColumns" "checkPositions" "[J" .null) :
    MetFree l (⟨"com/example/bitmend/bitmend/PositionalColumns", "<init>", "(I)V"⟩ : MethodName) (head1 (Jvm.Cond.code (⟨"com/example/bitmend/bitmend/PositionalColumns", "<init>", "(I)V"⟩ : MethodName) prog_34_method_1_code 4 none :: ws) ({ frames := 2, cells := 2, slots := 65, locals := 33 } : Room)) (fun a U => a = #[(.ref o0), (.int (2 : Int32))] ∧ Z.Warmed39 U.vm ∧ U.heap = h0) (fun _ _ _ _ _ => True) (fun _ U o U' => ∃ v L, o = .returned v ∧ Q_ct2 Z o0 h0 n0 v U'.heap L ∧ FrameEnd U o U' L ({ frames := 2, cells := 2, slots := 65, locals := 33 } : Room).cells ({ frames := 2, cells := 2, slots := 65, locals := 33 } : Room).slots) := by
  refine MetFree.of_bodySF (plainFor_of_name pn_3) hisR ?_
  intro p e s m args below meth c s₁ Bd hml0 hP hK
  obtain ⟨rfl, hZ, hh⟩ := hP
  have hx := Bd.exec
  have hby := Bd.bytes
  have hml : c.maxLocals = 4 := hml0
  have hown : s.vm.findClass "com/example/bitmend/bitmend/PositionalColumns" = some m.cls := findClass_of_methodNamed Bd.named
  have hnm := (name_of_methodNamed Bd.named Bd.method).1
  have hret := Bd.returns
  have hlk : meth.locks = false := BodyLoose.notSynchronized Bd
  have X0 : Stand p l e ({ frames := 2, cells := 2, slots := 65, locals := 33 } : Room) s m #[(.ref o0), (.int (2 : Int32))] below meth c s₁ [] 0 0 := Stand.of_body Bd
  have e0 : s₁.heap = h0 := by rw [← hh, Bd.state]; rfl
  have N0 := Fr.nil n0
  show Outs p e below s (Q_ct2 Z o0 h0 n0) _ _ _
  refine Outs.of (U' := s₁.setTop (mkF m 0 #[.val (.ref o0), .val (.int (2 : Int32)), .unset, .unset] [])) (fun t k => castTop (ef_3 m o0 (2 : Int32)) k) ?_
  refine Outs.of (U' := s₁.setTop (mkF m 1 #[.val (.ref o0), .val (.int (2 : Int32)), .unset, .unset] [(.ref o0)])) (fun t k => ?_) ?_
  · refine XS.aloadN X0.here hx rfl (hb hby d3_0) rfl rfl ?_
    exact k
  obtain ⟨T1, X1, e1, st1⟩ := initO X0 hx hZ hown (hw _ (List.mem_of_getElem? (i := 17) rfl)) (hw _ (List.mem_of_getElem? (i := 18) rfl)) (hw _ (List.mem_of_getElem? (i := 19) rfl)) e0 (g := (mkF m 1 #[.val (.ref o0), .val (.int (2 : Int32)), .unset, .unset] [(.ref o0)])) rfl (by rw [hml]; rfl) rfl (hb hby d3_1) (by decide) (W := 0) (by show 2 * 0 + _ ≤ _; exact Nat.le_of_eq rfl) (by decide)
  refine Outs.of st1 ?_
  show Outs p e below s _ _ _ (T1.setTop (mkF m 4 #[.val (.ref o0), .val (.int (2 : Int32)), .unset, .unset] []))
  refine Outs.of (U' := T1.setTop (mkF m 6 #[.val (.ref o0), .val (.int (2 : Int32)), .unset, .unset] [(.int (2 : Int32)), (.ref o0)])) (fun t k => ?_) ?_
  · refine XS.aloadN X1.here hx rfl (hb hby d3_4) rfl rfl ?_
    refine XS.iloadN X1.here hx rfl (hb hby d3_5) rfl ?_
    exact k
  obtain ⟨T2, h2, X2, e2, W2, st2⟩ := putF X1 hx hZ hown (host := "") (Or.inl (hw _ (List.mem_of_getElem? (i := 20) rfl))) Via.refl e1 F_o0_fieldSize E_o0 (Or.inr ⟨(hw _ (List.mem_of_getElem? (i := 21) rfl)), rfl, hnm⟩) (hw _ (List.mem_of_getElem? (i := 12) rfl)) (ty := .int) (by decide) rfl rfl (g := (mkF m 6 #[.val (.ref o0), .val (.int (2 : Int32)), .unset, .unset] [(.int (2 : Int32)), (.ref o0)])) rfl rfl (hb hby d3_6)
  have F2 : Fld Z h2 o0 "com/example/bitmend/bitmend/PositionalColumns" "fieldSize" "I" (.int (2 : Int32)) := F_o0_fieldSize.same W2
  have N2 := Fr.snoc X2 N0 g_o0
  obtain ⟨Lh2, X2, N2⟩ := hide X2 N2 (C := 0) (S := 0) (by decide) (by decide)
  refine Outs.of st2 ?_
  show Outs p e below s _ _ _ (T2.setTop (mkF m 9 #[.val (.ref o0), .val (.int (2 : Int32)), .unset, .unset] []))
  refine Outs.of (U' := T2.setTop (mkF m 11 #[.val (.ref o0), .val (.int (2 : Int32)), .unset, .unset] [(.int (33 : Int32))])) (fun t k => ?_) ?_
  · refine XS.bipush X2.here hx rfl (hb hby d3_9) ?_
    exact k
  have f4 : Exa Z h2 o0 "com/example/bitmend/bitmend/PositionalColumns" := (E_o0.wr W2)
  obtain ⟨T3, h3, X3, e3, E3, A3, st3⟩ := newAF X2 hx hZ (aty := .long) (hw _ (List.mem_of_getElem? (i := 22) rfl)) e2 (f := (mkF m 11 #[.val (.ref o0), .val (.int (2 : Int32)), .unset, .unset] [(.int (33 : Int32))])) rfl (hb hby d3_11) rfl (k := 33) rfl (cap := 33) (by decide) (by decide) (by decide) (by decide)
  obtain ⟨b3, g3⟩ : ∃ z, z = h2.size := ⟨_, rfl⟩
  rw [← g3] at A3 st3
  have g_b3 : n0 ≤ b3 := Nat.le_trans (Nat.le_trans Z0 (Keep.of_wr W2).1) (Nat.le_of_eq g3.symm)
  have sz_b3 : h0.size ≤ b3 := Nat.le_trans ((Keep.refl h0 [o0]).wr W2 (Or.inl (List.mem_of_getElem? (i := 0) rfl))).1 (Nat.le_of_eq g3.symm)
  have ne_o0_b3 : o0 ≠ b3 := Nat.ne_of_lt (Nat.lt_of_lt_of_eq f4.lt g3.symm)
  have V3 : AJ Z h3 b3 .long 33 (fun _ => (0 : Int64)) := A3
  refine Outs.of st3 ?_
  show Outs p e below s _ _ _ (T3.setTop (mkF m 13 #[.val (.ref o0), .val (.int (2 : Int32)), .unset, .unset] [(.ref b3)]))
  refine Outs.of (U' := T3.setTop (mkF m 20 #[.val (.ref o0), .val (.int (2 : Int32)), .val (.ref b3), .val (.int (0 : Int32))] [(.int (0 : Int32)), (.int (2 : Int32)), (.int (0 : Int32)), (.ref b3)])) (fun t k => ?_) ?_
  · refine XS.astoreN X3.here hx rfl (hb hby d3_13) rfl rfl (l' := #[.val (.ref o0), .val (.int (2 : Int32)), .val (.ref b3), .unset]) rfl ?_
    refine XS.iconst X3.here hx rfl (hb hby d3_14) ?_
    refine XS.istoreN X3.here hx rfl (hb hby d3_15) rfl (l' := #[.val (.ref o0), .val (.int (2 : Int32)), .val (.ref b3), .val (.int (0 : Int32))]) rfl ?_
    refine XS.aloadN X3.here hx rfl (hb hby d3_16) rfl rfl ?_
    refine XS.iloadN X3.here hx rfl (hb hby d3_17) rfl ?_
    refine XS.iloadN X3.here hx rfl (hb hby d3_18) rfl ?_
    refine XS.iloadN X3.here hx rfl (hb hby d3_19) rfl ?_
    exact k
  obtain ⟨_, _, ⟨T5, L5, k5, n5⟩, -, X5, ⟨Lc5, hQ5, l5, y5, z5⟩, st5⟩ := Jvm.LawKit.callS X3 hx (y := (⟨"com/example/bitmend/bitmend/CodeParameters", "columns", "(II)J"⟩ : MethodName)) hown (mvT hZ (hw _ (List.mem_of_getElem? (i := 23) rfl))) (mvT hZ (hw _ (List.mem_of_getElem? (i := 24) rfl))) (mvT hZ (hw _ (List.mem_of_getElem? (i := 25) rfl))) (mvT hZ (hw _ (List.mem_of_getElem? (i := 26) rfl))) (by decide) (backOf (W := 2) (rm5 l Z a0 hw [] (2 : Int32) (0 : Int32) h3 n0 (by decide)) hZ (hw _ (List.mem_of_getElem? (i := 26) rfl)) (hw _ (List.mem_of_getElem? (i := 25) rfl)) (by decide) (by decide)) (g := (mkF m 20 #[.val (.ref o0), .val (.int (2 : Int32)), .val (.ref b3), .val (.int (0 : Int32))] [(.int (0 : Int32)), (.int (2 : Int32)), (.int (0 : Int32)), (.ref b3)])) rfl (by rw [hml]; rfl) (argsL := [(.int (2 : Int32)), (.int (0 : Int32))]) (rest := [(.int (0 : Int32)), (.ref b3)]) (lenOf pd_0 rfl) rfl (by show 2 * 0 + _ ≤ _; exact Nat.le_of_eq rfl) (hb hby d3_20) (fun _ _ => ⟨rfl, e3, (by decide : 1 + 0 ≤ _), (by decide : 33 + 0 ≤ _)⟩)
  dsimp only [Pt.U, Pt.locs, Pt.cells, Pt.slots] at X5 l5 y5 z5 st5 hQ5
  subst l5 y5 z5
  obtain ⟨rfl, N5q, e5⟩ := hQ5
  have N5 := Fr.app N2 N5q
  obtain ⟨Lh5, X5, N5⟩ := hide X5 N5 (C := 1) (S := 33) (by decide) (by decide)
  refine Outs.of st5 ?_
  show Outs p e below s _ _ _ (T5.setTop (mkF m 23 #[.val (.ref o0), .val (.int (2 : Int32)), .val (.ref b3), .val (.int (0 : Int32))] [(.long (F_f5 (2 : Int32) (0 : Int32))), (.int (0 : Int32)), (.ref b3)]))
  refine Outs.of (U' := T5.setTop (mkF m 25 #[.val (.ref o0), .val (.int (2 : Int32)), .val (.ref b3), .val (.int (0 : Int32))] [(.long ((F_f5 (2 : Int32) (0 : Int32)) + (1 : Int64))), (.int (0 : Int32)), (.ref b3)])) (fun t k => ?_) ?_
  · refine XS.lconst X5.here hx rfl (hb hby d3_23) ?_
    refine XS.ladd X5.here hx rfl (hb hby d3_24) rfl ?_
    exact k
  obtain ⟨T6, h6, X6, e6, W6, V6, st6⟩ := puJ X5 hx hZ e5 V3 (j := (0 : Int32)) (x := ((F_f5 (2 : Int32) (0 : Int32)) + (1 : Int64))) (k := 0) rfl (by decide) (f := (mkF m 25 #[.val (.ref o0), .val (.int (2 : Int32)), .val (.ref b3), .val (.int (0 : Int32))] [(.long ((F_f5 (2 : Int32) (0 : Int32)) + (1 : Int64))), (.int (0 : Int32)), (.ref b3)])) rfl rfl (hb hby d3_25)
  replace V6 : AJ Z h6 b3 .long 33 ct2_g25 := V6
  have N6 := Fr.snoc X6 N5 g_b3
  obtain ⟨Lh6, X6, N6⟩ := hide X6 N6 (C := 1) (S := 33) (by decide) (by decide)
  refine Outs.of st6 ?_
  show Outs p e below s _ _ _ (T6.setTop (mkF m 26 #[.val (.ref o0), .val (.int (2 : Int32)), .val (.ref b3), .val (.int (0 : Int32))] []))
  refine Outs.of (U' := T6.setTop (mkF m 33 #[.val (.ref o0), .val (.int (2 : Int32)), .val (.ref b3), .val (.int (1 : Int32))] [(.int (0 : Int32)), (.ref b3)])) (fun t k => ?_) ?_
  · refine XS.iinc X6.here hx rfl (hb hby d3_26) rfl (l' := #[.val (.ref o0), .val (.int (2 : Int32)), .val (.ref b3), .val (.int (1 : Int32))]) rfl ?_
    refine XS.aloadN X6.here hx rfl (hb hby d3_29) rfl rfl ?_
    refine XS.iloadN X6.here hx rfl (hb hby d3_30) rfl ?_
    refine XS.iconst X6.here hx rfl (hb hby d3_31) ?_
    refine XS.isub X6.here hx rfl (hb hby d3_32) rfl ?_
    exact k
  refine Outs.of (ldJ X6 hx hZ e6 V6 (j := (0 : Int32)) (k := 0) rfl (by decide) (f := (mkF m 33 #[.val (.ref o0), .val (.int (2 : Int32)), .val (.ref b3), .val (.int (1 : Int32))] [(.int (0 : Int32)), (.ref b3)])) rfl rfl (hb hby d3_33)) ?_
  show Outs p e below s _ _ _ (T6.setTop (mkF m 34 #[.val (.ref o0), .val (.int (2 : Int32)), .val (.ref b3), .val (.int (1 : Int32))] [(.long (ct2_g25 0))]))
  refine Outs.of (U' := T6.setTop (mkF m 20 #[.val (.ref o0), .val (.int (2 : Int32)), .val (.ref b3), .val (.int (1 : Int32))] [(.int (1 : Int32)), (.int (2 : Int32)), (.int (1 : Int32)), (.ref b3)])) (fun t k => ?_) ?_
  · refine X6.ldc2Long hx hown (mvT hZ (hw _ (List.mem_of_getElem? (i := 27) rfl))) (g := (mkF m 34 #[.val (.ref o0), .val (.int (2 : Int32)), .val (.ref b3), .val (.int (1 : Int32))] [(.long (ct2_g25 0))])) rfl (hb hby d3_34) _ ?_
    refine XS.lcmp X6.here hx rfl (hb hby d3_37) rfl ?_
    refine XS.ifYes X6.here hx rfl (pc0 := 38) (pc' := 16) rfl (hb hby d3_38) rfl ((if0 _ _).trans (flt (fun q_ => (show ¬ ((2147483647 : Int64) < (ct2_g25 0)) from (by decide +kernel)) ((lw_gt _ _).mp q_))).2.2.2) (by decide) (by decide) ?_
    refine XS.aloadN X6.here hx rfl (hb hby d3_16) rfl rfl ?_
    refine XS.iloadN X6.here hx rfl (hb hby d3_17) rfl ?_
    refine XS.iloadN X6.here hx rfl (hb hby d3_18) rfl ?_
    refine XS.iloadN X6.here hx rfl (hb hby d3_19) rfl ?_
    exact k
  obtain ⟨_, _, ⟨T7, L7, k7, n7⟩, -, X7, ⟨Lc7, hQ7, l7, y7, z7⟩, st7⟩ := Jvm.LawKit.callS X6 hx (y := (⟨"com/example/bitmend/bitmend/CodeParameters", "columns", "(II)J"⟩ : MethodName)) hown (mvT hZ (hw _ (List.mem_of_getElem? (i := 23) rfl))) (mvT hZ (hw _ (List.mem_of_getElem? (i := 24) rfl))) (mvT hZ (hw _ (List.mem_of_getElem? (i := 25) rfl))) (mvT hZ (hw _ (List.mem_of_getElem? (i := 26) rfl))) (by decide) (backOf (W := 2) (rm5 l Z a0 hw [] (2 : Int32) (1 : Int32) h6 n0 (by decide)) hZ (hw _ (List.mem_of_getElem? (i := 26) rfl)) (hw _ (List.mem_of_getElem? (i := 25) rfl)) (by decide) (by decide)) (g := (mkF m 20 #[.val (.ref o0), .val (.int (2 : Int32)), .val (.ref b3), .val (.int (1 : Int32))] [(.int (1 : Int32)), (.int (2 : Int32)), (.int (1 : Int32)), (.ref b3)])) rfl (by rw [hml]; rfl) (argsL := [(.int (2 : Int32)), (.int (1 : Int32))]) (rest := [(.int (1 : Int32)), (.ref b3)]) (lenOf pd_0 rfl) rfl (by show 2 * 0 + _ ≤ _; exact Nat.le_of_eq rfl) (hb hby d3_20) (fun _ _ => ⟨rfl, e6, (by decide : 1 + 0 ≤ _), (by decide : 33 + 0 ≤ _)⟩)
  dsimp only [Pt.U, Pt.locs, Pt.cells, Pt.slots] at X7 l7 y7 z7 st7 hQ7
  subst l7 y7 z7
  obtain ⟨rfl, N7q, e7⟩ := hQ7
  have N7 := Fr.app N6 N7q
  obtain ⟨Lh7, X7, N7⟩ := hide X7 N7 (C := 1) (S := 33) (by decide) (by decide)
  refine Outs.of st7 ?_
  show Outs p e below s _ _ _ (T7.setTop (mkF m 23 #[.val (.ref o0), .val (.int (2 : Int32)), .val (.ref b3), .val (.int (1 : Int32))] [(.long (F_f5 (2 : Int32) (1 : Int32))), (.int (1 : Int32)), (.ref b3)]))
  refine Outs.of (U' := T7.setTop (mkF m 25 #[.val (.ref o0), .val (.int (2 : Int32)), .val (.ref b3), .val (.int (1 : Int32))] [(.long ((F_f5 (2 : Int32) (1 : Int32)) + (1 : Int64))), (.int (1 : Int32)), (.ref b3)])) (fun t k => ?_) ?_
  · refine XS.lconst X7.here hx rfl (hb hby d3_23) ?_
    refine XS.ladd X7.here hx rfl (hb hby d3_24) rfl ?_
    exact k
  obtain ⟨T8, h8, X8, e8, W8, V8, st8⟩ := puJ X7 hx hZ e7 V6 (j := (1 : Int32)) (x := ((F_f5 (2 : Int32) (1 : Int32)) + (1 : Int64))) (k := 1) rfl (by decide) (f := (mkF m 25 #[.val (.ref o0), .val (.int (2 : Int32)), .val (.ref b3), .val (.int (1 : Int32))] [(.long ((F_f5 (2 : Int32) (1 : Int32)) + (1 : Int64))), (.int (1 : Int32)), (.ref b3)])) rfl rfl (hb hby d3_25)
  replace V8 : AJ Z h8 b3 .long 33 ct2_g25a := V8
  have N8 := Fr.snoc X8 N7 g_b3
  obtain ⟨Lh8, X8, N8⟩ := hide X8 N8 (C := 1) (S := 33) (by decide) (by decide)
  refine Outs.of st8 ?_
  show Outs p e below s _ _ _ (T8.setTop (mkF m 26 #[.val (.ref o0), .val (.int (2 : Int32)), .val (.ref b3), .val (.int (1 : Int32))] []))
  refine Outs.of (U' := T8.setTop (mkF m 33 #[.val (.ref o0), .val (.int (2 : Int32)), .val (.ref b3), .val (.int (2 : Int32))] [(.int (1 : Int32)), (.ref b3)])) (fun t k => ?_) ?_
  · refine XS.iinc X8.here hx rfl (hb hby d3_26) rfl (l' := #[.val (.ref o0), .val (.int (2 : Int32)), .val (.ref b3), .val (.int (2 : Int32))]) rfl ?_
    refine XS.aloadN X8.here hx rfl (hb hby d3_29) rfl rfl ?_
    refine XS.iloadN X8.here hx rfl (hb hby d3_30) rfl ?_
    refine XS.iconst X8.here hx rfl (hb hby d3_31) ?_
    refine XS.isub X8.here hx rfl (hb hby d3_32) rfl ?_
    exact k
  refine Outs.of (ldJ X8 hx hZ e8 V8 (j := (1 : Int32)) (k := 1) rfl (by decide) (f := (mkF m 33 #[.val (.ref o0), .val (.int (2 : Int32)), .val (.ref b3), .val (.int (2 : Int32))] [(.int (1 : Int32)), (.ref b3)])) rfl rfl (hb hby d3_33)) ?_
  show Outs p e below s _ _ _ (T8.setTop (mkF m 34 #[.val (.ref o0), .val (.int (2 : Int32)), .val (.ref b3), .val (.int (2 : Int32))] [(.long (ct2_g25a 1))]))
  refine Outs.of (U' := T8.setTop (mkF m 20 #[.val (.ref o0), .val (.int (2 : Int32)), .val (.ref b3), .val (.int (2 : Int32))] [(.int (2 : Int32)), (.int (2 : Int32)), (.int (2 : Int32)), (.ref b3)])) (fun t k => ?_) ?_
  · refine X8.ldc2Long hx hown (mvT hZ (hw _ (List.mem_of_getElem? (i := 27) rfl))) (g := (mkF m 34 #[.val (.ref o0), .val (.int (2 : Int32)), .val (.ref b3), .val (.int (2 : Int32))] [(.long (ct2_g25a 1))])) rfl (hb hby d3_34) _ ?_
    refine XS.lcmp X8.here hx rfl (hb hby d3_37) rfl ?_
    refine XS.ifYes X8.here hx rfl (pc0 := 38) (pc' := 16) rfl (hb hby d3_38) rfl ((if0 _ _).trans (flt (fun q_ => (show ¬ ((2147483647 : Int64) < (ct2_g25a 1)) from (by decide +kernel)) ((lw_gt _ _).mp q_))).2.2.2) (by decide) (by decide) ?_
    refine XS.aloadN X8.here hx rfl (hb hby d3_16) rfl rfl ?_
    refine XS.iloadN X8.here hx rfl (hb hby d3_17) rfl ?_
    refine XS.iloadN X8.here hx rfl (hb hby d3_18) rfl ?_
    refine XS.iloadN X8.here hx rfl (hb hby d3_19) rfl ?_
    exact k
  obtain ⟨_, _, ⟨T9, L9, k9, n9⟩, -, X9, ⟨Lc9, hQ9, l9, y9, z9⟩, st9⟩ := Jvm.LawKit.callS X8 hx (y := (⟨"com/example/bitmend/bitmend/CodeParameters", "columns", "(II)J"⟩ : MethodName)) hown (mvT hZ (hw _ (List.mem_of_getElem? (i := 23) rfl))) (mvT hZ (hw _ (List.mem_of_getElem? (i := 24) rfl))) (mvT hZ (hw _ (List.mem_of_getElem? (i := 25) rfl))) (mvT hZ (hw _ (List.mem_of_getElem? (i := 26) rfl))) (by decide) (backOf (W := 2) (rm5 l Z a0 hw [] (2 : Int32) (2 : Int32) h8 n0 (by decide)) hZ (hw _ (List.mem_of_getElem? (i := 26) rfl)) (hw _ (List.mem_of_getElem? (i := 25) rfl)) (by decide) (by decide)) (g := (mkF m 20 #[.val (.ref o0), .val (.int (2 : Int32)), .val (.ref b3), .val (.int (2 : Int32))] [(.int (2 : Int32)), (.int (2 : Int32)), (.int (2 : Int32)), (.ref b3)])) rfl (by rw [hml]; rfl) (argsL := [(.int (2 : Int32)), (.int (2 : Int32))]) (rest := [(.int (2 : Int32)), (.ref b3)]) (lenOf pd_0 rfl) rfl (by show 2 * 0 + _ ≤ _; exact Nat.le_of_eq rfl) (hb hby d3_20) (fun _ _ => ⟨rfl, e8, (by decide : 1 + 0 ≤ _), (by decide : 33 + 0 ≤ _)⟩)
  dsimp only [Pt.U, Pt.locs, Pt.cells, Pt.slots] at X9 l9 y9 z9 st9 hQ9
  subst l9 y9 z9
  obtain ⟨rfl, N9q, e9⟩ := hQ9
  have N9 := Fr.app N8 N9q
  obtain ⟨Lh9, X9, N9⟩ := hide X9 N9 (C := 1) (S := 33) (by decide) (by decide)
  refine Outs.of st9 ?_
  show Outs p e below s _ _ _ (T9.setTop (mkF m 23 #[.val (.ref o0), .val (.int (2 : Int32)), .val (.ref b3), .val (.int (2 : Int32))] [(.long (F_f5 (2 : Int32) (2 : Int32))), (.int (2 : Int32)), (.ref b3)]))
  refine Outs.of (U' := T9.setTop (mkF m 25 #[.val (.ref o0), .val (.int (2 : Int32)), .val (.ref b3), .val (.int (2 : Int32))] [(.long ((F_f5 (2 : Int32) (2 : Int32)) + (1 : Int64))), (.int (2 : Int32)), (.ref b3)])) (fun t k => ?_) ?_
  · refine XS.lconst X9.here hx rfl (hb hby d3_23) ?_
    refine XS.ladd X9.here hx rfl (hb hby d3_24) rfl ?_
    exact k
  obtain ⟨T10, h10, X10, e10, W10, V10, st10⟩ := puJ X9 hx hZ e9 V8 (j := (2 : Int32)) (x := ((F_f5 (2 : Int32) (2 : Int32)) + (1 : Int64))) (k := 2) rfl (by decide) (f := (mkF m 25 #[.val (.ref o0), .val (.int (2 : Int32)), .val (.ref b3), .val (.int (2 : Int32))] [(.long ((F_f5 (2 : Int32) (2 : Int32)) + (1 : Int64))), (.int (2 : Int32)), (.ref b3)])) rfl rfl (hb hby d3_25)
  replace V10 : AJ Z h10 b3 .long 33 ct2_g25b := V10
  have N10 := Fr.snoc X10 N9 g_b3
  obtain ⟨Lh10, X10, N10⟩ := hide X10 N10 (C := 1) (S := 33) (by decide) (by decide)
  refine Outs.of st10 ?_
  show Outs p e below s _ _ _ (T10.setTop (mkF m 26 #[.val (.ref o0), .val (.int (2 : Int32)), .val (.ref b3), .val (.int (2 : Int32))] []))
  refine Outs.of (U' := T10.setTop (mkF m 33 #[.val (.ref o0), .val (.int (2 : Int32)), .val (.ref b3), .val (.int (3 : Int32))] [(.int (2 : Int32)), (.ref b3)])) (fun t k => ?_) ?_
  · refine XS.iinc X10.here hx rfl (hb hby d3_26) rfl (l' := #[.val (.ref o0), .val (.int (2 : Int32)), .val (.ref b3), .val (.int (3 : Int32))]) rfl ?_
    refine XS.aloadN X10.here hx rfl (hb hby d3_29) rfl rfl ?_
    refine XS.iloadN X10.here hx rfl (hb hby d3_30) rfl ?_
    refine XS.iconst X10.here hx rfl (hb hby d3_31) ?_
    refine XS.isub X10.here hx rfl (hb hby d3_32) rfl ?_
    exact k
  refine Outs.of (ldJ X10 hx hZ e10 V10 (j := (2 : Int32)) (k := 2) rfl (by decide) (f := (mkF m 33 #[.val (.ref o0), .val (.int (2 : Int32)), .val (.ref b3), .val (.int (3 : Int32))] [(.int (2 : Int32)), (.ref b3)])) rfl rfl (hb hby d3_33)) ?_
  show Outs p e below s _ _ _ (T10.setTop (mkF m 34 #[.val (.ref o0), .val (.int (2 : Int32)), .val (.ref b3), .val (.int (3 : Int32))] [(.long (ct2_g25b 2))]))
  refine Outs.of (U' := T10.setTop (mkF m 20 #[.val (.ref o0), .val (.int (2 : Int32)), .val (.ref b3), .val (.int (3 : Int32))] [(.int (3 : Int32)), (.int (2 : Int32)), (.int (3 : Int32)), (.ref b3)])) (fun t k => ?_) ?_
  · refine X10.ldc2Long hx hown (mvT hZ (hw _ (List.mem_of_getElem? (i := 27) rfl))) (g := (mkF m 34 #[.val (.ref o0), .val (.int (2 : Int32)), .val (.ref b3), .val (.int (3 : Int32))] [(.long (ct2_g25b 2))])) rfl (hb hby d3_34) _ ?_
    refine XS.lcmp X10.here hx rfl (hb hby d3_37) rfl ?_
    refine XS.ifYes X10.here hx rfl (pc0 := 38) (pc' := 16) rfl (hb hby d3_38) rfl ((if0 _ _).trans (flt (fun q_ => (show ¬ ((2147483647 : Int64) < (ct2_g25b 2)) from (by decide +kernel)) ((lw_gt _ _).mp q_))).2.2.2) (by decide) (by decide) ?_
    refine XS.aloadN X10.here hx rfl (hb hby d3_16) rfl rfl ?_
    refine XS.iloadN X10.here hx rfl (hb hby d3_17) rfl ?_
    refine XS.iloadN X10.here hx rfl (hb hby d3_18) rfl ?_
    refine XS.iloadN X10.here hx rfl (hb hby d3_19) rfl ?_
    exact k
  obtain ⟨_, _, ⟨T11, L11, k11, n11⟩, -, X11, ⟨Lc11, hQ11, l11, y11, z11⟩, st11⟩ := Jvm.LawKit.callS X10 hx (y := (⟨"com/example/bitmend/bitmend/CodeParameters", "columns", "(II)J"⟩ : MethodName)) hown (mvT hZ (hw _ (List.mem_of_getElem? (i := 23) rfl))) (mvT hZ (hw _ (List.mem_of_getElem? (i := 24) rfl))) (mvT hZ (hw _ (List.mem_of_getElem? (i := 25) rfl))) (mvT hZ (hw _ (List.mem_of_getElem? (i := 26) rfl))) (by decide) (backOf (W := 2) (rm5 l Z a0 hw [] (2 : Int32) (3 : Int32) h10 n0 (by decide)) hZ (hw _ (List.mem_of_getElem? (i := 26) rfl)) (hw _ (List.mem_of_getElem? (i := 25) rfl)) (by decide) (by decide)) (g := (mkF m 20 #[.val (.ref o0), .val (.int (2 : Int32)), .val (.ref b3), .val (.int (3 : Int32))] [(.int (3 : Int32)), (.int (2 : Int32)), (.int (3 : Int32)), (.ref b3)])) rfl (by rw [hml]; rfl) (argsL := [(.int (2 : Int32)), (.int (3 : Int32))]) (rest := [(.int (3 : Int32)), (.ref b3)]) (lenOf pd_0 rfl) rfl (by show 2 * 0 + _ ≤ _; exact Nat.le_of_eq rfl) (hb hby d3_20) (fun _ _ => ⟨rfl, e10, (by decide : 1 + 0 ≤ _), (by decide : 33 + 0 ≤ _)⟩)
  dsimp only [Pt.U, Pt.locs, Pt.cells, Pt.slots] at X11 l11 y11 z11 st11 hQ11
  subst l11 y11 z11
  obtain ⟨rfl, N11q, e11⟩ := hQ11
  have N11 := Fr.app N10 N11q
  obtain ⟨Lh11, X11, N11⟩ := hide X11 N11 (C := 1) (S := 33) (by decide) (by decide)
  refine Outs.of st11 ?_
  show Outs p e below s _ _ _ (T11.setTop (mkF m 23 #[.val (.ref o0), .val (.int (2 : Int32)), .val (.ref b3), .val (.int (3 : Int32))] [(.long (F_f5 (2 : Int32) (3 : Int32))), (.int (3 : Int32)), (.ref b3)]))
  refine Outs.of (U' := T11.setTop (mkF m 25 #[.val (.ref o0), .val (.int (2 : Int32)), .val (.ref b3), .val (.int (3 : Int32))] [(.long ((F_f5 (2 : Int32) (3 : Int32)) + (1 : Int64))), (.int (3 : Int32)), (.ref b3)])) (fun t k => ?_) ?_
  · refine XS.lconst X11.here hx rfl (hb hby d3_23) ?_
    refine XS.ladd X11.here hx rfl (hb hby d3_24) rfl ?_
    exact k
  obtain ⟨T12, h12, X12, e12, W12, V12, st12⟩ := puJ X11 hx hZ e11 V10 (j := (3 : Int32)) (x := ((F_f5 (2 : Int32) (3 : Int32)) + (1 : Int64))) (k := 3) rfl (by decide) (f := (mkF m 25 #[.val (.ref o0), .val (.int (2 : Int32)), .val (.ref b3), .val (.int (3 : Int32))] [(.long ((F_f5 (2 : Int32) (3 : Int32)) + (1 : Int64))), (.int (3 : Int32)), (.ref b3)])) rfl rfl (hb hby d3_25)
  replace V12 : AJ Z h12 b3 .long 33 ct2_g25c := V12
  have N12 := Fr.snoc X12 N11 g_b3
  obtain ⟨Lh12, X12, N12⟩ := hide X12 N12 (C := 1) (S := 33) (by decide) (by decide)
  refine Outs.of st12 ?_
  show Outs p e below s _ _ _ (T12.setTop (mkF m 26 #[.val (.ref o0), .val (.int (2 : Int32)), .val (.ref b3), .val (.int (3 : Int32))] []))
  refine Outs.of (U' := T12.setTop (mkF m 33 #[.val (.ref o0), .val (.int (2 : Int32)), .val (.ref b3), .val (.int (4 : Int32))] [(.int (3 : Int32)), (.ref b3)])) (fun t k => ?_) ?_
  · refine XS.iinc X12.here hx rfl (hb hby d3_26) rfl (l' := #[.val (.ref o0), .val (.int (2 : Int32)), .val (.ref b3), .val (.int (4 : Int32))]) rfl ?_
    refine XS.aloadN X12.here hx rfl (hb hby d3_29) rfl rfl ?_
    refine XS.iloadN X12.here hx rfl (hb hby d3_30) rfl ?_
    refine XS.iconst X12.here hx rfl (hb hby d3_31) ?_
    refine XS.isub X12.here hx rfl (hb hby d3_32) rfl ?_
    exact k
  refine Outs.of (ldJ X12 hx hZ e12 V12 (j := (3 : Int32)) (k := 3) rfl (by decide) (f := (mkF m 33 #[.val (.ref o0), .val (.int (2 : Int32)), .val (.ref b3), .val (.int (4 : Int32))] [(.int (3 : Int32)), (.ref b3)])) rfl rfl (hb hby d3_33)) ?_
  show Outs p e below s _ _ _ (T12.setTop (mkF m 34 #[.val (.ref o0), .val (.int (2 : Int32)), .val (.ref b3), .val (.int (4 : Int32))] [(.long (ct2_g25c 3))]))
  refine Outs.of (U' := T12.setTop (mkF m 20 #[.val (.ref o0), .val (.int (2 : Int32)), .val (.ref b3), .val (.int (4 : Int32))] [(.int (4 : Int32)), (.int (2 : Int32)), (.int (4 : Int32)), (.ref b3)])) (fun t k => ?_) ?_
  · refine X12.ldc2Long hx hown (mvT hZ (hw _ (List.mem_of_getElem? (i := 27) rfl))) (g := (mkF m 34 #[.val (.ref o0), .val (.int (2 : Int32)), .val (.ref b3), .val (.int (4 : Int32))] [(.long (ct2_g25c 3))])) rfl (hb hby d3_34) _ ?_
    refine XS.lcmp X12.here hx rfl (hb hby d3_37) rfl ?_
    refine XS.ifYes X12.here hx rfl (pc0 := 38) (pc' := 16) rfl (hb hby d3_38) rfl ((if0 _ _).trans (flt (fun q_ => (show ¬ ((2147483647 : Int64) < (ct2_g25c 3)) from (by decide +kernel)) ((lw_gt _ _).mp q_))).2.2.2) (by decide) (by decide) ?_
    refine XS.aloadN X12.here hx rfl (hb hby d3_16) rfl rfl ?_
    refine XS.iloadN X12.here hx rfl (hb hby d3_17) rfl ?_
    refine XS.iloadN X12.here hx rfl (hb hby d3_18) rfl ?_
    refine XS.iloadN X12.here hx rfl (hb hby d3_19) rfl ?_
    exact k
  obtain ⟨_, _, ⟨T13, L13, k13, n13⟩, -, X13, ⟨Lc13, hQ13, l13, y13, z13⟩, st13⟩ := Jvm.LawKit.callS X12 hx (y := (⟨"com/example/bitmend/bitmend/CodeParameters", "columns", "(II)J"⟩ : MethodName)) hown (mvT hZ (hw _ (List.mem_of_getElem? (i := 23) rfl))) (mvT hZ (hw _ (List.mem_of_getElem? (i := 24) rfl))) (mvT hZ (hw _ (List.mem_of_getElem? (i := 25) rfl))) (mvT hZ (hw _ (List.mem_of_getElem? (i := 26) rfl))) (by decide) (backOf (W := 2) (rm5 l Z a0 hw [] (2 : Int32) (4 : Int32) h12 n0 (by decide)) hZ (hw _ (List.mem_of_getElem? (i := 26) rfl)) (hw _ (List.mem_of_getElem? (i := 25) rfl)) (by decide) (by decide)) (g := (mkF m 20 #[.val (.ref o0), .val (.int (2 : Int32)), .val (.ref b3), .val (.int (4 : Int32))] [(.int (4 : Int32)), (.int (2 : Int32)), (.int (4 : Int32)), (.ref b3)])) rfl (by rw [hml]; rfl) (argsL := [(.int (2 : Int32)), (.int (4 : Int32))]) (rest := [(.int (4 : Int32)), (.ref b3)]) (lenOf pd_0 rfl) rfl (by show 2 * 0 + _ ≤ _; exact Nat.le_of_eq rfl) (hb hby d3_20) (fun _ _ => ⟨rfl, e12, (by decide : 1 + 0 ≤ _), (by decide : 33 + 0 ≤ _)⟩)
  dsimp only [Pt.U, Pt.locs, Pt.cells, Pt.slots] at X13 l13 y13 z13 st13 hQ13
  subst l13 y13 z13
  obtain ⟨rfl, N13q, e13⟩ := hQ13
  have N13 := Fr.app N12 N13q
  obtain ⟨Lh13, X13, N13⟩ := hide X13 N13 (C := 1) (S := 33) (by decide) (by decide)
  refine Outs.of st13 ?_
  show Outs p e below s _ _ _ (T13.setTop (mkF m 23 #[.val (.ref o0), .val (.int (2 : Int32)), .val (.ref b3), .val (.int (4 : Int32))] [(.long (F_f5 (2 : Int32) (4 : Int32))), (.int (4 : Int32)), (.ref b3)]))
  refine Outs.of (U' := T13.setTop (mkF m 25 #[.val (.ref o0), .val (.int (2 : Int32)), .val (.ref b3), .val (.int (4 : Int32))] [(.long ((F_f5 (2 : Int32) (4 : Int32)) + (1 : Int64))), (.int (4 : Int32)), (.ref b3)])) (fun t k => ?_) ?_
  · refine XS.lconst X13.here hx rfl (hb hby d3_23) ?_
    refine XS.ladd X13.here hx rfl (hb hby d3_24) rfl ?_
    exact k
  obtain ⟨T14, h14, X14, e14, W14, V14, st14⟩ := puJ X13 hx hZ e13 V12 (j := (4 : Int32)) (x := ((F_f5 (2 : Int32) (4 : Int32)) + (1 : Int64))) (k := 4) rfl (by decide) (f := (mkF m 25 #[.val (.ref o0), .val (.int (2 : Int32)), .val (.ref b3), .val (.int (4 : Int32))] [(.long ((F_f5 (2 : Int32) (4 : Int32)) + (1 : Int64))), (.int (4 : Int32)), (.ref b3)])) rfl rfl (hb hby d3_25)
  replace V14 : AJ Z h14 b3 .long 33 ct2_g25d := V14
  have N14 := Fr.snoc X14 N13 g_b3
  obtain ⟨Lh14, X14, N14⟩ := hide X14 N14 (C := 1) (S := 33) (by decide) (by decide)
  refine Outs.of st14 ?_
  show Outs p e below s _ _ _ (T14.setTop (mkF m 26 #[.val (.ref o0), .val (.int (2 : Int32)), .val (.ref b3), .val (.int (4 : Int32))] []))
  refine Outs.of (U' := T14.setTop (mkF m 33 #[.val (.ref o0), .val (.int (2 : Int32)), .val (.ref b3), .val (.int (5 : Int32))] [(.int (4 : Int32)), (.ref b3)])) (fun t k => ?_) ?_
  · refine XS.iinc X14.here hx rfl (hb hby d3_26) rfl (l' := #[.val (.ref o0), .val (.int (2 : Int32)), .val (.ref b3), .val (.int (5 : Int32))]) rfl ?_
    refine XS.aloadN X14.here hx rfl (hb hby d3_29) rfl rfl ?_
    refine XS.iloadN X14.here hx rfl (hb hby d3_30) rfl ?_
    refine XS.iconst X14.here hx rfl (hb hby d3_31) ?_
    refine XS.isub X14.here hx rfl (hb hby d3_32) rfl ?_
    exact k
  refine Outs.of (ldJ X14 hx hZ e14 V14 (j := (4 : Int32)) (k := 4) rfl (by decide) (f := (mkF m 33 #[.val (.ref o0), .val (.int (2 : Int32)), .val (.ref b3), .val (.int (5 : Int32))] [(.int (4 : Int32)), (.ref b3)])) rfl rfl (hb hby d3_33)) ?_
  show Outs p e below s _ _ _ (T14.setTop (mkF m 34 #[.val (.ref o0), .val (.int (2 : Int32)), .val (.ref b3), .val (.int (5 : Int32))] [(.long (ct2_g25d 4))]))
  refine Outs.of (U' := T14.setTop (mkF m 20 #[.val (.ref o0), .val (.int (2 : Int32)), .val (.ref b3), .val (.int (5 : Int32))] [(.int (5 : Int32)), (.int (2 : Int32)), (.int (5 : Int32)), (.ref b3)])) (fun t k => ?_) ?_
  · refine X14.ldc2Long hx hown (mvT hZ (hw _ (List.mem_of_getElem? (i := 27) rfl))) (g := (mkF m 34 #[.val (.ref o0), .val (.int (2 : Int32)), .val (.ref b3), .val (.int (5 : Int32))] [(.long (ct2_g25d 4))])) rfl (hb hby d3_34) _ ?_
    refine XS.lcmp X14.here hx rfl (hb hby d3_37) rfl ?_
    refine XS.ifYes X14.here hx rfl (pc0 := 38) (pc' := 16) rfl (hb hby d3_38) rfl ((if0 _ _).trans (flt (fun q_ => (show ¬ ((2147483647 : Int64) < (ct2_g25d 4)) from (by decide +kernel)) ((lw_gt _ _).mp q_))).2.2.2) (by decide) (by decide) ?_
    refine XS.aloadN X14.here hx rfl (hb hby d3_16) rfl rfl ?_
    refine XS.iloadN X14.here hx rfl (hb hby d3_17) rfl ?_
    refine XS.iloadN X14.here hx rfl (hb hby d3_18) rfl ?_
    refine XS.iloadN X14.here hx rfl (hb hby d3_19) rfl ?_
    exact k
  obtain ⟨_, _, ⟨T15, L15, k15, n15⟩, -, X15, ⟨Lc15, hQ15, l15, y15, z15⟩, st15⟩ := Jvm.LawKit.callS X14 hx (y := (⟨"com/example/bitmend/bitmend/CodeParameters", "columns", "(II)J"⟩ : MethodName)) hown (mvT hZ (hw _ (List.mem_of_getElem? (i := 23) rfl))) (mvT hZ (hw _ (List.mem_of_getElem? (i := 24) rfl))) (mvT hZ (hw _ (List.mem_of_getElem? (i := 25) rfl))) (mvT hZ (hw _ (List.mem_of_getElem? (i := 26) rfl))) (by decide) (backOf (W := 2) (rm5 l Z a0 hw [] (2 : Int32) (5 : Int32) h14 n0 (by decide)) hZ (hw _ (List.mem_of_getElem? (i := 26) rfl)) (hw _ (List.mem_of_getElem? (i := 25) rfl)) (by decide) (by decide)) (g := (mkF m 20 #[.val (.ref o0), .val (.int (2 : Int32)), .val (.ref b3), .val (.int (5 : Int32))] [(.int (5 : Int32)), (.int (2 : Int32)), (.int (5 : Int32)), (.ref b3)])) rfl (by rw [hml]; rfl) (argsL := [(.int (2 : Int32)), (.int (5 : Int32))]) (rest := [(.int (5 : Int32)), (.ref b3)]) (lenOf pd_0 rfl) rfl (by show 2 * 0 + _ ≤ _; exact Nat.le_of_eq rfl) (hb hby d3_20) (fun _ _ => ⟨rfl, e14, (by decide : 1 + 0 ≤ _), (by decide : 33 + 0 ≤ _)⟩)
  dsimp only [Pt.U, Pt.locs, Pt.cells, Pt.slots] at X15 l15 y15 z15 st15 hQ15
  subst l15 y15 z15
  obtain ⟨rfl, N15q, e15⟩ := hQ15
  have N15 := Fr.app N14 N15q
  obtain ⟨Lh15, X15, N15⟩ := hide X15 N15 (C := 1) (S := 33) (by decide) (by decide)
  refine Outs.of st15 ?_
  show Outs p e below s _ _ _ (T15.setTop (mkF m 23 #[.val (.ref o0), .val (.int (2 : Int32)), .val (.ref b3), .val (.int (5 : Int32))] [(.long (F_f5 (2 : Int32) (5 : Int32))), (.int (5 : Int32)), (.ref b3)]))
  refine Outs.of (U' := T15.setTop (mkF m 25 #[.val (.ref o0), .val (.int (2 : Int32)), .val (.ref b3), .val (.int (5 : Int32))] [(.long ((F_f5 (2 : Int32) (5 : Int32)) + (1 : Int64))), (.int (5 : Int32)), (.ref b3)])) (fun t k => ?_) ?_
  · refine XS.lconst X15.here hx rfl (hb hby d3_23) ?_
    refine XS.ladd X15.here hx rfl (hb hby d3_24) rfl ?_
    exact k
  obtain ⟨T16, h16, X16, e16, W16, V16, st16⟩ := puJ X15 hx hZ e15 V14 (j := (5 : Int32)) (x := ((F_f5 (2 : Int32) (5 : Int32)) + (1 : Int64))) (k := 5) rfl (by decide) (f := (mkF m 25 #[.val (.ref o0), .val (.int (2 : Int32)), .val (.ref b3), .val (.int (5 : Int32))] [(.long ((F_f5 (2 : Int32) (5 : Int32)) + (1 : Int64))), (.int (5 : Int32)), (.ref b3)])) rfl rfl (hb hby d3_25)
  replace V16 : AJ Z h16 b3 .long 33 ct2_g25e := V16
  have N16 := Fr.snoc X16 N15 g_b3
  obtain ⟨Lh16, X16, N16⟩ := hide X16 N16 (C := 1) (S := 33) (by decide) (by decide)
  refine Outs.of st16 ?_
  show Outs p e below s _ _ _ (T16.setTop (mkF m 26 #[.val (.ref o0), .val (.int (2 : Int32)), .val (.ref b3), .val (.int (5 : Int32))] []))
  refine Outs.of (U' := T16.setTop (mkF m 33 #[.val (.ref o0), .val (.int (2 : Int32)), .val (.ref b3), .val (.int (6 : Int32))] [(.int (5 : Int32)), (.ref b3)])) (fun t k => ?_) ?_
  · refine XS.iinc X16.here hx rfl (hb hby d3_26) rfl (l' := #[.val (.ref o0), .val (.int (2 : Int32)), .val (.ref b3), .val (.int (6 : Int32))]) rfl ?_
    refine XS.aloadN X16.here hx rfl (hb hby d3_29) rfl rfl ?_
    refine XS.iloadN X16.here hx rfl (hb hby d3_30) rfl ?_
    refine XS.iconst X16.here hx rfl (hb hby d3_31) ?_
    refine XS.isub X16.here hx rfl (hb hby d3_32) rfl ?_
    exact k
  refine Outs.of (ldJ X16 hx hZ e16 V16 (j := (5 : Int32)) (k := 5) rfl (by decide) (f := (mkF m 33 #[.val (.ref o0), .val (.int (2 : Int32)), .val (.ref b3), .val (.int (6 : Int32))] [(.int (5 : Int32)), (.ref b3)])) rfl rfl (hb hby d3_33)) ?_
  show Outs p e below s _ _ _ (T16.setTop (mkF m 34 #[.val (.ref o0), .val (.int (2 : Int32)), .val (.ref b3), .val (.int (6 : Int32))] [(.long (ct2_g25e 5))]))
  refine Outs.of (U' := T16.setTop (mkF m 20 #[.val (.ref o0), .val (.int (2 : Int32)), .val (.ref b3), .val (.int (6 : Int32))] [(.int (6 : Int32)), (.int (2 : Int32)), (.int (6 : Int32)), (.ref b3)])) (fun t k => ?_) ?_
  · refine X16.ldc2Long hx hown (mvT hZ (hw _ (List.mem_of_getElem? (i := 27) rfl))) (g := (mkF m 34 #[.val (.ref o0), .val (.int (2 : Int32)), .val (.ref b3), .val (.int (6 : Int32))] [(.long (ct2_g25e 5))])) rfl (hb hby d3_34) _ ?_
    refine XS.lcmp X16.here hx rfl (hb hby d3_37) rfl ?_
    refine XS.ifYes X16.here hx rfl (pc0 := 38) (pc' := 16) rfl (hb hby d3_38) rfl ((if0 _ _).trans (flt (fun q_ => (show ¬ ((2147483647 : Int64) < (ct2_g25e 5)) from (by decide +kernel)) ((lw_gt _ _).mp q_))).2.2.2) (by decide) (by decide) ?_
    refine XS.aloadN X16.here hx rfl (hb hby d3_16) rfl rfl ?_
    refine XS.iloadN X16.here hx rfl (hb hby d3_17) rfl ?_
    refine XS.iloadN X16.here hx rfl (hb hby d3_18) rfl ?_
    refine XS.iloadN X16.here hx rfl (hb hby d3_19) rfl ?_
    exact k
  obtain ⟨_, _, ⟨T17, L17, k17, n17⟩, -, X17, ⟨Lc17, hQ17, l17, y17, z17⟩, st17⟩ := Jvm.LawKit.callS X16 hx (y := (⟨"com/example/bitmend/bitmend/CodeParameters", "columns", "(II)J"⟩ : MethodName)) hown (mvT hZ (hw _ (List.mem_of_getElem? (i := 23) rfl))) (mvT hZ (hw _ (List.mem_of_getElem? (i := 24) rfl))) (mvT hZ (hw _ (List.mem_of_getElem? (i := 25) rfl))) (mvT hZ (hw _ (List.mem_of_getElem? (i := 26) rfl))) (by decide) (backOf (W := 2) (rm5 l Z a0 hw [] (2 : Int32) (6 : Int32) h16 n0 (by decide)) hZ (hw _ (List.mem_of_getElem? (i := 26) rfl)) (hw _ (List.mem_of_getElem? (i := 25) rfl)) (by decide) (by decide)) (g := (mkF m 20 #[.val (.ref o0), .val (.int (2 : Int32)), .val (.ref b3), .val (.int (6 : Int32))] [(.int (6 : Int32)), (.int (2 : Int32)), (.int (6 : Int32)), (.ref b3)])) rfl (by rw [hml]; rfl) (argsL := [(.int (2 : Int32)), (.int (6 : Int32))]) (rest := [(.int (6 : Int32)), (.ref b3)]) (lenOf pd_0 rfl) rfl (by show 2 * 0 + _ ≤ _; exact Nat.le_of_eq rfl) (hb hby d3_20) (fun _ _ => ⟨rfl, e16, (by decide : 1 + 0 ≤ _), (by decide : 33 + 0 ≤ _)⟩)
  dsimp only [Pt.U, Pt.locs, Pt.cells, Pt.slots] at X17 l17 y17 z17 st17 hQ17
  subst l17 y17 z17
  obtain ⟨rfl, N17q, e17⟩ := hQ17
  have N17 := Fr.app N16 N17q
  obtain ⟨Lh17, X17, N17⟩ := hide X17 N17 (C := 1) (S := 33) (by decide) (by decide)
  refine Outs.of st17 ?_
  show Outs p e below s _ _ _ (T17.setTop (mkF m 23 #[.val (.ref o0), .val (.int (2 : Int32)), .val (.ref b3), .val (.int (6 : Int32))] [(.long (F_f5 (2 : Int32) (6 : Int32))), (.int (6 : Int32)), (.ref b3)]))
  refine Outs.of (U' := T17.setTop (mkF m 25 #[.val (.ref o0), .val (.int (2 : Int32)), .val (.ref b3), .val (.int (6 : Int32))] [(.long ((F_f5 (2 : Int32) (6 : Int32)) + (1 : Int64))), (.int (6 : Int32)), (.ref b3)])) (fun t k => ?_) ?_
  · refine XS.lconst X17.here hx rfl (hb hby d3_23) ?_
    refine XS.ladd X17.here hx rfl (hb hby d3_24) rfl ?_
    exact k
  obtain ⟨T18, h18, X18, e18, W18, V18, st18⟩ := puJ X17 hx hZ e17 V16 (j := (6 : Int32)) (x := ((F_f5 (2 : Int32) (6 : Int32)) + (1 : Int64))) (k := 6) rfl (by decide) (f := (mkF m 25 #[.val (.ref o0), .val (.int (2 : Int32)), .val (.ref b3), .val (.int (6 : Int32))] [(.long ((F_f5 (2 : Int32) (6 : Int32)) + (1 : Int64))), (.int (6 : Int32)), (.ref b3)])) rfl rfl (hb hby d3_25)
  replace V18 : AJ Z h18 b3 .long 33 ct2_g25f := V18
  have N18 := Fr.snoc X18 N17 g_b3
  obtain ⟨Lh18, X18, N18⟩ := hide X18 N18 (C := 1) (S := 33) (by decide) (by decide)
  refine Outs.of st18 ?_
  show Outs p e below s _ _ _ (T18.setTop (mkF m 26 #[.val (.ref o0), .val (.int (2 : Int32)), .val (.ref b3), .val (.int (6 : Int32))] []))
  refine Outs.of (U' := T18.setTop (mkF m 33 #[.val (.ref o0), .val (.int (2 : Int32)), .val (.ref b3), .val (.int (7 : Int32))] [(.int (6 : Int32)), (.ref b3)])) (fun t k => ?_) ?_
  · refine XS.iinc X18.here hx rfl (hb hby d3_26) rfl (l' := #[.val (.ref o0), .val (.int (2 : Int32)), .val (.ref b3), .val (.int (7 : Int32))]) rfl ?_
    refine XS.aloadN X18.here hx rfl (hb hby d3_29) rfl rfl ?_
    refine XS.iloadN X18.here hx rfl (hb hby d3_30) rfl ?_
    refine XS.iconst X18.here hx rfl (hb hby d3_31) ?_
    refine XS.isub X18.here hx rfl (hb hby d3_32) rfl ?_
    exact k
  refine Outs.of (ldJ X18 hx hZ e18 V18 (j := (6 : Int32)) (k := 6) rfl (by decide) (f := (mkF m 33 #[.val (.ref o0), .val (.int (2 : Int32)), .val (.ref b3), .val (.int (7 : Int32))] [(.int (6 : Int32)), (.ref b3)])) rfl rfl (hb hby d3_33)) ?_
  show Outs p e below s _ _ _ (T18.setTop (mkF m 34 #[.val (.ref o0), .val (.int (2 : Int32)), .val (.ref b3), .val (.int (7 : Int32))] [(.long (ct2_g25f 6))]))
  refine Outs.of (U' := T18.setTop (mkF m 20 #[.val (.ref o0), .val (.int (2 : Int32)), .val (.ref b3), .val (.int (7 : Int32))] [(.int (7 : Int32)), (.int (2 : Int32)), (.int (7 : Int32)), (.ref b3)])) (fun t k => ?_) ?_
  · refine X18.ldc2Long hx hown (mvT hZ (hw _ (List.mem_of_getElem? (i := 27) rfl))) (g := (mkF m 34 #[.val (.ref o0), .val (.int (2 : Int32)), .val (.ref b3), .val (.int (7 : Int32))] [(.long (ct2_g25f 6))])) rfl (hb hby d3_34) _ ?_
    refine XS.lcmp X18.here hx rfl (hb hby d3_37) rfl ?_
    refine XS.ifYes X18.here hx rfl (pc0 := 38) (pc' := 16) rfl (hb hby d3_38) rfl ((if0 _ _).trans (flt (fun q_ => (show ¬ ((2147483647 : Int64) < (ct2_g25f 6)) from (by decide +kernel)) ((lw_gt _ _).mp q_))).2.2.2) (by decide) (by decide) ?_
    refine XS.aloadN X18.here hx rfl (hb hby d3_16) rfl rfl ?_
    refine XS.iloadN X18.here hx rfl (hb hby d3_17) rfl ?_
    refine XS.iloadN X18.here hx rfl (hb hby d3_18) rfl ?_
    refine XS.iloadN X18.here hx rfl (hb hby d3_19) rfl ?_
    exact k
  obtain ⟨_, _, ⟨T19, L19, k19, n19⟩, -, X19, ⟨Lc19, hQ19, l19, y19, z19⟩, st19⟩ := Jvm.LawKit.callS X18 hx (y := (⟨"com/example/bitmend/bitmend/CodeParameters", "columns", "(II)J"⟩ : MethodName)) hown (mvT hZ (hw _ (List.mem_of_getElem? (i := 23) rfl))) (mvT hZ (hw _ (List.mem_of_getElem? (i := 24) rfl))) (mvT hZ (hw _ (List.mem_of_getElem? (i := 25) rfl))) (mvT hZ (hw _ (List.mem_of_getElem? (i := 26) rfl))) (by decide) (backOf (W := 2) (rm5 l Z a0 hw [] (2 : Int32) (7 : Int32) h18 n0 (by decide)) hZ (hw _ (List.mem_of_getElem? (i := 26) rfl)) (hw _ (List.mem_of_getElem? (i := 25) rfl)) (by decide) (by decide)) (g := (mkF m 20 #[.val (.ref o0), .val (.int (2 : Int32)), .val (.ref b3), .val (.int (7 : Int32))] [(.int (7 : Int32)), (.int (2 : Int32)), (.int (7 : Int32)), (.ref b3)])) rfl (by rw [hml]; rfl) (argsL := [(.int (2 : Int32)), (.int (7 : Int32))]) (rest := [(.int (7 : Int32)), (.ref b3)]) (lenOf pd_0 rfl) rfl (by show 2 * 0 + _ ≤ _; exact Nat.le_of_eq rfl) (hb hby d3_20) (fun _ _ => ⟨rfl, e18, (by decide : 1 + 0 ≤ _), (by decide : 33 + 0 ≤ _)⟩)
  dsimp only [Pt.U, Pt.locs, Pt.cells, Pt.slots] at X19 l19 y19 z19 st19 hQ19
  subst l19 y19 z19
  obtain ⟨rfl, N19q, e19⟩ := hQ19
  have N19 := Fr.app N18 N19q
  obtain ⟨Lh19, X19, N19⟩ := hide X19 N19 (C := 1) (S := 33) (by decide) (by decide)
  refine Outs.of st19 ?_
  show Outs p e below s _ _ _ (T19.setTop (mkF m 23 #[.val (.ref o0), .val (.int (2 : Int32)), .val (.ref b3), .val (.int (7 : Int32))] [(.long (F_f5 (2 : Int32) (7 : Int32))), (.int (7 : Int32)), (.ref b3)]))
  refine Outs.of (U' := T19.setTop (mkF m 25 #[.val (.ref o0), .val (.int (2 : Int32)), .val (.ref b3), .val (.int (7 : Int32))] [(.long ((F_f5 (2 : Int32) (7 : Int32)) + (1 : Int64))), (.int (7 : Int32)), (.ref b3)])) (fun t k => ?_) ?_
  · refine XS.lconst X19.here hx rfl (hb hby d3_23) ?_
    refine XS.ladd X19.here hx rfl (hb hby d3_24) rfl ?_
    exact k
  obtain ⟨T20, h20, X20, e20, W20, V20, st20⟩ := puJ X19 hx hZ e19 V18 (j := (7 : Int32)) (x := ((F_f5 (2 : Int32) (7 : Int32)) + (1 : Int64))) (k := 7) rfl (by decide) (f := (mkF m 25 #[.val (.ref o0), .val (.int (2 : Int32)), .val (.ref b3), .val (.int (7 : Int32))] [(.long ((F_f5 (2 : Int32) (7 : Int32)) + (1 : Int64))), (.int (7 : Int32)), (.ref b3)])) rfl rfl (hb hby d3_25)
  replace V20 : AJ Z h20 b3 .long 33 ct2_g25g := V20
  have N20 := Fr.snoc X20 N19 g_b3
  obtain ⟨Lh20, X20, N20⟩ := hide X20 N20 (C := 1) (S := 33) (by decide) (by decide)
  refine Outs.of st20 ?_
  show Outs p e below s _ _ _ (T20.setTop (mkF m 26 #[.val (.ref o0), .val (.int (2 : Int32)), .val (.ref b3), .val (.int (7 : Int32))] []))
  refine Outs.of (U' := T20.setTop (mkF m 33 #[.val (.ref o0), .val (.int (2 : Int32)), .val (.ref b3), .val (.int (8 : Int32))] [(.int (7 : Int32)), (.ref b3)])) (fun t k => ?_) ?_
  · refine XS.iinc X20.here hx rfl (hb hby d3_26) rfl (l' := #[.val (.ref o0), .val (.int (2 : Int32)), .val (.ref b3), .val (.int (8 : Int32))]) rfl ?_
    refine XS.aloadN X20.here hx rfl (hb hby d3_29) rfl rfl ?_
    refine XS.iloadN X20.here hx rfl (hb hby d3_30) rfl ?_
    refine XS.iconst X20.here hx rfl (hb hby d3_31) ?_
    refine XS.isub X20.here hx rfl (hb hby d3_32) rfl ?_
    exact k
  refine Outs.of (ldJ X20 hx hZ e20 V20 (j := (7 : Int32)) (k := 7) rfl (by decide) (f := (mkF m 33 #[.val (.ref o0), .val (.int (2 : Int32)), .val (.ref b3), .val (.int (8 : Int32))] [(.int (7 : Int32)), (.ref b3)])) rfl rfl (hb hby d3_33)) ?_
  show Outs p e below s _ _ _ (T20.setTop (mkF m 34 #[.val (.ref o0), .val (.int (2 : Int32)), .val (.ref b3), .val (.int (8 : Int32))] [(.long (ct2_g25g 7))]))
  refine Outs.of (U' := T20.setTop (mkF m 20 #[.val (.ref o0), .val (.int (2 : Int32)), .val (.ref b3), .val (.int (8 : Int32))] [(.int (8 : Int32)), (.int (2 : Int32)), (.int (8 : Int32)), (.ref b3)])) (fun t k => ?_) ?_
  · refine X20.ldc2Long hx hown (mvT hZ (hw _ (List.mem_of_getElem? (i := 27) rfl))) (g := (mkF m 34 #[.val (.ref o0), .val (.int (2 : Int32)), .val (.ref b3), .val (.int (8 : Int32))] [(.long (ct2_g25g 7))])) rfl (hb hby d3_34) _ ?_
    refine XS.lcmp X20.here hx rfl (hb hby d3_37) rfl ?_
    refine XS.ifYes X20.here hx rfl (pc0 := 38) (pc' := 16) rfl (hb hby d3_38) rfl ((if0 _ _).trans (flt (fun q_ => (show ¬ ((2147483647 : Int64) < (ct2_g25g 7)) from (by decide +kernel)) ((lw_gt _ _).mp q_))).2.2.2) (by decide) (by decide) ?_
    refine XS.aloadN X20.here hx rfl (hb hby d3_16) rfl rfl ?_
    refine XS.iloadN X20.here hx rfl (hb hby d3_17) rfl ?_
    refine XS.iloadN X20.here hx rfl (hb hby d3_18) rfl ?_
    refine XS.iloadN X20.here hx rfl (hb hby d3_19) rfl ?_
    exact k
  obtain ⟨_, _, ⟨T21, L21, k21, n21⟩, -, X21, ⟨Lc21, hQ21, l21, y21, z21⟩, st21⟩ := Jvm.LawKit.callS X20 hx (y := (⟨"com/example/bitmend/bitmend/CodeParameters", "columns", "(II)J"⟩ : MethodName)) hown (mvT hZ (hw _ (List.mem_of_getElem? (i := 23) rfl))) (mvT hZ (hw _ (List.mem_of_getElem? (i := 24) rfl))) (mvT hZ (hw _ (List.mem_of_getElem? (i := 25) rfl))) (mvT hZ (hw _ (List.mem_of_getElem? (i := 26) rfl))) (by decide) (backOf (W := 2) (rm5 l Z a0 hw [] (2 : Int32) (8 : Int32) h20 n0 (by decide)) hZ (hw _ (List.mem_of_getElem? (i := 26) rfl)) (hw _ (List.mem_of_getElem? (i := 25) rfl)) (by decide) (by decide)) (g := (mkF m 20 #[.val (.ref o0), .val (.int (2 : Int32)), .val (.ref b3), .val (.int (8 : Int32))] [(.int (8 : Int32)), (.int (2 : Int32)), (.int (8 : Int32)), (.ref b3)])) rfl (by rw [hml]; rfl) (argsL := [(.int (2 : Int32)), (.int (8 : Int32))]) (rest := [(.int (8 : Int32)), (.ref b3)]) (lenOf pd_0 rfl) rfl (by show 2 * 0 + _ ≤ _; exact Nat.le_of_eq rfl) (hb hby d3_20) (fun _ _ => ⟨rfl, e20, (by decide : 1 + 0 ≤ _), (by decide : 33 + 0 ≤ _)⟩)
  dsimp only [Pt.U, Pt.locs, Pt.cells, Pt.slots] at X21 l21 y21 z21 st21 hQ21
  subst l21 y21 z21
  obtain ⟨rfl, N21q, e21⟩ := hQ21
  have N21 := Fr.app N20 N21q
  obtain ⟨Lh21, X21, N21⟩ := hide X21 N21 (C := 1) (S := 33) (by decide) (by decide)
  refine Outs.of st21 ?_
  show Outs p e below s _ _ _ (T21.setTop (mkF m 23 #[.val (.ref o0), .val (.int (2 : Int32)), .val (.ref b3), .val (.int (8 : Int32))] [(.long (F_f5 (2 : Int32) (8 : Int32))), (.int (8 : Int32)), (.ref b3)]))
  refine Outs.of (U' := T21.setTop (mkF m 25 #[.val (.ref o0), .val (.int (2 : Int32)), .val (.ref b3), .val (.int (8 : Int32))] [(.long ((F_f5 (2 : Int32) (8 : Int32)) + (1 : Int64))), (.int (8 : Int32)), (.ref b3)])) (fun t k => ?_) ?_
  · refine XS.lconst X21.here hx rfl (hb hby d3_23) ?_
    refine XS.ladd X21.here hx rfl (hb hby d3_24) rfl ?_
    exact k
  obtain ⟨T22, h22, X22, e22, W22, V22, st22⟩ := puJ X21 hx hZ e21 V20 (j := (8 : Int32)) (x := ((F_f5 (2 : Int32) (8 : Int32)) + (1 : Int64))) (k := 8) rfl (by decide) (f := (mkF m 25 #[.val (.ref o0), .val (.int (2 : Int32)), .val (.ref b3), .val (.int (8 : Int32))] [(.long ((F_f5 (2 : Int32) (8 : Int32)) + (1 : Int64))), (.int (8 : Int32)), (.ref b3)])) rfl rfl (hb hby d3_25)
  replace V22 : AJ Z h22 b3 .long 33 ct2_g25h := V22
  have N22 := Fr.snoc X22 N21 g_b3
  obtain ⟨Lh22, X22, N22⟩ := hide X22 N22 (C := 1) (S := 33) (by decide) (by decide)
  refine Outs.of st22 ?_
  show Outs p e below s _ _ _ (T22.setTop (mkF m 26 #[.val (.ref o0), .val (.int (2 : Int32)), .val (.ref b3), .val (.int (8 : Int32))] []))
  refine Outs.of (U' := T22.setTop (mkF m 33 #[.val (.ref o0), .val (.int (2 : Int32)), .val (.ref b3), .val (.int (9 : Int32))] [(.int (8 : Int32)), (.ref b3)])) (fun t k => ?_) ?_
  · refine XS.iinc X22.here hx rfl (hb hby d3_26) rfl (l' := #[.val (.ref o0), .val (.int (2 : Int32)), .val (.ref b3), .val (.int (9 : Int32))]) rfl ?_
    refine XS.aloadN X22.here hx rfl (hb hby d3_29) rfl rfl ?_
    refine XS.iloadN X22.here hx rfl (hb hby d3_30) rfl ?_
    refine XS.iconst X22.here hx rfl (hb hby d3_31) ?_
    refine XS.isub X22.here hx rfl (hb hby d3_32) rfl ?_
    exact k
  refine Outs.of (ldJ X22 hx hZ e22 V22 (j := (8 : Int32)) (k := 8) rfl (by decide) (f := (mkF m 33 #[.val (.ref o0), .val (.int (2 : Int32)), .val (.ref b3), .val (.int (9 : Int32))] [(.int (8 : Int32)), (.ref b3)])) rfl rfl (hb hby d3_33)) ?_
  show Outs p e below s _ _ _ (T22.setTop (mkF m 34 #[.val (.ref o0), .val (.int (2 : Int32)), .val (.ref b3), .val (.int (9 : Int32))] [(.long (ct2_g25h 8))]))
  refine Outs.of (U' := T22.setTop (mkF m 20 #[.val (.ref o0), .val (.int (2 : Int32)), .val (.ref b3), .val (.int (9 : Int32))] [(.int (9 : Int32)), (.int (2 : Int32)), (.int (9 : Int32)), (.ref b3)])) (fun t k => ?_) ?_
  · refine X22.ldc2Long hx hown (mvT hZ (hw _ (List.mem_of_getElem? (i := 27) rfl))) (g := (mkF m 34 #[.val (.ref o0), .val (.int (2 : Int32)), .val (.ref b3), .val (.int (9 : Int32))] [(.long (ct2_g25h 8))])) rfl (hb hby d3_34) _ ?_
    refine XS.lcmp X22.here hx rfl (hb hby d3_37) rfl ?_
    refine XS.ifYes X22.here hx rfl (pc0 := 38) (pc' := 16) rfl (hb hby d3_38) rfl ((if0 _ _).trans (flt (fun q_ => (show ¬ ((2147483647 : Int64) < (ct2_g25h 8)) from (by decide +kernel)) ((lw_gt _ _).mp q_))).2.2.2) (by decide) (by decide) ?_
    refine XS.aloadN X22.here hx rfl (hb hby d3_16) rfl rfl ?_
    refine XS.iloadN X22.here hx rfl (hb hby d3_17) rfl ?_
    refine XS.iloadN X22.here hx rfl (hb hby d3_18) rfl ?_
    refine XS.iloadN X22.here hx rfl (hb hby d3_19) rfl ?_
    exact k
  obtain ⟨_, _, ⟨T23, L23, k23, n23⟩, -, X23, ⟨Lc23, hQ23, l23, y23, z23⟩, st23⟩ := Jvm.LawKit.callS X22 hx (y := (⟨"com/example/bitmend/bitmend/CodeParameters", "columns", "(II)J"⟩ : MethodName)) hown (mvT hZ (hw _ (List.mem_of_getElem? (i := 23) rfl))) (mvT hZ (hw _ (List.mem_of_getElem? (i := 24) rfl))) (mvT hZ (hw _ (List.mem_of_getElem? (i := 25) rfl))) (mvT hZ (hw _ (List.mem_of_getElem? (i := 26) rfl))) (by decide) (backOf (W := 2) (rm5 l Z a0 hw [] (2 : Int32) (9 : Int32) h22 n0 (by decide)) hZ (hw _ (List.mem_of_getElem? (i := 26) rfl)) (hw _ (List.mem_of_getElem? (i := 25) rfl)) (by decide) (by decide)) (g := (mkF m 20 #[.val (.ref o0), .val (.int (2 : Int32)), .val (.ref b3), .val (.int (9 : Int32))] [(.int (9 : Int32)), (.int (2 : Int32)), (.int (9 : Int32)), (.ref b3)])) rfl (by rw [hml]; rfl) (argsL := [(.int (2 : Int32)), (.int (9 : Int32))]) (rest := [(.int (9 : Int32)), (.ref b3)]) (lenOf pd_0 rfl) rfl (by show 2 * 0 + _ ≤ _; exact Nat.le_of_eq rfl) (hb hby d3_20) (fun _ _ => ⟨rfl, e22, (by decide : 1 + 0 ≤ _), (by decide : 33 + 0 ≤ _)⟩)
  dsimp only [Pt.U, Pt.locs, Pt.cells, Pt.slots] at X23 l23 y23 z23 st23 hQ23
  subst l23 y23 z23
  obtain ⟨rfl, N23q, e23⟩ := hQ23
  have N23 := Fr.app N22 N23q
  obtain ⟨Lh23, X23, N23⟩ := hide X23 N23 (C := 1) (S := 33) (by decide) (by decide)
  refine Outs.of st23 ?_
  show Outs p e below s _ _ _ (T23.setTop (mkF m 23 #[.val (.ref o0), .val (.int (2 : Int32)), .val (.ref b3), .val (.int (9 : Int32))] [(.long (F_f5 (2 : Int32) (9 : Int32))), (.int (9 : Int32)), (.ref b3)]))
  refine Outs.of (U' := T23.setTop (mkF m 25 #[.val (.ref o0), .val (.int (2 : Int32)), .val (.ref b3), .val (.int (9 : Int32))] [(.long ((F_f5 (2 : Int32) (9 : Int32)) + (1 : Int64))), (.int (9 : Int32)), (.ref b3)])) (fun t k => ?_) ?_
  · refine XS.lconst X23.here hx rfl (hb hby d3_23) ?_
    refine XS.ladd X23.here hx rfl (hb hby d3_24) rfl ?_
    exact k
  obtain ⟨T24, h24, X24, e24, W24, V24, st24⟩ := puJ X23 hx hZ e23 V22 (j := (9 : Int32)) (x := ((F_f5 (2 : Int32) (9 : Int32)) + (1 : Int64))) (k := 9) rfl (by decide) (f := (mkF m 25 #[.val (.ref o0), .val (.int (2 : Int32)), .val (.ref b3), .val (.int (9 : Int32))] [(.long ((F_f5 (2 : Int32) (9 : Int32)) + (1 : Int64))), (.int (9 : Int32)), (.ref b3)])) rfl rfl (hb hby d3_25)
  replace V24 : AJ Z h24 b3 .long 33 ct2_g25i := V24
  have N24 := Fr.snoc X24 N23 g_b3
  obtain ⟨Lh24, X24, N24⟩ := hide X24 N24 (C := 1) (S := 33) (by decide) (by decide)
  refine Outs.of st24 ?_
  show Outs p e below s _ _ _ (T24.setTop (mkF m 26 #[.val (.ref o0), .val (.int (2 : Int32)), .val (.ref b3), .val (.int (9 : Int32))] []))
  refine Outs.of (U' := T24.setTop (mkF m 33 #[.val (.ref o0), .val (.int (2 : Int32)), .val (.ref b3), .val (.int (10 : Int32))] [(.int (9 : Int32)), (.ref b3)])) (fun t k => ?_) ?_
  · refine XS.iinc X24.here hx rfl (hb hby d3_26) rfl (l' := #[.val (.ref o0), .val (.int (2 : Int32)), .val (.ref b3), .val (.int (10 : Int32))]) rfl ?_
    refine XS.aloadN X24.here hx rfl (hb hby d3_29) rfl rfl ?_
    refine XS.iloadN X24.here hx rfl (hb hby d3_30) rfl ?_
    refine XS.iconst X24.here hx rfl (hb hby d3_31) ?_
    refine XS.isub X24.here hx rfl (hb hby d3_32) rfl ?_
    exact k
  refine Outs.of (ldJ X24 hx hZ e24 V24 (j := (9 : Int32)) (k := 9) rfl (by decide) (f := (mkF m 33 #[.val (.ref o0), .val (.int (2 : Int32)), .val (.ref b3), .val (.int (10 : Int32))] [(.int (9 : Int32)), (.ref b3)])) rfl rfl (hb hby d3_33)) ?_
  show Outs p e below s _ _ _ (T24.setTop (mkF m 34 #[.val (.ref o0), .val (.int (2 : Int32)), .val (.ref b3), .val (.int (10 : Int32))] [(.long (ct2_g25i 9))]))
  refine Outs.of (U' := T24.setTop (mkF m 20 #[.val (.ref o0), .val (.int (2 : Int32)), .val (.ref b3), .val (.int (10 : Int32))] [(.int (10 : Int32)), (.int (2 : Int32)), (.int (10 : Int32)), (.ref b3)])) (fun t k => ?_) ?_
  · refine X24.ldc2Long hx hown (mvT hZ (hw _ (List.mem_of_getElem? (i := 27) rfl))) (g := (mkF m 34 #[.val (.ref o0), .val (.int (2 : Int32)), .val (.ref b3), .val (.int (10 : Int32))] [(.long (ct2_g25i 9))])) rfl (hb hby d3_34) _ ?_
    refine XS.lcmp X24.here hx rfl (hb hby d3_37) rfl ?_
    refine XS.ifYes X24.here hx rfl (pc0 := 38) (pc' := 16) rfl (hb hby d3_38) rfl ((if0 _ _).trans (flt (fun q_ => (show ¬ ((2147483647 : Int64) < (ct2_g25i 9)) from (by decide +kernel)) ((lw_gt _ _).mp q_))).2.2.2) (by decide) (by decide) ?_
    refine XS.aloadN X24.here hx rfl (hb hby d3_16) rfl rfl ?_
    refine XS.iloadN X24.here hx rfl (hb hby d3_17) rfl ?_
    refine XS.iloadN X24.here hx rfl (hb hby d3_18) rfl ?_
    refine XS.iloadN X24.here hx rfl (hb hby d3_19) rfl ?_
    exact k
  obtain ⟨_, _, ⟨T25, L25, k25, n25⟩, -, X25, ⟨Lc25, hQ25, l25, y25, z25⟩, st25⟩ := Jvm.LawKit.callS X24 hx (y := (⟨"com/example/bitmend/bitmend/CodeParameters", "columns", "(II)J"⟩ : MethodName)) hown (mvT hZ (hw _ (List.mem_of_getElem? (i := 23) rfl))) (mvT hZ (hw _ (List.mem_of_getElem? (i := 24) rfl))) (mvT hZ (hw _ (List.mem_of_getElem? (i := 25) rfl))) (mvT hZ (hw _ (List.mem_of_getElem? (i := 26) rfl))) (by decide) (backOf (W := 2) (rm5 l Z a0 hw [] (2 : Int32) (10 : Int32) h24 n0 (by decide)) hZ (hw _ (List.mem_of_getElem? (i := 26) rfl)) (hw _ (List.mem_of_getElem? (i := 25) rfl)) (by decide) (by decide)) (g := (mkF m 20 #[.val (.ref o0), .val (.int (2 : Int32)), .val (.ref b3), .val (.int (10 : Int32))] [(.int (10 : Int32)), (.int (2 : Int32)), (.int (10 : Int32)), (.ref b3)])) rfl (by rw [hml]; rfl) (argsL := [(.int (2 : Int32)), (.int (10 : Int32))]) (rest := [(.int (10 : Int32)), (.ref b3)]) (lenOf pd_0 rfl) rfl (by show 2 * 0 + _ ≤ _; exact Nat.le_of_eq rfl) (hb hby d3_20) (fun _ _ => ⟨rfl, e24, (by decide : 1 + 0 ≤ _), (by decide : 33 + 0 ≤ _)⟩)
  dsimp only [Pt.U, Pt.locs, Pt.cells, Pt.slots] at X25 l25 y25 z25 st25 hQ25
  subst l25 y25 z25
  obtain ⟨rfl, N25q, e25⟩ := hQ25
  have N25 := Fr.app N24 N25q
  obtain ⟨Lh25, X25, N25⟩ := hide X25 N25 (C := 1) (S := 33) (by decide) (by decide)
  refine Outs.of st25 ?_
  show Outs p e below s _ _ _ (T25.setTop (mkF m 23 #[.val (.ref o0), .val (.int (2 : Int32)), .val (.ref b3), .val (.int (10 : Int32))] [(.long (F_f5 (2 : Int32) (10 : Int32))), (.int (10 : Int32)), (.ref b3)]))
  refine Outs.of (U' := T25.setTop (mkF m 25 #[.val (.ref o0), .val (.int (2 : Int32)), .val (.ref b3), .val (.int (10 : Int32))] [(.long ((F_f5 (2 : Int32) (10 : Int32)) + (1 : Int64))), (.int (10 : Int32)), (.ref b3)])) (fun t k => ?_) ?_
  · refine XS.lconst X25.here hx rfl (hb hby d3_23) ?_
    refine XS.ladd X25.here hx rfl (hb hby d3_24) rfl ?_
    exact k
  obtain ⟨T26, h26, X26, e26, W26, V26, st26⟩ := puJ X25 hx hZ e25 V24 (j := (10 : Int32)) (x := ((F_f5 (2 : Int32) (10 : Int32)) + (1 : Int64))) (k := 10) rfl (by decide) (f := (mkF m 25 #[.val (.ref o0), .val (.int (2 : Int32)), .val (.ref b3), .val (.int (10 : Int32))] [(.long ((F_f5 (2 : Int32) (10 : Int32)) + (1 : Int64))), (.int (10 : Int32)), (.ref b3)])) rfl rfl (hb hby d3_25)
  replace V26 : AJ Z h26 b3 .long 33 ct2_g25j := V26
  have N26 := Fr.snoc X26 N25 g_b3
  obtain ⟨Lh26, X26, N26⟩ := hide X26 N26 (C := 1) (S := 33) (by decide) (by decide)
  refine Outs.of st26 ?_
  show Outs p e below s _ _ _ (T26.setTop (mkF m 26 #[.val (.ref o0), .val (.int (2 : Int32)), .val (.ref b3), .val (.int (10 : Int32))] []))
  refine Outs.of (U' := T26.setTop (mkF m 33 #[.val (.ref o0), .val (.int (2 : Int32)), .val (.ref b3), .val (.int (11 : Int32))] [(.int (10 : Int32)), (.ref b3)])) (fun t k => ?_) ?_
  · refine XS.iinc X26.here hx rfl (hb hby d3_26) rfl (l' := #[.val (.ref o0), .val (.int (2 : Int32)), .val (.ref b3), .val (.int (11 : Int32))]) rfl ?_
    refine XS.aloadN X26.here hx rfl (hb hby d3_29) rfl rfl ?_
    refine XS.iloadN X26.here hx rfl (hb hby d3_30) rfl ?_
    refine XS.iconst X26.here hx rfl (hb hby d3_31) ?_
    refine XS.isub X26.here hx rfl (hb hby d3_32) rfl ?_
    exact k
  refine Outs.of (ldJ X26 hx hZ e26 V26 (j := (10 : Int32)) (k := 10) rfl (by decide) (f := (mkF m 33 #[.val (.ref o0), .val (.int (2 : Int32)), .val (.ref b3), .val (.int (11 : Int32))] [(.int (10 : Int32)), (.ref b3)])) rfl rfl (hb hby d3_33)) ?_
  show Outs p e below s _ _ _ (T26.setTop (mkF m 34 #[.val (.ref o0), .val (.int (2 : Int32)), .val (.ref b3), .val (.int (11 : Int32))] [(.long (ct2_g25j 10))]))
  refine Outs.of (U' := T26.setTop (mkF m 20 #[.val (.ref o0), .val (.int (2 : Int32)), .val (.ref b3), .val (.int (11 : Int32))] [(.int (11 : Int32)), (.int (2 : Int32)), (.int (11 : Int32)), (.ref b3)])) (fun t k => ?_) ?_
  · refine X26.ldc2Long hx hown (mvT hZ (hw _ (List.mem_of_getElem? (i := 27) rfl))) (g := (mkF m 34 #[.val (.ref o0), .val (.int (2 : Int32)), .val (.ref b3), .val (.int (11 : Int32))] [(.long (ct2_g25j 10))])) rfl (hb hby d3_34) _ ?_
    refine XS.lcmp X26.here hx rfl (hb hby d3_37) rfl ?_
    refine XS.ifYes X26.here hx rfl (pc0 := 38) (pc' := 16) rfl (hb hby d3_38) rfl ((if0 _ _).trans (flt (fun q_ => (show ¬ ((2147483647 : Int64) < (ct2_g25j 10)) from (by decide +kernel)) ((lw_gt _ _).mp q_))).2.2.2) (by decide) (by decide) ?_
    refine XS.aloadN X26.here hx rfl (hb hby d3_16) rfl rfl ?_
    refine XS.iloadN X26.here hx rfl (hb hby d3_17) rfl ?_
    refine XS.iloadN X26.here hx rfl (hb hby d3_18) rfl ?_
    refine XS.iloadN X26.here hx rfl (hb hby d3_19) rfl ?_
    exact k
  obtain ⟨_, _, ⟨T27, L27, k27, n27⟩, -, X27, ⟨Lc27, hQ27, l27, y27, z27⟩, st27⟩ := Jvm.LawKit.callS X26 hx (y := (⟨"com/example/bitmend/bitmend/CodeParameters", "columns", "(II)J"⟩ : MethodName)) hown (mvT hZ (hw _ (List.mem_of_getElem? (i := 23) rfl))) (mvT hZ (hw _ (List.mem_of_getElem? (i := 24) rfl))) (mvT hZ (hw _ (List.mem_of_getElem? (i := 25) rfl))) (mvT hZ (hw _ (List.mem_of_getElem? (i := 26) rfl))) (by decide) (backOf (W := 2) (rm5 l Z a0 hw [] (2 : Int32) (11 : Int32) h26 n0 (by decide)) hZ (hw _ (List.mem_of_getElem? (i := 26) rfl)) (hw _ (List.mem_of_getElem? (i := 25) rfl)) (by decide) (by decide)) (g := (mkF m 20 #[.val (.ref o0), .val (.int (2 : Int32)), .val (.ref b3), .val (.int (11 : Int32))] [(.int (11 : Int32)), (.int (2 : Int32)), (.int (11 : Int32)), (.ref b3)])) rfl (by rw [hml]; rfl) (argsL := [(.int (2 : Int32)), (.int (11 : Int32))]) (rest := [(.int (11 : Int32)), (.ref b3)]) (lenOf pd_0 rfl) rfl (by show 2 * 0 + _ ≤ _; exact Nat.le_of_eq rfl) (hb hby d3_20) (fun _ _ => ⟨rfl, e26, (by decide : 1 + 0 ≤ _), (by decide : 33 + 0 ≤ _)⟩)
  dsimp only [Pt.U, Pt.locs, Pt.cells, Pt.slots] at X27 l27 y27 z27 st27 hQ27
  subst l27 y27 z27
  obtain ⟨rfl, N27q, e27⟩ := hQ27
  have N27 := Fr.app N26 N27q
  obtain ⟨Lh27, X27, N27⟩ := hide X27 N27 (C := 1) (S := 33) (by decide) (by decide)
  refine Outs.of st27 ?_
  show Outs p e below s _ _ _ (T27.setTop (mkF m 23 #[.val (.ref o0), .val (.int (2 : Int32)), .val (.ref b3), .val (.int (11 : Int32))] [(.long (F_f5 (2 : Int32) (11 : Int32))), (.int (11 : Int32)), (.ref b3)]))
  refine Outs.of (U' := T27.setTop (mkF m 25 #[.val (.ref o0), .val (.int (2 : Int32)), .val (.ref b3), .val (.int (11 : Int32))] [(.long ((F_f5 (2 : Int32) (11 : Int32)) + (1 : Int64))), (.int (11 : Int32)), (.ref b3)])) (fun t k => ?_) ?_
  · refine XS.lconst X27.here hx rfl (hb hby d3_23) ?_
    refine XS.ladd X27.here hx rfl (hb hby d3_24) rfl ?_
    exact k
  obtain ⟨T28, h28, X28, e28, W28, V28, st28⟩ := puJ X27 hx hZ e27 V26 (j := (11 : Int32)) (x := ((F_f5 (2 : Int32) (11 : Int32)) + (1 : Int64))) (k := 11) rfl (by decide) (f := (mkF m 25 #[.val (.ref o0), .val (.int (2 : Int32)), .val (.ref b3), .val (.int (11 : Int32))] [(.long ((F_f5 (2 : Int32) (11 : Int32)) + (1 : Int64))), (.int (11 : Int32)), (.ref b3)])) rfl rfl (hb hby d3_25)
  replace V28 : AJ Z h28 b3 .long 33 ct2_g25k := V28
  have N28 := Fr.snoc X28 N27 g_b3
  obtain ⟨Lh28, X28, N28⟩ := hide X28 N28 (C := 1) (S := 33) (by decide) (by decide)
  refine Outs.of st28 ?_
  show Outs p e below s _ _ _ (T28.setTop (mkF m 26 #[.val (.ref o0), .val (.int (2 : Int32)), .val (.ref b3), .val (.int (11 : Int32))] []))
  refine Outs.of (U' := T28.setTop (mkF m 33 #[.val (.ref o0), .val (.int (2 : Int32)), .val (.ref b3), .val (.int (12 : Int32))] [(.int (11 : Int32)), (.ref b3)])) (fun t k => ?_) ?_
  · refine XS.iinc X28.here hx rfl (hb hby d3_26) rfl (l' := #[.val (.ref o0), .val (.int (2 : Int32)), .val (.ref b3), .val (.int (12 : Int32))]) rfl ?_
    refine XS.aloadN X28.here hx rfl (hb hby d3_29) rfl rfl ?_
    refine XS.iloadN X28.here hx rfl (hb hby d3_30) rfl ?_
    refine XS.iconst X28.here hx rfl (hb hby d3_31) ?_
    refine XS.isub X28.here hx rfl (hb hby d3_32) rfl ?_
    exact k
  refine Outs.of (ldJ X28 hx hZ e28 V28 (j := (11 : Int32)) (k := 11) rfl (by decide) (f := (mkF m 33 #[.val (.ref o0), .val (.int (2 : Int32)), .val (.ref b3), .val (.int (12 : Int32))] [(.int (11 : Int32)), (.ref b3)])) rfl rfl (hb hby d3_33)) ?_
  show Outs p e below s _ _ _ (T28.setTop (mkF m 34 #[.val (.ref o0), .val (.int (2 : Int32)), .val (.ref b3), .val (.int (12 : Int32))] [(.long (ct2_g25k 11))]))
  refine Outs.of (U' := T28.setTop (mkF m 20 #[.val (.ref o0), .val (.int (2 : Int32)), .val (.ref b3), .val (.int (12 : Int32))] [(.int (12 : Int32)), (.int (2 : Int32)), (.int (12 : Int32)), (.ref b3)])) (fun t k => ?_) ?_
  · refine X28.ldc2Long hx hown (mvT hZ (hw _ (List.mem_of_getElem? (i := 27) rfl))) (g := (mkF m 34 #[.val (.ref o0), .val (.int (2 : Int32)), .val (.ref b3), .val (.int (12 : Int32))] [(.long (ct2_g25k 11))])) rfl (hb hby d3_34) _ ?_
    refine XS.lcmp X28.here hx rfl (hb hby d3_37) rfl ?_
    refine XS.ifYes X28.here hx rfl (pc0 := 38) (pc' := 16) rfl (hb hby d3_38) rfl ((if0 _ _).trans (flt (fun q_ => (show ¬ ((2147483647 : Int64) < (ct2_g25k 11)) from (by decide +kernel)) ((lw_gt _ _).mp q_))).2.2.2) (by decide) (by decide) ?_
    refine XS.aloadN X28.here hx rfl (hb hby d3_16) rfl rfl ?_
    refine XS.iloadN X28.here hx rfl (hb hby d3_17) rfl ?_
    refine XS.iloadN X28.here hx rfl (hb hby d3_18) rfl ?_
    refine XS.iloadN X28.here hx rfl (hb hby d3_19) rfl ?_
    exact k
  obtain ⟨_, _, ⟨T29, L29, k29, n29⟩, -, X29, ⟨Lc29, hQ29, l29, y29, z29⟩, st29⟩ := Jvm.LawKit.callS X28 hx (y := (⟨"com/example/bitmend/bitmend/CodeParameters", "columns", "(II)J"⟩ : MethodName)) hown (mvT hZ (hw _ (List.mem_of_getElem? (i := 23) rfl))) (mvT hZ (hw _ (List.mem_of_getElem? (i := 24) rfl))) (mvT hZ (hw _ (List.mem_of_getElem? (i := 25) rfl))) (mvT hZ (hw _ (List.mem_of_getElem? (i := 26) rfl))) (by decide) (backOf (W := 2) (rm5 l Z a0 hw [] (2 : Int32) (12 : Int32) h28 n0 (by decide)) hZ (hw _ (List.mem_of_getElem? (i := 26) rfl)) (hw _ (List.mem_of_getElem? (i := 25) rfl)) (by decide) (by decide)) (g := (mkF m 20 #[.val (.ref o0), .val (.int (2 : Int32)), .val (.ref b3), .val (.int (12 : Int32))] [(.int (12 : Int32)), (.int (2 : Int32)), (.int (12 : Int32)), (.ref b3)])) rfl (by rw [hml]; rfl) (argsL := [(.int (2 : Int32)), (.int (12 : Int32))]) (rest := [(.int (12 : Int32)), (.ref b3)]) (lenOf pd_0 rfl) rfl (by show 2 * 0 + _ ≤ _; exact Nat.le_of_eq rfl) (hb hby d3_20) (fun _ _ => ⟨rfl, e28, (by decide : 1 + 0 ≤ _), (by decide : 33 + 0 ≤ _)⟩)
  dsimp only [Pt.U, Pt.locs, Pt.cells, Pt.slots] at X29 l29 y29 z29 st29 hQ29
  subst l29 y29 z29
  obtain ⟨rfl, N29q, e29⟩ := hQ29
  have N29 := Fr.app N28 N29q
  obtain ⟨Lh29, X29, N29⟩ := hide X29 N29 (C := 1) (S := 33) (by decide) (by decide)
  refine Outs.of st29 ?_
  show Outs p e below s _ _ _ (T29.setTop (mkF m 23 #[.val (.ref o0), .val (.int (2 : Int32)), .val (.ref b3), .val (.int (12 : Int32))] [(.long (F_f5 (2 : Int32) (12 : Int32))), (.int (12 : Int32)), (.ref b3)]))
  refine Outs.of (U' := T29.setTop (mkF m 25 #[.val (.ref o0), .val (.int (2 : Int32)), .val (.ref b3), .val (.int (12 : Int32))] [(.long ((F_f5 (2 : Int32) (12 : Int32)) + (1 : Int64))), (.int (12 : Int32)), (.ref b3)])) (fun t k => ?_) ?_
  · refine XS.lconst X29.here hx rfl (hb hby d3_23) ?_
    refine XS.ladd X29.here hx rfl (hb hby d3_24) rfl ?_
    exact k
  obtain ⟨T30, h30, X30, e30, W30, V30, st30⟩ := puJ X29 hx hZ e29 V28 (j := (12 : Int32)) (x := ((F_f5 (2 : Int32) (12 : Int32)) + (1 : Int64))) (k := 12) rfl (by decide) (f := (mkF m 25 #[.val (.ref o0), .val (.int (2 : Int32)), .val (.ref b3), .val (.int (12 : Int32))] [(.long ((F_f5 (2 : Int32) (12 : Int32)) + (1 : Int64))), (.int (12 : Int32)), (.ref b3)])) rfl rfl (hb hby d3_25)
  replace V30 : AJ Z h30 b3 .long 33 ct2_g25l := V30
  have N30 := Fr.snoc X30 N29 g_b3
  obtain ⟨Lh30, X30, N30⟩ := hide X30 N30 (C := 1) (S := 33) (by decide) (by decide)
  refine Outs.of st30 ?_
  show Outs p e below s _ _ _ (T30.setTop (mkF m 26 #[.val (.ref o0), .val (.int (2 : Int32)), .val (.ref b3), .val (.int (12 : Int32))] []))
  refine Outs.of (U' := T30.setTop (mkF m 33 #[.val (.ref o0), .val (.int (2 : Int32)), .val (.ref b3), .val (.int (13 : Int32))] [(.int (12 : Int32)), (.ref b3)])) (fun t k => ?_) ?_
  · refine XS.iinc X30.here hx rfl (hb hby d3_26) rfl (l' := #[.val (.ref o0), .val (.int (2 : Int32)), .val (.ref b3), .val (.int (13 : Int32))]) rfl ?_
    refine XS.aloadN X30.here hx rfl (hb hby d3_29) rfl rfl ?_
    refine XS.iloadN X30.here hx rfl (hb hby d3_30) rfl ?_
    refine XS.iconst X30.here hx rfl (hb hby d3_31) ?_
    refine XS.isub X30.here hx rfl (hb hby d3_32) rfl ?_
    exact k
  refine Outs.of (ldJ X30 hx hZ e30 V30 (j := (12 : Int32)) (k := 12) rfl (by decide) (f := (mkF m 33 #[.val (.ref o0), .val (.int (2 : Int32)), .val (.ref b3), .val (.int (13 : Int32))] [(.int (12 : Int32)), (.ref b3)])) rfl rfl (hb hby d3_33)) ?_
  show Outs p e below s _ _ _ (T30.setTop (mkF m 34 #[.val (.ref o0), .val (.int (2 : Int32)), .val (.ref b3), .val (.int (13 : Int32))] [(.long (ct2_g25l 12))]))
  refine Outs.of (U' := T30.setTop (mkF m 20 #[.val (.ref o0), .val (.int (2 : Int32)), .val (.ref b3), .val (.int (13 : Int32))] [(.int (13 : Int32)), (.int (2 : Int32)), (.int (13 : Int32)), (.ref b3)])) (fun t k => ?_) ?_
  · refine X30.ldc2Long hx hown (mvT hZ (hw _ (List.mem_of_getElem? (i := 27) rfl))) (g := (mkF m 34 #[.val (.ref o0), .val (.int (2 : Int32)), .val (.ref b3), .val (.int (13 : Int32))] [(.long (ct2_g25l 12))])) rfl (hb hby d3_34) _ ?_
    refine XS.lcmp X30.here hx rfl (hb hby d3_37) rfl ?_
    refine XS.ifYes X30.here hx rfl (pc0 := 38) (pc' := 16) rfl (hb hby d3_38) rfl ((if0 _ _).trans (flt (fun q_ => (show ¬ ((2147483647 : Int64) < (ct2_g25l 12)) from (by decide +kernel)) ((lw_gt _ _).mp q_))).2.2.2) (by decide) (by decide) ?_
    refine XS.aloadN X30.here hx rfl (hb hby d3_16) rfl rfl ?_
    refine XS.iloadN X30.here hx rfl (hb hby d3_17) rfl ?_
    refine XS.iloadN X30.here hx rfl (hb hby d3_18) rfl ?_
    refine XS.iloadN X30.here hx rfl (hb hby d3_19) rfl ?_
    exact k
  obtain ⟨_, _, ⟨T31, L31, k31, n31⟩, -, X31, ⟨Lc31, hQ31, l31, y31, z31⟩, st31⟩ := Jvm.LawKit.callS X30 hx (y := (⟨"com/example/bitmend/bitmend/CodeParameters", "columns", "(II)J"⟩ : MethodName)) hown (mvT hZ (hw _ (List.mem_of_getElem? (i := 23) rfl))) (mvT hZ (hw _ (List.mem_of_getElem? (i := 24) rfl))) (mvT hZ (hw _ (List.mem_of_getElem? (i := 25) rfl))) (mvT hZ (hw _ (List.mem_of_getElem? (i := 26) rfl))) (by decide) (backOf (W := 2) (rm5 l Z a0 hw [] (2 : Int32) (13 : Int32) h30 n0 (by decide)) hZ (hw _ (List.mem_of_getElem? (i := 26) rfl)) (hw _ (List.mem_of_getElem? (i := 25) rfl)) (by decide) (by decide)) (g := (mkF m 20 #[.val (.ref o0), .val (.int (2 : Int32)), .val (.ref b3), .val (.int (13 : Int32))] [(.int (13 : Int32)), (.int (2 : Int32)), (.int (13 : Int32)), (.ref b3)])) rfl (by rw [hml]; rfl) (argsL := [(.int (2 : Int32)), (.int (13 : Int32))]) (rest := [(.int (13 : Int32)), (.ref b3)]) (lenOf pd_0 rfl) rfl (by show 2 * 0 + _ ≤ _; exact Nat.le_of_eq rfl) (hb hby d3_20) (fun _ _ => ⟨rfl, e30, (by decide : 1 + 0 ≤ _), (by decide : 33 + 0 ≤ _)⟩)
  dsimp only [Pt.U, Pt.locs, Pt.cells, Pt.slots] at X31 l31 y31 z31 st31 hQ31
  subst l31 y31 z31
  obtain ⟨rfl, N31q, e31⟩ := hQ31
  have N31 := Fr.app N30 N31q
  obtain ⟨Lh31, X31, N31⟩ := hide X31 N31 (C := 1) (S := 33) (by decide) (by decide)
  refine Outs.of st31 ?_
  show Outs p e below s _ _ _ (T31.setTop (mkF m 23 #[.val (.ref o0), .val (.int (2 : Int32)), .val (.ref b3), .val (.int (13 : Int32))] [(.long (F_f5 (2 : Int32) (13 : Int32))), (.int (13 : Int32)), (.ref b3)]))
  refine Outs.of (U' := T31.setTop (mkF m 25 #[.val (.ref o0), .val (.int (2 : Int32)), .val (.ref b3), .val (.int (13 : Int32))] [(.long ((F_f5 (2 : Int32) (13 : Int32)) + (1 : Int64))), (.int (13 : Int32)), (.ref b3)])) (fun t k => ?_) ?_
  · refine XS.lconst X31.here hx rfl (hb hby d3_23) ?_
    refine XS.ladd X31.here hx rfl (hb hby d3_24) rfl ?_
    exact k
  obtain ⟨T32, h32, X32, e32, W32, V32, st32⟩ := puJ X31 hx hZ e31 V30 (j := (13 : Int32)) (x := ((F_f5 (2 : Int32) (13 : Int32)) + (1 : Int64))) (k := 13) rfl (by decide) (f := (mkF m 25 #[.val (.ref o0), .val (.int (2 : Int32)), .val (.ref b3), .val (.int (13 : Int32))] [(.long ((F_f5 (2 : Int32) (13 : Int32)) + (1 : Int64))), (.int (13 : Int32)), (.ref b3)])) rfl rfl (hb hby d3_25)
  replace V32 : AJ Z h32 b3 .long 33 ct2_g25m := V32
  have N32 := Fr.snoc X32 N31 g_b3
  obtain ⟨Lh32, X32, N32⟩ := hide X32 N32 (C := 1) (S := 33) (by decide) (by decide)
  refine Outs.of st32 ?_
  show Outs p e below s _ _ _ (T32.setTop (mkF m 26 #[.val (.ref o0), .val (.int (2 : Int32)), .val (.ref b3), .val (.int (13 : Int32))] []))
  refine Outs.of (U' := T32.setTop (mkF m 33 #[.val (.ref o0), .val (.int (2 : Int32)), .val (.ref b3), .val (.int (14 : Int32))] [(.int (13 : Int32)), (.ref b3)])) (fun t k => ?_) ?_
  · refine XS.iinc X32.here hx rfl (hb hby d3_26) rfl (l' := #[.val (.ref o0), .val (.int (2 : Int32)), .val (.ref b3), .val (.int (14 : Int32))]) rfl ?_
    refine XS.aloadN X32.here hx rfl (hb hby d3_29) rfl rfl ?_
    refine XS.iloadN X32.here hx rfl (hb hby d3_30) rfl ?_
    refine XS.iconst X32.here hx rfl (hb hby d3_31) ?_
    refine XS.isub X32.here hx rfl (hb hby d3_32) rfl ?_
    exact k
  refine Outs.of (ldJ X32 hx hZ e32 V32 (j := (13 : Int32)) (k := 13) rfl (by decide) (f := (mkF m 33 #[.val (.ref o0), .val (.int (2 : Int32)), .val (.ref b3), .val (.int (14 : Int32))] [(.int (13 : Int32)), (.ref b3)])) rfl rfl (hb hby d3_33)) ?_
  show Outs p e below s _ _ _ (T32.setTop (mkF m 34 #[.val (.ref o0), .val (.int (2 : Int32)), .val (.ref b3), .val (.int (14 : Int32))] [(.long (ct2_g25m 13))]))
  refine Outs.of (U' := T32.setTop (mkF m 20 #[.val (.ref o0), .val (.int (2 : Int32)), .val (.ref b3), .val (.int (14 : Int32))] [(.int (14 : Int32)), (.int (2 : Int32)), (.int (14 : Int32)), (.ref b3)])) (fun t k => ?_) ?_
  · refine X32.ldc2Long hx hown (mvT hZ (hw _ (List.mem_of_getElem? (i := 27) rfl))) (g := (mkF m 34 #[.val (.ref o0), .val (.int (2 : Int32)), .val (.ref b3), .val (.int (14 : Int32))] [(.long (ct2_g25m 13))])) rfl (hb hby d3_34) _ ?_
    refine XS.lcmp X32.here hx rfl (hb hby d3_37) rfl ?_
    refine XS.ifYes X32.here hx rfl (pc0 := 38) (pc' := 16) rfl (hb hby d3_38) rfl ((if0 _ _).trans (flt (fun q_ => (show ¬ ((2147483647 : Int64) < (ct2_g25m 13)) from (by decide +kernel)) ((lw_gt _ _).mp q_))).2.2.2) (by decide) (by decide) ?_
    refine XS.aloadN X32.here hx rfl (hb hby d3_16) rfl rfl ?_
    refine XS.iloadN X32.here hx rfl (hb hby d3_17) rfl ?_
    refine XS.iloadN X32.here hx rfl (hb hby d3_18) rfl ?_
    refine XS.iloadN X32.here hx rfl (hb hby d3_19) rfl ?_
    exact k
  obtain ⟨_, _, ⟨T33, L33, k33, n33⟩, -, X33, ⟨Lc33, hQ33, l33, y33, z33⟩, st33⟩ := Jvm.LawKit.callS X32 hx (y := (⟨"com/example/bitmend/bitmend/CodeParameters", "columns", "(II)J"⟩ : MethodName)) hown (mvT hZ (hw _ (List.mem_of_getElem? (i := 23) rfl))) (mvT hZ (hw _ (List.mem_of_getElem? (i := 24) rfl))) (mvT hZ (hw _ (List.mem_of_getElem? (i := 25) rfl))) (mvT hZ (hw _ (List.mem_of_getElem? (i := 26) rfl))) (by decide) (backOf (W := 2) (rm5 l Z a0 hw [] (2 : Int32) (14 : Int32) h32 n0 (by decide)) hZ (hw _ (List.mem_of_getElem? (i := 26) rfl)) (hw _ (List.mem_of_getElem? (i := 25) rfl)) (by decide) (by decide)) (g := (mkF m 20 #[.val (.ref o0), .val (.int (2 : Int32)), .val (.ref b3), .val (.int (14 : Int32))] [(.int (14 : Int32)), (.int (2 : Int32)), (.int (14 : Int32)), (.ref b3)])) rfl (by rw [hml]; rfl) (argsL := [(.int (2 : Int32)), (.int (14 : Int32))]) (rest := [(.int (14 : Int32)), (.ref b3)]) (lenOf pd_0 rfl) rfl (by show 2 * 0 + _ ≤ _; exact Nat.le_of_eq rfl) (hb hby d3_20) (fun _ _ => ⟨rfl, e32, (by decide : 1 + 0 ≤ _), (by decide : 33 + 0 ≤ _)⟩)
  dsimp only [Pt.U, Pt.locs, Pt.cells, Pt.slots] at X33 l33 y33 z33 st33 hQ33
  subst l33 y33 z33
  obtain ⟨rfl, N33q, e33⟩ := hQ33
  have N33 := Fr.app N32 N33q
  obtain ⟨Lh33, X33, N33⟩ := hide X33 N33 (C := 1) (S := 33) (by decide) (by decide)
  refine Outs.of st33 ?_
  show Outs p e below s _ _ _ (T33.setTop (mkF m 23 #[.val (.ref o0), .val (.int (2 : Int32)), .val (.ref b3), .val (.int (14 : Int32))] [(.long (F_f5 (2 : Int32) (14 : Int32))), (.int (14 : Int32)), (.ref b3)]))
  refine Outs.of (U' := T33.setTop (mkF m 25 #[.val (.ref o0), .val (.int (2 : Int32)), .val (.ref b3), .val (.int (14 : Int32))] [(.long ((F_f5 (2 : Int32) (14 : Int32)) + (1 : Int64))), (.int (14 : Int32)), (.ref b3)])) (fun t k => ?_) ?_
  · refine XS.lconst X33.here hx rfl (hb hby d3_23) ?_
    refine XS.ladd X33.here hx rfl (hb hby d3_24) rfl ?_
    exact k
  obtain ⟨T34, h34, X34, e34, W34, V34, st34⟩ := puJ X33 hx hZ e33 V32 (j := (14 : Int32)) (x := ((F_f5 (2 : Int32) (14 : Int32)) + (1 : Int64))) (k := 14) rfl (by decide) (f := (mkF m 25 #[.val (.ref o0), .val (.int (2 : Int32)), .val (.ref b3), .val (.int (14 : Int32))] [(.long ((F_f5 (2 : Int32) (14 : Int32)) + (1 : Int64))), (.int (14 : Int32)), (.ref b3)])) rfl rfl (hb hby d3_25)
  replace V34 : AJ Z h34 b3 .long 33 ct2_g25n := V34
  have N34 := Fr.snoc X34 N33 g_b3
  obtain ⟨Lh34, X34, N34⟩ := hide X34 N34 (C := 1) (S := 33) (by decide) (by decide)
  refine Outs.of st34 ?_
  show Outs p e below s _ _ _ (T34.setTop (mkF m 26 #[.val (.ref o0), .val (.int (2 : Int32)), .val (.ref b3), .val (.int (14 : Int32))] []))
  refine Outs.of (U' := T34.setTop (mkF m 33 #[.val (.ref o0), .val (.int (2 : Int32)), .val (.ref b3), .val (.int (15 : Int32))] [(.int (14 : Int32)), (.ref b3)])) (fun t k => ?_) ?_
  · refine XS.iinc X34.here hx rfl (hb hby d3_26) rfl (l' := #[.val (.ref o0), .val (.int (2 : Int32)), .val (.ref b3), .val (.int (15 : Int32))]) rfl ?_
    refine XS.aloadN X34.here hx rfl (hb hby d3_29) rfl rfl ?_
    refine XS.iloadN X34.here hx rfl (hb hby d3_30) rfl ?_
    refine XS.iconst X34.here hx rfl (hb hby d3_31) ?_
    refine XS.isub X34.here hx rfl (hb hby d3_32) rfl ?_
    exact k
  refine Outs.of (ldJ X34 hx hZ e34 V34 (j := (14 : Int32)) (k := 14) rfl (by decide) (f := (mkF m 33 #[.val (.ref o0), .val (.int (2 : Int32)), .val (.ref b3), .val (.int (15 : Int32))] [(.int (14 : Int32)), (.ref b3)])) rfl rfl (hb hby d3_33)) ?_
  show Outs p e below s _ _ _ (T34.setTop (mkF m 34 #[.val (.ref o0), .val (.int (2 : Int32)), .val (.ref b3), .val (.int (15 : Int32))] [(.long (ct2_g25n 14))]))
  refine Outs.of (U' := T34.setTop (mkF m 20 #[.val (.ref o0), .val (.int (2 : Int32)), .val (.ref b3), .val (.int (15 : Int32))] [(.int (15 : Int32)), (.int (2 : Int32)), (.int (15 : Int32)), (.ref b3)])) (fun t k => ?_) ?_
  · refine X34.ldc2Long hx hown (mvT hZ (hw _ (List.mem_of_getElem? (i := 27) rfl))) (g := (mkF m 34 #[.val (.ref o0), .val (.int (2 : Int32)), .val (.ref b3), .val (.int (15 : Int32))] [(.long (ct2_g25n 14))])) rfl (hb hby d3_34) _ ?_
    refine XS.lcmp X34.here hx rfl (hb hby d3_37) rfl ?_
    refine XS.ifYes X34.here hx rfl (pc0 := 38) (pc' := 16) rfl (hb hby d3_38) rfl ((if0 _ _).trans (flt (fun q_ => (show ¬ ((2147483647 : Int64) < (ct2_g25n 14)) from (by decide +kernel)) ((lw_gt _ _).mp q_))).2.2.2) (by decide) (by decide) ?_
    refine XS.aloadN X34.here hx rfl (hb hby d3_16) rfl rfl ?_
    refine XS.iloadN X34.here hx rfl (hb hby d3_17) rfl ?_
    refine XS.iloadN X34.here hx rfl (hb hby d3_18) rfl ?_
    refine XS.iloadN X34.here hx rfl (hb hby d3_19) rfl ?_
    exact k
  obtain ⟨_, _, ⟨T35, L35, k35, n35⟩, -, X35, ⟨Lc35, hQ35, l35, y35, z35⟩, st35⟩ := Jvm.LawKit.callS X34 hx (y := (⟨"com/example/bitmend/bitmend/CodeParameters", "columns", "(II)J"⟩ : MethodName)) hown (mvT hZ (hw _ (List.mem_of_getElem? (i := 23) rfl))) (mvT hZ (hw _ (List.mem_of_getElem? (i := 24) rfl))) (mvT hZ (hw _ (List.mem_of_getElem? (i := 25) rfl))) (mvT hZ (hw _ (List.mem_of_getElem? (i := 26) rfl))) (by decide) (backOf (W := 2) (rm5 l Z a0 hw [] (2 : Int32) (15 : Int32) h34 n0 (by decide)) hZ (hw _ (List.mem_of_getElem? (i := 26) rfl)) (hw _ (List.mem_of_getElem? (i := 25) rfl)) (by decide) (by decide)) (g := (mkF m 20 #[.val (.ref o0), .val (.int (2 : Int32)), .val (.ref b3), .val (.int (15 : Int32))] [(.int (15 : Int32)), (.int (2 : Int32)), (.int (15 : Int32)), (.ref b3)])) rfl (by rw [hml]; rfl) (argsL := [(.int (2 : Int32)), (.int (15 : Int32))]) (rest := [(.int (15 : Int32)), (.ref b3)]) (lenOf pd_0 rfl) rfl (by show 2 * 0 + _ ≤ _; exact Nat.le_of_eq rfl) (hb hby d3_20) (fun _ _ => ⟨rfl, e34, (by decide : 1 + 0 ≤ _), (by decide : 33 + 0 ≤ _)⟩)
  dsimp only [Pt.U, Pt.locs, Pt.cells, Pt.slots] at X35 l35 y35 z35 st35 hQ35
  subst l35 y35 z35
  obtain ⟨rfl, N35q, e35⟩ := hQ35
  have N35 := Fr.app N34 N35q
  obtain ⟨Lh35, X35, N35⟩ := hide X35 N35 (C := 1) (S := 33) (by decide) (by decide)
  refine Outs.of st35 ?_
  show Outs p e below s _ _ _ (T35.setTop (mkF m 23 #[.val (.ref o0), .val (.int (2 : Int32)), .val (.ref b3), .val (.int (15 : Int32))] [(.long (F_f5 (2 : Int32) (15 : Int32))), (.int (15 : Int32)), (.ref b3)]))
  refine Outs.of (U' := T35.setTop (mkF m 25 #[.val (.ref o0), .val (.int (2 : Int32)), .val (.ref b3), .val (.int (15 : Int32))] [(.long ((F_f5 (2 : Int32) (15 : Int32)) + (1 : Int64))), (.int (15 : Int32)), (.ref b3)])) (fun t k => ?_) ?_
  · refine XS.lconst X35.here hx rfl (hb hby d3_23) ?_
    refine XS.ladd X35.here hx rfl (hb hby d3_24) rfl ?_
    exact k
  obtain ⟨T36, h36, X36, e36, W36, V36, st36⟩ := puJ X35 hx hZ e35 V34 (j := (15 : Int32)) (x := ((F_f5 (2 : Int32) (15 : Int32)) + (1 : Int64))) (k := 15) rfl (by decide) (f := (mkF m 25 #[.val (.ref o0), .val (.int (2 : Int32)), .val (.ref b3), .val (.int (15 : Int32))] [(.long ((F_f5 (2 : Int32) (15 : Int32)) + (1 : Int64))), (.int (15 : Int32)), (.ref b3)])) rfl rfl (hb hby d3_25)
  replace V36 : AJ Z h36 b3 .long 33 ct2_g25o := V36
  have N36 := Fr.snoc X36 N35 g_b3
  obtain ⟨Lh36, X36, N36⟩ := hide X36 N36 (C := 1) (S := 33) (by decide) (by decide)
  refine Outs.of st36 ?_
  show Outs p e below s _ _ _ (T36.setTop (mkF m 26 #[.val (.ref o0), .val (.int (2 : Int32)), .val (.ref b3), .val (.int (15 : Int32))] []))
  refine Outs.of (U' := T36.setTop (mkF m 33 #[.val (.ref o0), .val (.int (2 : Int32)), .val (.ref b3), .val (.int (16 : Int32))] [(.int (15 : Int32)), (.ref b3)])) (fun t k => ?_) ?_
  · refine XS.iinc X36.here hx rfl (hb hby d3_26) rfl (l' := #[.val (.ref o0), .val (.int (2 : Int32)), .val (.ref b3), .val (.int (16 : Int32))]) rfl ?_
    refine XS.aloadN X36.here hx rfl (hb hby d3_29) rfl rfl ?_
    refine XS.iloadN X36.here hx rfl (hb hby d3_30) rfl ?_
    refine XS.iconst X36.here hx rfl (hb hby d3_31) ?_
    refine XS.isub X36.here hx rfl (hb hby d3_32) rfl ?_
    exact k
  refine Outs.of (ldJ X36 hx hZ e36 V36 (j := (15 : Int32)) (k := 15) rfl (by decide) (f := (mkF m 33 #[.val (.ref o0), .val (.int (2 : Int32)), .val (.ref b3), .val (.int (16 : Int32))] [(.int (15 : Int32)), (.ref b3)])) rfl rfl (hb hby d3_33)) ?_
  show Outs p e below s _ _ _ (T36.setTop (mkF m 34 #[.val (.ref o0), .val (.int (2 : Int32)), .val (.ref b3), .val (.int (16 : Int32))] [(.long (ct2_g25o 15))]))
  refine Outs.of (U' := T36.setTop (mkF m 20 #[.val (.ref o0), .val (.int (2 : Int32)), .val (.ref b3), .val (.int (16 : Int32))] [(.int (16 : Int32)), (.int (2 : Int32)), (.int (16 : Int32)), (.ref b3)])) (fun t k => ?_) ?_
  · refine X36.ldc2Long hx hown (mvT hZ (hw _ (List.mem_of_getElem? (i := 27) rfl))) (g := (mkF m 34 #[.val (.ref o0), .val (.int (2 : Int32)), .val (.ref b3), .val (.int (16 : Int32))] [(.long (ct2_g25o 15))])) rfl (hb hby d3_34) _ ?_
    refine XS.lcmp X36.here hx rfl (hb hby d3_37) rfl ?_
    refine XS.ifYes X36.here hx rfl (pc0 := 38) (pc' := 16) rfl (hb hby d3_38) rfl ((if0 _ _).trans (flt (fun q_ => (show ¬ ((2147483647 : Int64) < (ct2_g25o 15)) from (by decide +kernel)) ((lw_gt _ _).mp q_))).2.2.2) (by decide) (by decide) ?_
    refine XS.aloadN X36.here hx rfl (hb hby d3_16) rfl rfl ?_
    refine XS.iloadN X36.here hx rfl (hb hby d3_17) rfl ?_
    refine XS.iloadN X36.here hx rfl (hb hby d3_18) rfl ?_
    refine XS.iloadN X36.here hx rfl (hb hby d3_19) rfl ?_
    exact k
  obtain ⟨_, _, ⟨T37, L37, k37, n37⟩, -, X37, ⟨Lc37, hQ37, l37, y37, z37⟩, st37⟩ := Jvm.LawKit.callS X36 hx (y := (⟨"com/example/bitmend/bitmend/CodeParameters", "columns", "(II)J"⟩ : MethodName)) hown (mvT hZ (hw _ (List.mem_of_getElem? (i := 23) rfl))) (mvT hZ (hw _ (List.mem_of_getElem? (i := 24) rfl))) (mvT hZ (hw _ (List.mem_of_getElem? (i := 25) rfl))) (mvT hZ (hw _ (List.mem_of_getElem? (i := 26) rfl))) (by decide) (backOf (W := 2) (rm5 l Z a0 hw [] (2 : Int32) (16 : Int32) h36 n0 (by decide)) hZ (hw _ (List.mem_of_getElem? (i := 26) rfl)) (hw _ (List.mem_of_getElem? (i := 25) rfl)) (by decide) (by decide)) (g := (mkF m 20 #[.val (.ref o0), .val (.int (2 : Int32)), .val (.ref b3), .val (.int (16 : Int32))] [(.int (16 : Int32)), (.int (2 : Int32)), (.int (16 : Int32)), (.ref b3)])) rfl (by rw [hml]; rfl) (argsL := [(.int (2 : Int32)), (.int (16 : Int32))]) (rest := [(.int (16 : Int32)), (.ref b3)]) (lenOf pd_0 rfl) rfl (by show 2 * 0 + _ ≤ _; exact Nat.le_of_eq rfl) (hb hby d3_20) (fun _ _ => ⟨rfl, e36, (by decide : 1 + 0 ≤ _), (by decide : 33 + 0 ≤ _)⟩)
  dsimp only [Pt.U, Pt.locs, Pt.cells, Pt.slots] at X37 l37 y37 z37 st37 hQ37
  subst l37 y37 z37
  obtain ⟨rfl, N37q, e37⟩ := hQ37
  have N37 := Fr.app N36 N37q
  obtain ⟨Lh37, X37, N37⟩ := hide X37 N37 (C := 1) (S := 33) (by decide) (by decide)
  refine Outs.of st37 ?_
  show Outs p e below s _ _ _ (T37.setTop (mkF m 23 #[.val (.ref o0), .val (.int (2 : Int32)), .val (.ref b3), .val (.int (16 : Int32))] [(.long (F_f5 (2 : Int32) (16 : Int32))), (.int (16 : Int32)), (.ref b3)]))
  refine Outs.of (U' := T37.setTop (mkF m 25 #[.val (.ref o0), .val (.int (2 : Int32)), .val (.ref b3), .val (.int (16 : Int32))] [(.long ((F_f5 (2 : Int32) (16 : Int32)) + (1 : Int64))), (.int (16 : Int32)), (.ref b3)])) (fun t k => ?_) ?_
  · refine XS.lconst X37.here hx rfl (hb hby d3_23) ?_
    refine XS.ladd X37.here hx rfl (hb hby d3_24) rfl ?_
    exact k
  obtain ⟨T38, h38, X38, e38, W38, V38, st38⟩ := puJ X37 hx hZ e37 V36 (j := (16 : Int32)) (x := ((F_f5 (2 : Int32) (16 : Int32)) + (1 : Int64))) (k := 16) rfl (by decide) (f := (mkF m 25 #[.val (.ref o0), .val (.int (2 : Int32)), .val (.ref b3), .val (.int (16 : Int32))] [(.long ((F_f5 (2 : Int32) (16 : Int32)) + (1 : Int64))), (.int (16 : Int32)), (.ref b3)])) rfl rfl (hb hby d3_25)
  replace V38 : AJ Z h38 b3 .long 33 ct2_g25p := V38
  have N38 := Fr.snoc X38 N37 g_b3
  obtain ⟨Lh38, X38, N38⟩ := hide X38 N38 (C := 1) (S := 33) (by decide) (by decide)
  refine Outs.of st38 ?_
  show Outs p e below s _ _ _ (T38.setTop (mkF m 26 #[.val (.ref o0), .val (.int (2 : Int32)), .val (.ref b3), .val (.int (16 : Int32))] []))
  refine Outs.of (U' := T38.setTop (mkF m 33 #[.val (.ref o0), .val (.int (2 : Int32)), .val (.ref b3), .val (.int (17 : Int32))] [(.int (16 : Int32)), (.ref b3)])) (fun t k => ?_) ?_
  · refine XS.iinc X38.here hx rfl (hb hby d3_26) rfl (l' := #[.val (.ref o0), .val (.int (2 : Int32)), .val (.ref b3), .val (.int (17 : Int32))]) rfl ?_
    refine XS.aloadN X38.here hx rfl (hb hby d3_29) rfl rfl ?_
    refine XS.iloadN X38.here hx rfl (hb hby d3_30) rfl ?_
    refine XS.iconst X38.here hx rfl (hb hby d3_31) ?_
    refine XS.isub X38.here hx rfl (hb hby d3_32) rfl ?_
    exact k
  refine Outs.of (ldJ X38 hx hZ e38 V38 (j := (16 : Int32)) (k := 16) rfl (by decide) (f := (mkF m 33 #[.val (.ref o0), .val (.int (2 : Int32)), .val (.ref b3), .val (.int (17 : Int32))] [(.int (16 : Int32)), (.ref b3)])) rfl rfl (hb hby d3_33)) ?_
  show Outs p e below s _ _ _ (T38.setTop (mkF m 34 #[.val (.ref o0), .val (.int (2 : Int32)), .val (.ref b3), .val (.int (17 : Int32))] [(.long (ct2_g25p 16))]))
  refine Outs.of (U' := T38.setTop (mkF m 20 #[.val (.ref o0), .val (.int (2 : Int32)), .val (.ref b3), .val (.int (17 : Int32))] [(.int (17 : Int32)), (.int (2 : Int32)), (.int (17 : Int32)), (.ref b3)])) (fun t k => ?_) ?_
  · refine X38.ldc2Long hx hown (mvT hZ (hw _ (List.mem_of_getElem? (i := 27) rfl))) (g := (mkF m 34 #[.val (.ref o0), .val (.int (2 : Int32)), .val (.ref b3), .val (.int (17 : Int32))] [(.long (ct2_g25p 16))])) rfl (hb hby d3_34) _ ?_
    refine XS.lcmp X38.here hx rfl (hb hby d3_37) rfl ?_
    refine XS.ifYes X38.here hx rfl (pc0 := 38) (pc' := 16) rfl (hb hby d3_38) rfl ((if0 _ _).trans (flt (fun q_ => (show ¬ ((2147483647 : Int64) < (ct2_g25p 16)) from (by decide +kernel)) ((lw_gt _ _).mp q_))).2.2.2) (by decide) (by decide) ?_
    refine XS.aloadN X38.here hx rfl (hb hby d3_16) rfl rfl ?_
    refine XS.iloadN X38.here hx rfl (hb hby d3_17) rfl ?_
    refine XS.iloadN X38.here hx rfl (hb hby d3_18) rfl ?_
    refine XS.iloadN X38.here hx rfl (hb hby d3_19) rfl ?_
    exact k
  obtain ⟨_, _, ⟨T39, L39, k39, n39⟩, -, X39, ⟨Lc39, hQ39, l39, y39, z39⟩, st39⟩ := Jvm.LawKit.callS X38 hx (y := (⟨"com/example/bitmend/bitmend/CodeParameters", "columns", "(II)J"⟩ : MethodName)) hown (mvT hZ (hw _ (List.mem_of_getElem? (i := 23) rfl))) (mvT hZ (hw _ (List.mem_of_getElem? (i := 24) rfl))) (mvT hZ (hw _ (List.mem_of_getElem? (i := 25) rfl))) (mvT hZ (hw _ (List.mem_of_getElem? (i := 26) rfl))) (by decide) (backOf (W := 2) (rm5 l Z a0 hw [] (2 : Int32) (17 : Int32) h38 n0 (by decide)) hZ (hw _ (List.mem_of_getElem? (i := 26) rfl)) (hw _ (List.mem_of_getElem? (i := 25) rfl)) (by decide) (by decide)) (g := (mkF m 20 #[.val (.ref o0), .val (.int (2 : Int32)), .val (.ref b3), .val (.int (17 : Int32))] [(.int (17 : Int32)), (.int (2 : Int32)), (.int (17 : Int32)), (.ref b3)])) rfl (by rw [hml]; rfl) (argsL := [(.int (2 : Int32)), (.int (17 : Int32))]) (rest := [(.int (17 : Int32)), (.ref b3)]) (lenOf pd_0 rfl) rfl (by show 2 * 0 + _ ≤ _; exact Nat.le_of_eq rfl) (hb hby d3_20) (fun _ _ => ⟨rfl, e38, (by decide : 1 + 0 ≤ _), (by decide : 33 + 0 ≤ _)⟩)
  dsimp only [Pt.U, Pt.locs, Pt.cells, Pt.slots] at X39 l39 y39 z39 st39 hQ39
  subst l39 y39 z39
  obtain ⟨rfl, N39q, e39⟩ := hQ39
  have N39 := Fr.app N38 N39q
  obtain ⟨Lh39, X39, N39⟩ := hide X39 N39 (C := 1) (S := 33) (by decide) (by decide)
  refine Outs.of st39 ?_
  show Outs p e below s _ _ _ (T39.setTop (mkF m 23 #[.val (.ref o0), .val (.int (2 : Int32)), .val (.ref b3), .val (.int (17 : Int32))] [(.long (F_f5 (2 : Int32) (17 : Int32))), (.int (17 : Int32)), (.ref b3)]))
  refine Outs.of (U' := T39.setTop (mkF m 25 #[.val (.ref o0), .val (.int (2 : Int32)), .val (.ref b3), .val (.int (17 : Int32))] [(.long ((F_f5 (2 : Int32) (17 : Int32)) + (1 : Int64))), (.int (17 : Int32)), (.ref b3)])) (fun t k => ?_) ?_
  · refine XS.lconst X39.here hx rfl (hb hby d3_23) ?_
    refine XS.ladd X39.here hx rfl (hb hby d3_24) rfl ?_
    exact k
  obtain ⟨T40, h40, X40, e40, W40, V40, st40⟩ := puJ X39 hx hZ e39 V38 (j := (17 : Int32)) (x := ((F_f5 (2 : Int32) (17 : Int32)) + (1 : Int64))) (k := 17) rfl (by decide) (f := (mkF m 25 #[.val (.ref o0), .val (.int (2 : Int32)), .val (.ref b3), .val (.int (17 : Int32))] [(.long ((F_f5 (2 : Int32) (17 : Int32)) + (1 : Int64))), (.int (17 : Int32)), (.ref b3)])) rfl rfl (hb hby d3_25)
  replace V40 : AJ Z h40 b3 .long 33 ct2_g25q := V40
  have N40 := Fr.snoc X40 N39 g_b3
  obtain ⟨Lh40, X40, N40⟩ := hide X40 N40 (C := 1) (S := 33) (by decide) (by decide)
  refine Outs.of st40 ?_
  show Outs p e below s _ _ _ (T40.setTop (mkF m 26 #[.val (.ref o0), .val (.int (2 : Int32)), .val (.ref b3), .val (.int (17 : Int32))] []))
  refine Outs.of (U' := T40.setTop (mkF m 33 #[.val (.ref o0), .val (.int (2 : Int32)), .val (.ref b3), .val (.int (18 : Int32))] [(.int (17 : Int32)), (.ref b3)])) (fun t k => ?_) ?_
  · refine XS.iinc X40.here hx rfl (hb hby d3_26) rfl (l' := #[.val (.ref o0), .val (.int (2 : Int32)), .val (.ref b3), .val (.int (18 : Int32))]) rfl ?_
    refine XS.aloadN X40.here hx rfl (hb hby d3_29) rfl rfl ?_
    refine XS.iloadN X40.here hx rfl (hb hby d3_30) rfl ?_
    refine XS.iconst X40.here hx rfl (hb hby d3_31) ?_
    refine XS.isub X40.here hx rfl (hb hby d3_32) rfl ?_
    exact k
  refine Outs.of (ldJ X40 hx hZ e40 V40 (j := (17 : Int32)) (k := 17) rfl (by decide) (f := (mkF m 33 #[.val (.ref o0), .val (.int (2 : Int32)), .val (.ref b3), .val (.int (18 : Int32))] [(.int (17 : Int32)), (.ref b3)])) rfl rfl (hb hby d3_33)) ?_
  show Outs p e below s _ _ _ (T40.setTop (mkF m 34 #[.val (.ref o0), .val (.int (2 : Int32)), .val (.ref b3), .val (.int (18 : Int32))] [(.long (ct2_g25q 17))]))
  refine Outs.of (U' := T40.setTop (mkF m 20 #[.val (.ref o0), .val (.int (2 : Int32)), .val (.ref b3), .val (.int (18 : Int32))] [(.int (18 : Int32)), (.int (2 : Int32)), (.int (18 : Int32)), (.ref b3)])) (fun t k => ?_) ?_
  · refine X40.ldc2Long hx hown (mvT hZ (hw _ (List.mem_of_getElem? (i := 27) rfl))) (g := (mkF m 34 #[.val (.ref o0), .val (.int (2 : Int32)), .val (.ref b3), .val (.int (18 : Int32))] [(.long (ct2_g25q 17))])) rfl (hb hby d3_34) _ ?_
    refine XS.lcmp X40.here hx rfl (hb hby d3_37) rfl ?_
    refine XS.ifYes X40.here hx rfl (pc0 := 38) (pc' := 16) rfl (hb hby d3_38) rfl ((if0 _ _).trans (flt (fun q_ => (show ¬ ((2147483647 : Int64) < (ct2_g25q 17)) from (by decide +kernel)) ((lw_gt _ _).mp q_))).2.2.2) (by decide) (by decide) ?_
    refine XS.aloadN X40.here hx rfl (hb hby d3_16) rfl rfl ?_
    refine XS.iloadN X40.here hx rfl (hb hby d3_17) rfl ?_
    refine XS.iloadN X40.here hx rfl (hb hby d3_18) rfl ?_
    refine XS.iloadN X40.here hx rfl (hb hby d3_19) rfl ?_
    exact k
  obtain ⟨_, _, ⟨T41, L41, k41, n41⟩, -, X41, ⟨Lc41, hQ41, l41, y41, z41⟩, st41⟩ := Jvm.LawKit.callS X40 hx (y := (⟨"com/example/bitmend/bitmend/CodeParameters", "columns", "(II)J"⟩ : MethodName)) hown (mvT hZ (hw _ (List.mem_of_getElem? (i := 23) rfl))) (mvT hZ (hw _ (List.mem_of_getElem? (i := 24) rfl))) (mvT hZ (hw _ (List.mem_of_getElem? (i := 25) rfl))) (mvT hZ (hw _ (List.mem_of_getElem? (i := 26) rfl))) (by decide) (backOf (W := 2) (rm5 l Z a0 hw [] (2 : Int32) (18 : Int32) h40 n0 (by decide)) hZ (hw _ (List.mem_of_getElem? (i := 26) rfl)) (hw _ (List.mem_of_getElem? (i := 25) rfl)) (by decide) (by decide)) (g := (mkF m 20 #[.val (.ref o0), .val (.int (2 : Int32)), .val (.ref b3), .val (.int (18 : Int32))] [(.int (18 : Int32)), (.int (2 : Int32)), (.int (18 : Int32)), (.ref b3)])) rfl (by rw [hml]; rfl) (argsL := [(.int (2 : Int32)), (.int (18 : Int32))]) (rest := [(.int (18 : Int32)), (.ref b3)]) (lenOf pd_0 rfl) rfl (by show 2 * 0 + _ ≤ _; exact Nat.le_of_eq rfl) (hb hby d3_20) (fun _ _ => ⟨rfl, e40, (by decide : 1 + 0 ≤ _), (by decide : 33 + 0 ≤ _)⟩)
  dsimp only [Pt.U, Pt.locs, Pt.cells, Pt.slots] at X41 l41 y41 z41 st41 hQ41
  subst l41 y41 z41
  obtain ⟨rfl, N41q, e41⟩ := hQ41
  have N41 := Fr.app N40 N41q
  obtain ⟨Lh41, X41, N41⟩ := hide X41 N41 (C := 1) (S := 33) (by decide) (by decide)
  refine Outs.of st41 ?_
  show Outs p e below s _ _ _ (T41.setTop (mkF m 23 #[.val (.ref o0), .val (.int (2 : Int32)), .val (.ref b3), .val (.int (18 : Int32))] [(.long (F_f5 (2 : Int32) (18 : Int32))), (.int (18 : Int32)), (.ref b3)]))
  refine Outs.of (U' := T41.setTop (mkF m 25 #[.val (.ref o0), .val (.int (2 : Int32)), .val (.ref b3), .val (.int (18 : Int32))] [(.long ((F_f5 (2 : Int32) (18 : Int32)) + (1 : Int64))), (.int (18 : Int32)), (.ref b3)])) (fun t k => ?_) ?_
  · refine XS.lconst X41.here hx rfl (hb hby d3_23) ?_
    refine XS.ladd X41.here hx rfl (hb hby d3_24) rfl ?_
    exact k
  obtain ⟨T42, h42, X42, e42, W42, V42, st42⟩ := puJ X41 hx hZ e41 V40 (j := (18 : Int32)) (x := ((F_f5 (2 : Int32) (18 : Int32)) + (1 : Int64))) (k := 18) rfl (by decide) (f := (mkF m 25 #[.val (.ref o0), .val (.int (2 : Int32)), .val (.ref b3), .val (.int (18 : Int32))] [(.long ((F_f5 (2 : Int32) (18 : Int32)) + (1 : Int64))), (.int (18 : Int32)), (.ref b3)])) rfl rfl (hb hby d3_25)
  replace V42 : AJ Z h42 b3 .long 33 ct2_g25r := V42
  have N42 := Fr.snoc X42 N41 g_b3
  obtain ⟨Lh42, X42, N42⟩ := hide X42 N42 (C := 1) (S := 33) (by decide) (by decide)
  refine Outs.of st42 ?_
  show Outs p e below s _ _ _ (T42.setTop (mkF m 26 #[.val (.ref o0), .val (.int (2 : Int32)), .val (.ref b3), .val (.int (18 : Int32))] []))
  refine Outs.of (U' := T42.setTop (mkF m 33 #[.val (.ref o0), .val (.int (2 : Int32)), .val (.ref b3), .val (.int (19 : Int32))] [(.int (18 : Int32)), (.ref b3)])) (fun t k => ?_) ?_
  · refine XS.iinc X42.here hx rfl (hb hby d3_26) rfl (l' := #[.val (.ref o0), .val (.int (2 : Int32)), .val (.ref b3), .val (.int (19 : Int32))]) rfl ?_
    refine XS.aloadN X42.here hx rfl (hb hby d3_29) rfl rfl ?_
    refine XS.iloadN X42.here hx rfl (hb hby d3_30) rfl ?_
    refine XS.iconst X42.here hx rfl (hb hby d3_31) ?_
    refine XS.isub X42.here hx rfl (hb hby d3_32) rfl ?_
    exact k
  refine Outs.of (ldJ X42 hx hZ e42 V42 (j := (18 : Int32)) (k := 18) rfl (by decide) (f := (mkF m 33 #[.val (.ref o0), .val (.int (2 : Int32)), .val (.ref b3), .val (.int (19 : Int32))] [(.int (18 : Int32)), (.ref b3)])) rfl rfl (hb hby d3_33)) ?_
  show Outs p e below s _ _ _ (T42.setTop (mkF m 34 #[.val (.ref o0), .val (.int (2 : Int32)), .val (.ref b3), .val (.int (19 : Int32))] [(.long (ct2_g25r 18))]))
  refine Outs.of (U' := T42.setTop (mkF m 20 #[.val (.ref o0), .val (.int (2 : Int32)), .val (.ref b3), .val (.int (19 : Int32))] [(.int (19 : Int32)), (.int (2 : Int32)), (.int (19 : Int32)), (.ref b3)])) (fun t k => ?_) ?_
  · refine X42.ldc2Long hx hown (mvT hZ (hw _ (List.mem_of_getElem? (i := 27) rfl))) (g := (mkF m 34 #[.val (.ref o0), .val (.int (2 : Int32)), .val (.ref b3), .val (.int (19 : Int32))] [(.long (ct2_g25r 18))])) rfl (hb hby d3_34) _ ?_
    refine XS.lcmp X42.here hx rfl (hb hby d3_37) rfl ?_
    refine XS.ifYes X42.here hx rfl (pc0 := 38) (pc' := 16) rfl (hb hby d3_38) rfl ((if0 _ _).trans (flt (fun q_ => (show ¬ ((2147483647 : Int64) < (ct2_g25r 18)) from (by decide +kernel)) ((lw_gt _ _).mp q_))).2.2.2) (by decide) (by decide) ?_
    refine XS.aloadN X42.here hx rfl (hb hby d3_16) rfl rfl ?_
    refine XS.iloadN X42.here hx rfl (hb hby d3_17) rfl ?_
    refine XS.iloadN X42.here hx rfl (hb hby d3_18) rfl ?_
    refine XS.iloadN X42.here hx rfl (hb hby d3_19) rfl ?_
    exact k
  obtain ⟨_, _, ⟨T43, L43, k43, n43⟩, -, X43, ⟨Lc43, hQ43, l43, y43, z43⟩, st43⟩ := Jvm.LawKit.callS X42 hx (y := (⟨"com/example/bitmend/bitmend/CodeParameters", "columns", "(II)J"⟩ : MethodName)) hown (mvT hZ (hw _ (List.mem_of_getElem? (i := 23) rfl))) (mvT hZ (hw _ (List.mem_of_getElem? (i := 24) rfl))) (mvT hZ (hw _ (List.mem_of_getElem? (i := 25) rfl))) (mvT hZ (hw _ (List.mem_of_getElem? (i := 26) rfl))) (by decide) (backOf (W := 2) (rm5 l Z a0 hw [] (2 : Int32) (19 : Int32) h42 n0 (by decide)) hZ (hw _ (List.mem_of_getElem? (i := 26) rfl)) (hw _ (List.mem_of_getElem? (i := 25) rfl)) (by decide) (by decide)) (g := (mkF m 20 #[.val (.ref o0), .val (.int (2 : Int32)), .val (.ref b3), .val (.int (19 : Int32))] [(.int (19 : Int32)), (.int (2 : Int32)), (.int (19 : Int32)), (.ref b3)])) rfl (by rw [hml]; rfl) (argsL := [(.int (2 : Int32)), (.int (19 : Int32))]) (rest := [(.int (19 : Int32)), (.ref b3)]) (lenOf pd_0 rfl) rfl (by show 2 * 0 + _ ≤ _; exact Nat.le_of_eq rfl) (hb hby d3_20) (fun _ _ => ⟨rfl, e42, (by decide : 1 + 0 ≤ _), (by decide : 33 + 0 ≤ _)⟩)
  dsimp only [Pt.U, Pt.locs, Pt.cells, Pt.slots] at X43 l43 y43 z43 st43 hQ43
  subst l43 y43 z43
  obtain ⟨rfl, N43q, e43⟩ := hQ43
  have N43 := Fr.app N42 N43q
  obtain ⟨Lh43, X43, N43⟩ := hide X43 N43 (C := 1) (S := 33) (by decide) (by decide)
  refine Outs.of st43 ?_
  show Outs p e below s _ _ _ (T43.setTop (mkF m 23 #[.val (.ref o0), .val (.int (2 : Int32)), .val (.ref b3), .val (.int (19 : Int32))] [(.long (F_f5 (2 : Int32) (19 : Int32))), (.int (19 : Int32)), (.ref b3)]))
  refine Outs.of (U' := T43.setTop (mkF m 25 #[.val (.ref o0), .val (.int (2 : Int32)), .val (.ref b3), .val (.int (19 : Int32))] [(.long ((F_f5 (2 : Int32) (19 : Int32)) + (1 : Int64))), (.int (19 : Int32)), (.ref b3)])) (fun t k => ?_) ?_
  · refine XS.lconst X43.here hx rfl (hb hby d3_23) ?_
    refine XS.ladd X43.here hx rfl (hb hby d3_24) rfl ?_
    exact k
  obtain ⟨T44, h44, X44, e44, W44, V44, st44⟩ := puJ X43 hx hZ e43 V42 (j := (19 : Int32)) (x := ((F_f5 (2 : Int32) (19 : Int32)) + (1 : Int64))) (k := 19) rfl (by decide) (f := (mkF m 25 #[.val (.ref o0), .val (.int (2 : Int32)), .val (.ref b3), .val (.int (19 : Int32))] [(.long ((F_f5 (2 : Int32) (19 : Int32)) + (1 : Int64))), (.int (19 : Int32)), (.ref b3)])) rfl rfl (hb hby d3_25)
  replace V44 : AJ Z h44 b3 .long 33 ct2_g25s := V44
  have N44 := Fr.snoc X44 N43 g_b3
  obtain ⟨Lh44, X44, N44⟩ := hide X44 N44 (C := 1) (S := 33) (by decide) (by decide)
  refine Outs.of st44 ?_
  show Outs p e below s _ _ _ (T44.setTop (mkF m 26 #[.val (.ref o0), .val (.int (2 : Int32)), .val (.ref b3), .val (.int (19 : Int32))] []))
  refine Outs.of (U' := T44.setTop (mkF m 33 #[.val (.ref o0), .val (.int (2 : Int32)), .val (.ref b3), .val (.int (20 : Int32))] [(.int (19 : Int32)), (.ref b3)])) (fun t k => ?_) ?_
  · refine XS.iinc X44.here hx rfl (hb hby d3_26) rfl (l' := #[.val (.ref o0), .val (.int (2 : Int32)), .val (.ref b3), .val (.int (20 : Int32))]) rfl ?_
    refine XS.aloadN X44.here hx rfl (hb hby d3_29) rfl rfl ?_
    refine XS.iloadN X44.here hx rfl (hb hby d3_30) rfl ?_
    refine XS.iconst X44.here hx rfl (hb hby d3_31) ?_
    refine XS.isub X44.here hx rfl (hb hby d3_32) rfl ?_
    exact k
  refine Outs.of (ldJ X44 hx hZ e44 V44 (j := (19 : Int32)) (k := 19) rfl (by decide) (f := (mkF m 33 #[.val (.ref o0), .val (.int (2 : Int32)), .val (.ref b3), .val (.int (20 : Int32))] [(.int (19 : Int32)), (.ref b3)])) rfl rfl (hb hby d3_33)) ?_
  show Outs p e below s _ _ _ (T44.setTop (mkF m 34 #[.val (.ref o0), .val (.int (2 : Int32)), .val (.ref b3), .val (.int (20 : Int32))] [(.long (ct2_g25s 19))]))
  refine Outs.of (U' := T44.setTop (mkF m 20 #[.val (.ref o0), .val (.int (2 : Int32)), .val (.ref b3), .val (.int (20 : Int32))] [(.int (20 : Int32)), (.int (2 : Int32)), (.int (20 : Int32)), (.ref b3)])) (fun t k => ?_) ?_
  · refine X44.ldc2Long hx hown (mvT hZ (hw _ (List.mem_of_getElem? (i := 27) rfl))) (g := (mkF m 34 #[.val (.ref o0), .val (.int (2 : Int32)), .val (.ref b3), .val (.int (20 : Int32))] [(.long (ct2_g25s 19))])) rfl (hb hby d3_34) _ ?_
    refine XS.lcmp X44.here hx rfl (hb hby d3_37) rfl ?_
    refine XS.ifYes X44.here hx rfl (pc0 := 38) (pc' := 16) rfl (hb hby d3_38) rfl ((if0 _ _).trans (flt (fun q_ => (show ¬ ((2147483647 : Int64) < (ct2_g25s 19)) from (by decide +kernel)) ((lw_gt _ _).mp q_))).2.2.2) (by decide) (by decide) ?_
    refine XS.aloadN X44.here hx rfl (hb hby d3_16) rfl rfl ?_
    refine XS.iloadN X44.here hx rfl (hb hby d3_17) rfl ?_
    refine XS.iloadN X44.here hx rfl (hb hby d3_18) rfl ?_
    refine XS.iloadN X44.here hx rfl (hb hby d3_19) rfl ?_
    exact k
  obtain ⟨_, _, ⟨T45, L45, k45, n45⟩, -, X45, ⟨Lc45, hQ45, l45, y45, z45⟩, st45⟩ := Jvm.LawKit.callS X44 hx (y := (⟨"com/example/bitmend/bitmend/CodeParameters", "columns", "(II)J"⟩ : MethodName)) hown (mvT hZ (hw _ (List.mem_of_getElem? (i := 23) rfl))) (mvT hZ (hw _ (List.mem_of_getElem? (i := 24) rfl))) (mvT hZ (hw _ (List.mem_of_getElem? (i := 25) rfl))) (mvT hZ (hw _ (List.mem_of_getElem? (i := 26) rfl))) (by decide) (backOf (W := 2) (rm5 l Z a0 hw [] (2 : Int32) (20 : Int32) h44 n0 (by decide)) hZ (hw _ (List.mem_of_getElem? (i := 26) rfl)) (hw _ (List.mem_of_getElem? (i := 25) rfl)) (by decide) (by decide)) (g := (mkF m 20 #[.val (.ref o0), .val (.int (2 : Int32)), .val (.ref b3), .val (.int (20 : Int32))] [(.int (20 : Int32)), (.int (2 : Int32)), (.int (20 : Int32)), (.ref b3)])) rfl (by rw [hml]; rfl) (argsL := [(.int (2 : Int32)), (.int (20 : Int32))]) (rest := [(.int (20 : Int32)), (.ref b3)]) (lenOf pd_0 rfl) rfl (by show 2 * 0 + _ ≤ _; exact Nat.le_of_eq rfl) (hb hby d3_20) (fun _ _ => ⟨rfl, e44, (by decide : 1 + 0 ≤ _), (by decide : 33 + 0 ≤ _)⟩)
  dsimp only [Pt.U, Pt.locs, Pt.cells, Pt.slots] at X45 l45 y45 z45 st45 hQ45
  subst l45 y45 z45
  obtain ⟨rfl, N45q, e45⟩ := hQ45
  have N45 := Fr.app N44 N45q
  obtain ⟨Lh45, X45, N45⟩ := hide X45 N45 (C := 1) (S := 33) (by decide) (by decide)
  refine Outs.of st45 ?_
  show Outs p e below s _ _ _ (T45.setTop (mkF m 23 #[.val (.ref o0), .val (.int (2 : Int32)), .val (.ref b3), .val (.int (20 : Int32))] [(.long (F_f5 (2 : Int32) (20 : Int32))), (.int (20 : Int32)), (.ref b3)]))
  refine Outs.of (U' := T45.setTop (mkF m 25 #[.val (.ref o0), .val (.int (2 : Int32)), .val (.ref b3), .val (.int (20 : Int32))] [(.long ((F_f5 (2 : Int32) (20 : Int32)) + (1 : Int64))), (.int (20 : Int32)), (.ref b3)])) (fun t k => ?_) ?_
  · refine XS.lconst X45.here hx rfl (hb hby d3_23) ?_
    refine XS.ladd X45.here hx rfl (hb hby d3_24) rfl ?_
    exact k
  obtain ⟨T46, h46, X46, e46, W46, V46, st46⟩ := puJ X45 hx hZ e45 V44 (j := (20 : Int32)) (x := ((F_f5 (2 : Int32) (20 : Int32)) + (1 : Int64))) (k := 20) rfl (by decide) (f := (mkF m 25 #[.val (.ref o0), .val (.int (2 : Int32)), .val (.ref b3), .val (.int (20 : Int32))] [(.long ((F_f5 (2 : Int32) (20 : Int32)) + (1 : Int64))), (.int (20 : Int32)), (.ref b3)])) rfl rfl (hb hby d3_25)
  replace V46 : AJ Z h46 b3 .long 33 ct2_g25t := V46
  have N46 := Fr.snoc X46 N45 g_b3
  obtain ⟨Lh46, X46, N46⟩ := hide X46 N46 (C := 1) (S := 33) (by decide) (by decide)
  refine Outs.of st46 ?_
  show Outs p e below s _ _ _ (T46.setTop (mkF m 26 #[.val (.ref o0), .val (.int (2 : Int32)), .val (.ref b3), .val (.int (20 : Int32))] []))
  refine Outs.of (U' := T46.setTop (mkF m 33 #[.val (.ref o0), .val (.int (2 : Int32)), .val (.ref b3), .val (.int (21 : Int32))] [(.int (20 : Int32)), (.ref b3)])) (fun t k => ?_) ?_
  · refine XS.iinc X46.here hx rfl (hb hby d3_26) rfl (l' := #[.val (.ref o0), .val (.int (2 : Int32)), .val (.ref b3), .val (.int (21 : Int32))]) rfl ?_
    refine XS.aloadN X46.here hx rfl (hb hby d3_29) rfl rfl ?_
    refine XS.iloadN X46.here hx rfl (hb hby d3_30) rfl ?_
    refine XS.iconst X46.here hx rfl (hb hby d3_31) ?_
    refine XS.isub X46.here hx rfl (hb hby d3_32) rfl ?_
    exact k
  refine Outs.of (ldJ X46 hx hZ e46 V46 (j := (20 : Int32)) (k := 20) rfl (by decide) (f := (mkF m 33 #[.val (.ref o0), .val (.int (2 : Int32)), .val (.ref b3), .val (.int (21 : Int32))] [(.int (20 : Int32)), (.ref b3)])) rfl rfl (hb hby d3_33)) ?_
  show Outs p e below s _ _ _ (T46.setTop (mkF m 34 #[.val (.ref o0), .val (.int (2 : Int32)), .val (.ref b3), .val (.int (21 : Int32))] [(.long (ct2_g25t 20))]))
  refine Outs.of (U' := T46.setTop (mkF m 20 #[.val (.ref o0), .val (.int (2 : Int32)), .val (.ref b3), .val (.int (21 : Int32))] [(.int (21 : Int32)), (.int (2 : Int32)), (.int (21 : Int32)), (.ref b3)])) (fun t k => ?_) ?_
  · refine X46.ldc2Long hx hown (mvT hZ (hw _ (List.mem_of_getElem? (i := 27) rfl))) (g := (mkF m 34 #[.val (.ref o0), .val (.int (2 : Int32)), .val (.ref b3), .val (.int (21 : Int32))] [(.long (ct2_g25t 20))])) rfl (hb hby d3_34) _ ?_
    refine XS.lcmp X46.here hx rfl (hb hby d3_37) rfl ?_
    refine XS.ifYes X46.here hx rfl (pc0 := 38) (pc' := 16) rfl (hb hby d3_38) rfl ((if0 _ _).trans (flt (fun q_ => (show ¬ ((2147483647 : Int64) < (ct2_g25t 20)) from (by decide +kernel)) ((lw_gt _ _).mp q_))).2.2.2) (by decide) (by decide) ?_
    refine XS.aloadN X46.here hx rfl (hb hby d3_16) rfl rfl ?_
    refine XS.iloadN X46.here hx rfl (hb hby d3_17) rfl ?_
    refine XS.iloadN X46.here hx rfl (hb hby d3_18) rfl ?_
    refine XS.iloadN X46.here hx rfl (hb hby d3_19) rfl ?_
    exact k
  obtain ⟨_, _, ⟨T47, L47, k47, n47⟩, -, X47, ⟨Lc47, hQ47, l47, y47, z47⟩, st47⟩ := Jvm.LawKit.callS X46 hx (y := (⟨"com/example/bitmend/bitmend/CodeParameters", "columns", "(II)J"⟩ : MethodName)) hown (mvT hZ (hw _ (List.mem_of_getElem? (i := 23) rfl))) (mvT hZ (hw _ (List.mem_of_getElem? (i := 24) rfl))) (mvT hZ (hw _ (List.mem_of_getElem? (i := 25) rfl))) (mvT hZ (hw _ (List.mem_of_getElem? (i := 26) rfl))) (by decide) (backOf (W := 2) (rm5 l Z a0 hw [] (2 : Int32) (21 : Int32) h46 n0 (by decide)) hZ (hw _ (List.mem_of_getElem? (i := 26) rfl)) (hw _ (List.mem_of_getElem? (i := 25) rfl)) (by decide) (by decide)) (g := (mkF m 20 #[.val (.ref o0), .val (.int (2 : Int32)), .val (.ref b3), .val (.int (21 : Int32))] [(.int (21 : Int32)), (.int (2 : Int32)), (.int (21 : Int32)), (.ref b3)])) rfl (by rw [hml]; rfl) (argsL := [(.int (2 : Int32)), (.int (21 : Int32))]) (rest := [(.int (21 : Int32)), (.ref b3)]) (lenOf pd_0 rfl) rfl (by show 2 * 0 + _ ≤ _; exact Nat.le_of_eq rfl) (hb hby d3_20) (fun _ _ => ⟨rfl, e46, (by decide : 1 + 0 ≤ _), (by decide : 33 + 0 ≤ _)⟩)
  dsimp only [Pt.U, Pt.locs, Pt.cells, Pt.slots] at X47 l47 y47 z47 st47 hQ47
  subst l47 y47 z47
  obtain ⟨rfl, N47q, e47⟩ := hQ47
  have N47 := Fr.app N46 N47q
  obtain ⟨Lh47, X47, N47⟩ := hide X47 N47 (C := 1) (S := 33) (by decide) (by decide)
  refine Outs.of st47 ?_
  show Outs p e below s _ _ _ (T47.setTop (mkF m 23 #[.val (.ref o0), .val (.int (2 : Int32)), .val (.ref b3), .val (.int (21 : Int32))] [(.long (F_f5 (2 : Int32) (21 : Int32))), (.int (21 : Int32)), (.ref b3)]))
  refine Outs.of (U' := T47.setTop (mkF m 25 #[.val (.ref o0), .val (.int (2 : Int32)), .val (.ref b3), .val (.int (21 : Int32))] [(.long ((F_f5 (2 : Int32) (21 : Int32)) + (1 : Int64))), (.int (21 : Int32)), (.ref b3)])) (fun t k => ?_) ?_
  · refine XS.lconst X47.here hx rfl (hb hby d3_23) ?_
    refine XS.ladd X47.here hx rfl (hb hby d3_24) rfl ?_
    exact k
  obtain ⟨T48, h48, X48, e48, W48, V48, st48⟩ := puJ X47 hx hZ e47 V46 (j := (21 : Int32)) (x := ((F_f5 (2 : Int32) (21 : Int32)) + (1 : Int64))) (k := 21) rfl (by decide) (f := (mkF m 25 #[.val (.ref o0), .val (.int (2 : Int32)), .val (.ref b3), .val (.int (21 : Int32))] [(.long ((F_f5 (2 : Int32) (21 : Int32)) + (1 : Int64))), (.int (21 : Int32)), (.ref b3)])) rfl rfl (hb hby d3_25)
  replace V48 : AJ Z h48 b3 .long 33 ct2_g25u := V48
  have N48 := Fr.snoc X48 N47 g_b3
  obtain ⟨Lh48, X48, N48⟩ := hide X48 N48 (C := 1) (S := 33) (by decide) (by decide)
  refine Outs.of st48 ?_
  show Outs p e below s _ _ _ (T48.setTop (mkF m 26 #[.val (.ref o0), .val (.int (2 : Int32)), .val (.ref b3), .val (.int (21 : Int32))] []))
  refine Outs.of (U' := T48.setTop (mkF m 33 #[.val (.ref o0), .val (.int (2 : Int32)), .val (.ref b3), .val (.int (22 : Int32))] [(.int (21 : Int32)), (.ref b3)])) (fun t k => ?_) ?_
  · refine XS.iinc X48.here hx rfl (hb hby d3_26) rfl (l' := #[.val (.ref o0), .val (.int (2 : Int32)), .val (.ref b3), .val (.int (22 : Int32))]) rfl ?_
    refine XS.aloadN X48.here hx rfl (hb hby d3_29) rfl rfl ?_
    refine XS.iloadN X48.here hx rfl (hb hby d3_30) rfl ?_
    refine XS.iconst X48.here hx rfl (hb hby d3_31) ?_
    refine XS.isub X48.here hx rfl (hb hby d3_32) rfl ?_
    exact k
  refine Outs.of (ldJ X48 hx hZ e48 V48 (j := (21 : Int32)) (k := 21) rfl (by decide) (f := (mkF m 33 #[.val (.ref o0), .val (.int (2 : Int32)), .val (.ref b3), .val (.int (22 : Int32))] [(.int (21 : Int32)), (.ref b3)])) rfl rfl (hb hby d3_33)) ?_
  show Outs p e below s _ _ _ (T48.setTop (mkF m 34 #[.val (.ref o0), .val (.int (2 : Int32)), .val (.ref b3), .val (.int (22 : Int32))] [(.long (ct2_g25u 21))]))
  refine Outs.of (U' := T48.setTop (mkF m 20 #[.val (.ref o0), .val (.int (2 : Int32)), .val (.ref b3), .val (.int (22 : Int32))] [(.int (22 : Int32)), (.int (2 : Int32)), (.int (22 : Int32)), (.ref b3)])) (fun t k => ?_) ?_
  · refine X48.ldc2Long hx hown (mvT hZ (hw _ (List.mem_of_getElem? (i := 27) rfl))) (g := (mkF m 34 #[.val (.ref o0), .val (.int (2 : Int32)), .val (.ref b3), .val (.int (22 : Int32))] [(.long (ct2_g25u 21))])) rfl (hb hby d3_34) _ ?_
    refine XS.lcmp X48.here hx rfl (hb hby d3_37) rfl ?_
    refine XS.ifYes X48.here hx rfl (pc0 := 38) (pc' := 16) rfl (hb hby d3_38) rfl ((if0 _ _).trans (flt (fun q_ => (show ¬ ((2147483647 : Int64) < (ct2_g25u 21)) from (by decide +kernel)) ((lw_gt _ _).mp q_))).2.2.2) (by decide) (by decide) ?_
    refine XS.aloadN X48.here hx rfl (hb hby d3_16) rfl rfl ?_
    refine XS.iloadN X48.here hx rfl (hb hby d3_17) rfl ?_
    refine XS.iloadN X48.here hx rfl (hb hby d3_18) rfl ?_
    refine XS.iloadN X48.here hx rfl (hb hby d3_19) rfl ?_
    exact k
  obtain ⟨_, _, ⟨T49, L49, k49, n49⟩, -, X49, ⟨Lc49, hQ49, l49, y49, z49⟩, st49⟩ := Jvm.LawKit.callS X48 hx (y := (⟨"com/example/bitmend/bitmend/CodeParameters", "columns", "(II)J"⟩ : MethodName)) hown (mvT hZ (hw _ (List.mem_of_getElem? (i := 23) rfl))) (mvT hZ (hw _ (List.mem_of_getElem? (i := 24) rfl))) (mvT hZ (hw _ (List.mem_of_getElem? (i := 25) rfl))) (mvT hZ (hw _ (List.mem_of_getElem? (i := 26) rfl))) (by decide) (backOf (W := 2) (rm5 l Z a0 hw [] (2 : Int32) (22 : Int32) h48 n0 (by decide)) hZ (hw _ (List.mem_of_getElem? (i := 26) rfl)) (hw _ (List.mem_of_getElem? (i := 25) rfl)) (by decide) (by decide)) (g := (mkF m 20 #[.val (.ref o0), .val (.int (2 : Int32)), .val (.ref b3), .val (.int (22 : Int32))] [(.int (22 : Int32)), (.int (2 : Int32)), (.int (22 : Int32)), (.ref b3)])) rfl (by rw [hml]; rfl) (argsL := [(.int (2 : Int32)), (.int (22 : Int32))]) (rest := [(.int (22 : Int32)), (.ref b3)]) (lenOf pd_0 rfl) rfl (by show 2 * 0 + _ ≤ _; exact Nat.le_of_eq rfl) (hb hby d3_20) (fun _ _ => ⟨rfl, e48, (by decide : 1 + 0 ≤ _), (by decide : 33 + 0 ≤ _)⟩)
  dsimp only [Pt.U, Pt.locs, Pt.cells, Pt.slots] at X49 l49 y49 z49 st49 hQ49
  subst l49 y49 z49
  obtain ⟨rfl, N49q, e49⟩ := hQ49
  have N49 := Fr.app N48 N49q
  obtain ⟨Lh49, X49, N49⟩ := hide X49 N49 (C := 1) (S := 33) (by decide) (by decide)
  refine Outs.of st49 ?_
  show Outs p e below s _ _ _ (T49.setTop (mkF m 23 #[.val (.ref o0), .val (.int (2 : Int32)), .val (.ref b3), .val (.int (22 : Int32))] [(.long (F_f5 (2 : Int32) (22 : Int32))), (.int (22 : Int32)), (.ref b3)]))
  refine Outs.of (U' := T49.setTop (mkF m 25 #[.val (.ref o0), .val (.int (2 : Int32)), .val (.ref b3), .val (.int (22 : Int32))] [(.long ((F_f5 (2 : Int32) (22 : Int32)) + (1 : Int64))), (.int (22 : Int32)), (.ref b3)])) (fun t k => ?_) ?_
  · refine XS.lconst X49.here hx rfl (hb hby d3_23) ?_
    refine XS.ladd X49.here hx rfl (hb hby d3_24) rfl ?_
    exact k
  obtain ⟨T50, h50, X50, e50, W50, V50, st50⟩ := puJ X49 hx hZ e49 V48 (j := (22 : Int32)) (x := ((F_f5 (2 : Int32) (22 : Int32)) + (1 : Int64))) (k := 22) rfl (by decide) (f := (mkF m 25 #[.val (.ref o0), .val (.int (2 : Int32)), .val (.ref b3), .val (.int (22 : Int32))] [(.long ((F_f5 (2 : Int32) (22 : Int32)) + (1 : Int64))), (.int (22 : Int32)), (.ref b3)])) rfl rfl (hb hby d3_25)
  replace V50 : AJ Z h50 b3 .long 33 ct2_g25v := V50
  have N50 := Fr.snoc X50 N49 g_b3
  obtain ⟨Lh50, X50, N50⟩ := hide X50 N50 (C := 1) (S := 33) (by decide) (by decide)
  refine Outs.of st50 ?_
  show Outs p e below s _ _ _ (T50.setTop (mkF m 26 #[.val (.ref o0), .val (.int (2 : Int32)), .val (.ref b3), .val (.int (22 : Int32))] []))
  refine Outs.of (U' := T50.setTop (mkF m 33 #[.val (.ref o0), .val (.int (2 : Int32)), .val (.ref b3), .val (.int (23 : Int32))] [(.int (22 : Int32)), (.ref b3)])) (fun t k => ?_) ?_
  · refine XS.iinc X50.here hx rfl (hb hby d3_26) rfl (l' := #[.val (.ref o0), .val (.int (2 : Int32)), .val (.ref b3), .val (.int (23 : Int32))]) rfl ?_
    refine XS.aloadN X50.here hx rfl (hb hby d3_29) rfl rfl ?_
    refine XS.iloadN X50.here hx rfl (hb hby d3_30) rfl ?_
    refine XS.iconst X50.here hx rfl (hb hby d3_31) ?_
    refine XS.isub X50.here hx rfl (hb hby d3_32) rfl ?_
    exact k
  refine Outs.of (ldJ X50 hx hZ e50 V50 (j := (22 : Int32)) (k := 22) rfl (by decide) (f := (mkF m 33 #[.val (.ref o0), .val (.int (2 : Int32)), .val (.ref b3), .val (.int (23 : Int32))] [(.int (22 : Int32)), (.ref b3)])) rfl rfl (hb hby d3_33)) ?_
  show Outs p e below s _ _ _ (T50.setTop (mkF m 34 #[.val (.ref o0), .val (.int (2 : Int32)), .val (.ref b3), .val (.int (23 : Int32))] [(.long (ct2_g25v 22))]))
  refine Outs.of (U' := T50.setTop (mkF m 20 #[.val (.ref o0), .val (.int (2 : Int32)), .val (.ref b3), .val (.int (23 : Int32))] [(.int (23 : Int32)), (.int (2 : Int32)), (.int (23 : Int32)), (.ref b3)])) (fun t k => ?_) ?_
  · refine X50.ldc2Long hx hown (mvT hZ (hw _ (List.mem_of_getElem? (i := 27) rfl))) (g := (mkF m 34 #[.val (.ref o0), .val (.int (2 : Int32)), .val (.ref b3), .val (.int (23 : Int32))] [(.long (ct2_g25v 22))])) rfl (hb hby d3_34) _ ?_
    refine XS.lcmp X50.here hx rfl (hb hby d3_37) rfl ?_
    refine XS.ifYes X50.here hx rfl (pc0 := 38) (pc' := 16) rfl (hb hby d3_38) rfl ((if0 _ _).trans (flt (fun q_ => (show ¬ ((2147483647 : Int64) < (ct2_g25v 22)) from (by decide +kernel)) ((lw_gt _ _).mp q_))).2.2.2) (by decide) (by decide) ?_
    refine XS.aloadN X50.here hx rfl (hb hby d3_16) rfl rfl ?_
    refine XS.iloadN X50.here hx rfl (hb hby d3_17) rfl ?_
    refine XS.iloadN X50.here hx rfl (hb hby d3_18) rfl ?_
    refine XS.iloadN X50.here hx rfl (hb hby d3_19) rfl ?_
    exact k
  obtain ⟨_, _, ⟨T51, L51, k51, n51⟩, -, X51, ⟨Lc51, hQ51, l51, y51, z51⟩, st51⟩ := Jvm.LawKit.callS X50 hx (y := (⟨"com/example/bitmend/bitmend/CodeParameters", "columns", "(II)J"⟩ : MethodName)) hown (mvT hZ (hw _ (List.mem_of_getElem? (i := 23) rfl))) (mvT hZ (hw _ (List.mem_of_getElem? (i := 24) rfl))) (mvT hZ (hw _ (List.mem_of_getElem? (i := 25) rfl))) (mvT hZ (hw _ (List.mem_of_getElem? (i := 26) rfl))) (by decide) (backOf (W := 2) (rm5 l Z a0 hw [] (2 : Int32) (23 : Int32) h50 n0 (by decide)) hZ (hw _ (List.mem_of_getElem? (i := 26) rfl)) (hw _ (List.mem_of_getElem? (i := 25) rfl)) (by decide) (by decide)) (g := (mkF m 20 #[.val (.ref o0), .val (.int (2 : Int32)), .val (.ref b3), .val (.int (23 : Int32))] [(.int (23 : Int32)), (.int (2 : Int32)), (.int (23 : Int32)), (.ref b3)])) rfl (by rw [hml]; rfl) (argsL := [(.int (2 : Int32)), (.int (23 : Int32))]) (rest := [(.int (23 : Int32)), (.ref b3)]) (lenOf pd_0 rfl) rfl (by show 2 * 0 + _ ≤ _; exact Nat.le_of_eq rfl) (hb hby d3_20) (fun _ _ => ⟨rfl, e50, (by decide : 1 + 0 ≤ _), (by decide : 33 + 0 ≤ _)⟩)
  dsimp only [Pt.U, Pt.locs, Pt.cells, Pt.slots] at X51 l51 y51 z51 st51 hQ51
  subst l51 y51 z51
  obtain ⟨rfl, N51q, e51⟩ := hQ51
  have N51 := Fr.app N50 N51q
  obtain ⟨Lh51, X51, N51⟩ := hide X51 N51 (C := 1) (S := 33) (by decide) (by decide)
  refine Outs.of st51 ?_
  show Outs p e below s _ _ _ (T51.setTop (mkF m 23 #[.val (.ref o0), .val (.int (2 : Int32)), .val (.ref b3), .val (.int (23 : Int32))] [(.long (F_f5 (2 : Int32) (23 : Int32))), (.int (23 : Int32)), (.ref b3)]))
  refine Outs.of (U' := T51.setTop (mkF m 25 #[.val (.ref o0), .val (.int (2 : Int32)), .val (.ref b3), .val (.int (23 : Int32))] [(.long ((F_f5 (2 : Int32) (23 : Int32)) + (1 : Int64))), (.int (23 : Int32)), (.ref b3)])) (fun t k => ?_) ?_
  · refine XS.lconst X51.here hx rfl (hb hby d3_23) ?_
    refine XS.ladd X51.here hx rfl (hb hby d3_24) rfl ?_
    exact k
  obtain ⟨T52, h52, X52, e52, W52, V52, st52⟩ := puJ X51 hx hZ e51 V50 (j := (23 : Int32)) (x := ((F_f5 (2 : Int32) (23 : Int32)) + (1 : Int64))) (k := 23) rfl (by decide) (f := (mkF m 25 #[.val (.ref o0), .val (.int (2 : Int32)), .val (.ref b3), .val (.int (23 : Int32))] [(.long ((F_f5 (2 : Int32) (23 : Int32)) + (1 : Int64))), (.int (23 : Int32)), (.ref b3)])) rfl rfl (hb hby d3_25)
  replace V52 : AJ Z h52 b3 .long 33 ct2_g25w := V52
  have N52 := Fr.snoc X52 N51 g_b3
  obtain ⟨Lh52, X52, N52⟩ := hide X52 N52 (C := 1) (S := 33) (by decide) (by decide)
  refine Outs.of st52 ?_
  show Outs p e below s _ _ _ (T52.setTop (mkF m 26 #[.val (.ref o0), .val (.int (2 : Int32)), .val (.ref b3), .val (.int (23 : Int32))] []))
  refine Outs.of (U' := T52.setTop (mkF m 33 #[.val (.ref o0), .val (.int (2 : Int32)), .val (.ref b3), .val (.int (24 : Int32))] [(.int (23 : Int32)), (.ref b3)])) (fun t k => ?_) ?_
  · refine XS.iinc X52.here hx rfl (hb hby d3_26) rfl (l' := #[.val (.ref o0), .val (.int (2 : Int32)), .val (.ref b3), .val (.int (24 : Int32))]) rfl ?_
    refine XS.aloadN X52.here hx rfl (hb hby d3_29) rfl rfl ?_
    refine XS.iloadN X52.here hx rfl (hb hby d3_30) rfl ?_
    refine XS.iconst X52.here hx rfl (hb hby d3_31) ?_
    refine XS.isub X52.here hx rfl (hb hby d3_32) rfl ?_
    exact k
  refine Outs.of (ldJ X52 hx hZ e52 V52 (j := (23 : Int32)) (k := 23) rfl (by decide) (f := (mkF m 33 #[.val (.ref o0), .val (.int (2 : Int32)), .val (.ref b3), .val (.int (24 : Int32))] [(.int (23 : Int32)), (.ref b3)])) rfl rfl (hb hby d3_33)) ?_
  show Outs p e below s _ _ _ (T52.setTop (mkF m 34 #[.val (.ref o0), .val (.int (2 : Int32)), .val (.ref b3), .val (.int (24 : Int32))] [(.long (ct2_g25w 23))]))
  refine Outs.of (U' := T52.setTop (mkF m 20 #[.val (.ref o0), .val (.int (2 : Int32)), .val (.ref b3), .val (.int (24 : Int32))] [(.int (24 : Int32)), (.int (2 : Int32)), (.int (24 : Int32)), (.ref b3)])) (fun t k => ?_) ?_
  · refine X52.ldc2Long hx hown (mvT hZ (hw _ (List.mem_of_getElem? (i := 27) rfl))) (g := (mkF m 34 #[.val (.ref o0), .val (.int (2 : Int32)), .val (.ref b3), .val (.int (24 : Int32))] [(.long (ct2_g25w 23))])) rfl (hb hby d3_34) _ ?_
    refine XS.lcmp X52.here hx rfl (hb hby d3_37) rfl ?_
    refine XS.ifYes X52.here hx rfl (pc0 := 38) (pc' := 16) rfl (hb hby d3_38) rfl ((if0 _ _).trans (flt (fun q_ => (show ¬ ((2147483647 : Int64) < (ct2_g25w 23)) from (by decide +kernel)) ((lw_gt _ _).mp q_))).2.2.2) (by decide) (by decide) ?_
    refine XS.aloadN X52.here hx rfl (hb hby d3_16) rfl rfl ?_
    refine XS.iloadN X52.here hx rfl (hb hby d3_17) rfl ?_
    refine XS.iloadN X52.here hx rfl (hb hby d3_18) rfl ?_
    refine XS.iloadN X52.here hx rfl (hb hby d3_19) rfl ?_
    exact k
  obtain ⟨_, _, ⟨T53, L53, k53, n53⟩, -, X53, ⟨Lc53, hQ53, l53, y53, z53⟩, st53⟩ := Jvm.LawKit.callS X52 hx (y := (⟨"com/example/bitmend/bitmend/CodeParameters", "columns", "(II)J"⟩ : MethodName)) hown (mvT hZ (hw _ (List.mem_of_getElem? (i := 23) rfl))) (mvT hZ (hw _ (List.mem_of_getElem? (i := 24) rfl))) (mvT hZ (hw _ (List.mem_of_getElem? (i := 25) rfl))) (mvT hZ (hw _ (List.mem_of_getElem? (i := 26) rfl))) (by decide) (backOf (W := 2) (rm5 l Z a0 hw [] (2 : Int32) (24 : Int32) h52 n0 (by decide)) hZ (hw _ (List.mem_of_getElem? (i := 26) rfl)) (hw _ (List.mem_of_getElem? (i := 25) rfl)) (by decide) (by decide)) (g := (mkF m 20 #[.val (.ref o0), .val (.int (2 : Int32)), .val (.ref b3), .val (.int (24 : Int32))] [(.int (24 : Int32)), (.int (2 : Int32)), (.int (24 : Int32)), (.ref b3)])) rfl (by rw [hml]; rfl) (argsL := [(.int (2 : Int32)), (.int (24 : Int32))]) (rest := [(.int (24 : Int32)), (.ref b3)]) (lenOf pd_0 rfl) rfl (by show 2 * 0 + _ ≤ _; exact Nat.le_of_eq rfl) (hb hby d3_20) (fun _ _ => ⟨rfl, e52, (by decide : 1 + 0 ≤ _), (by decide : 33 + 0 ≤ _)⟩)
  dsimp only [Pt.U, Pt.locs, Pt.cells, Pt.slots] at X53 l53 y53 z53 st53 hQ53
  subst l53 y53 z53
  obtain ⟨rfl, N53q, e53⟩ := hQ53
  have N53 := Fr.app N52 N53q
  obtain ⟨Lh53, X53, N53⟩ := hide X53 N53 (C := 1) (S := 33) (by decide) (by decide)
  refine Outs.of st53 ?_
  show Outs p e below s _ _ _ (T53.setTop (mkF m 23 #[.val (.ref o0), .val (.int (2 : Int32)), .val (.ref b3), .val (.int (24 : Int32))] [(.long (F_f5 (2 : Int32) (24 : Int32))), (.int (24 : Int32)), (.ref b3)]))
  refine Outs.of (U' := T53.setTop (mkF m 25 #[.val (.ref o0), .val (.int (2 : Int32)), .val (.ref b3), .val (.int (24 : Int32))] [(.long ((F_f5 (2 : Int32) (24 : Int32)) + (1 : Int64))), (.int (24 : Int32)), (.ref b3)])) (fun t k => ?_) ?_
  · refine XS.lconst X53.here hx rfl (hb hby d3_23) ?_
    refine XS.ladd X53.here hx rfl (hb hby d3_24) rfl ?_
    exact k
  obtain ⟨T54, h54, X54, e54, W54, V54, st54⟩ := puJ X53 hx hZ e53 V52 (j := (24 : Int32)) (x := ((F_f5 (2 : Int32) (24 : Int32)) + (1 : Int64))) (k := 24) rfl (by decide) (f := (mkF m 25 #[.val (.ref o0), .val (.int (2 : Int32)), .val (.ref b3), .val (.int (24 : Int32))] [(.long ((F_f5 (2 : Int32) (24 : Int32)) + (1 : Int64))), (.int (24 : Int32)), (.ref b3)])) rfl rfl (hb hby d3_25)
  replace V54 : AJ Z h54 b3 .long 33 ct2_g25x := V54
  have N54 := Fr.snoc X54 N53 g_b3
  obtain ⟨Lh54, X54, N54⟩ := hide X54 N54 (C := 1) (S := 33) (by decide) (by decide)
  refine Outs.of st54 ?_
  show Outs p e below s _ _ _ (T54.setTop (mkF m 26 #[.val (.ref o0), .val (.int (2 : Int32)), .val (.ref b3), .val (.int (24 : Int32))] []))
  refine Outs.of (U' := T54.setTop (mkF m 33 #[.val (.ref o0), .val (.int (2 : Int32)), .val (.ref b3), .val (.int (25 : Int32))] [(.int (24 : Int32)), (.ref b3)])) (fun t k => ?_) ?_
  · refine XS.iinc X54.here hx rfl (hb hby d3_26) rfl (l' := #[.val (.ref o0), .val (.int (2 : Int32)), .val (.ref b3), .val (.int (25 : Int32))]) rfl ?_
    refine XS.aloadN X54.here hx rfl (hb hby d3_29) rfl rfl ?_
    refine XS.iloadN X54.here hx rfl (hb hby d3_30) rfl ?_
    refine XS.iconst X54.here hx rfl (hb hby d3_31) ?_
    refine XS.isub X54.here hx rfl (hb hby d3_32) rfl ?_
    exact k
  refine Outs.of (ldJ X54 hx hZ e54 V54 (j := (24 : Int32)) (k := 24) rfl (by decide) (f := (mkF m 33 #[.val (.ref o0), .val (.int (2 : Int32)), .val (.ref b3), .val (.int (25 : Int32))] [(.int (24 : Int32)), (.ref b3)])) rfl rfl (hb hby d3_33)) ?_
  show Outs p e below s _ _ _ (T54.setTop (mkF m 34 #[.val (.ref o0), .val (.int (2 : Int32)), .val (.ref b3), .val (.int (25 : Int32))] [(.long (ct2_g25x 24))]))
  refine Outs.of (U' := T54.setTop (mkF m 20 #[.val (.ref o0), .val (.int (2 : Int32)), .val (.ref b3), .val (.int (25 : Int32))] [(.int (25 : Int32)), (.int (2 : Int32)), (.int (25 : Int32)), (.ref b3)])) (fun t k => ?_) ?_
  · refine X54.ldc2Long hx hown (mvT hZ (hw _ (List.mem_of_getElem? (i := 27) rfl))) (g := (mkF m 34 #[.val (.ref o0), .val (.int (2 : Int32)), .val (.ref b3), .val (.int (25 : Int32))] [(.long (ct2_g25x 24))])) rfl (hb hby d3_34) _ ?_
    refine XS.lcmp X54.here hx rfl (hb hby d3_37) rfl ?_
    refine XS.ifYes X54.here hx rfl (pc0 := 38) (pc' := 16) rfl (hb hby d3_38) rfl ((if0 _ _).trans (flt (fun q_ => (show ¬ ((2147483647 : Int64) < (ct2_g25x 24)) from (by decide +kernel)) ((lw_gt _ _).mp q_))).2.2.2) (by decide) (by decide) ?_
    refine XS.aloadN X54.here hx rfl (hb hby d3_16) rfl rfl ?_
    refine XS.iloadN X54.here hx rfl (hb hby d3_17) rfl ?_
    refine XS.iloadN X54.here hx rfl (hb hby d3_18) rfl ?_
    refine XS.iloadN X54.here hx rfl (hb hby d3_19) rfl ?_
    exact k
  obtain ⟨_, _, ⟨T55, L55, k55, n55⟩, -, X55, ⟨Lc55, hQ55, l55, y55, z55⟩, st55⟩ := Jvm.LawKit.callS X54 hx (y := (⟨"com/example/bitmend/bitmend/CodeParameters", "columns", "(II)J"⟩ : MethodName)) hown (mvT hZ (hw _ (List.mem_of_getElem? (i := 23) rfl))) (mvT hZ (hw _ (List.mem_of_getElem? (i := 24) rfl))) (mvT hZ (hw _ (List.mem_of_getElem? (i := 25) rfl))) (mvT hZ (hw _ (List.mem_of_getElem? (i := 26) rfl))) (by decide) (backOf (W := 2) (rm5 l Z a0 hw [] (2 : Int32) (25 : Int32) h54 n0 (by decide)) hZ (hw _ (List.mem_of_getElem? (i := 26) rfl)) (hw _ (List.mem_of_getElem? (i := 25) rfl)) (by decide) (by decide)) (g := (mkF m 20 #[.val (.ref o0), .val (.int (2 : Int32)), .val (.ref b3), .val (.int (25 : Int32))] [(.int (25 : Int32)), (.int (2 : Int32)), (.int (25 : Int32)), (.ref b3)])) rfl (by rw [hml]; rfl) (argsL := [(.int (2 : Int32)), (.int (25 : Int32))]) (rest := [(.int (25 : Int32)), (.ref b3)]) (lenOf pd_0 rfl) rfl (by show 2 * 0 + _ ≤ _; exact Nat.le_of_eq rfl) (hb hby d3_20) (fun _ _ => ⟨rfl, e54, (by decide : 1 + 0 ≤ _), (by decide : 33 + 0 ≤ _)⟩)
  dsimp only [Pt.U, Pt.locs, Pt.cells, Pt.slots] at X55 l55 y55 z55 st55 hQ55
  subst l55 y55 z55
  obtain ⟨rfl, N55q, e55⟩ := hQ55
  have N55 := Fr.app N54 N55q
  obtain ⟨Lh55, X55, N55⟩ := hide X55 N55 (C := 1) (S := 33) (by decide) (by decide)
  refine Outs.of st55 ?_
  show Outs p e below s _ _ _ (T55.setTop (mkF m 23 #[.val (.ref o0), .val (.int (2 : Int32)), .val (.ref b3), .val (.int (25 : Int32))] [(.long (F_f5 (2 : Int32) (25 : Int32))), (.int (25 : Int32)), (.ref b3)]))
  refine Outs.of (U' := T55.setTop (mkF m 25 #[.val (.ref o0), .val (.int (2 : Int32)), .val (.ref b3), .val (.int (25 : Int32))] [(.long ((F_f5 (2 : Int32) (25 : Int32)) + (1 : Int64))), (.int (25 : Int32)), (.ref b3)])) (fun t k => ?_) ?_
  · refine XS.lconst X55.here hx rfl (hb hby d3_23) ?_
    refine XS.ladd X55.here hx rfl (hb hby d3_24) rfl ?_
    exact k
  obtain ⟨T56, h56, X56, e56, W56, V56, st56⟩ := puJ X55 hx hZ e55 V54 (j := (25 : Int32)) (x := ((F_f5 (2 : Int32) (25 : Int32)) + (1 : Int64))) (k := 25) rfl (by decide) (f := (mkF m 25 #[.val (.ref o0), .val (.int (2 : Int32)), .val (.ref b3), .val (.int (25 : Int32))] [(.long ((F_f5 (2 : Int32) (25 : Int32)) + (1 : Int64))), (.int (25 : Int32)), (.ref b3)])) rfl rfl (hb hby d3_25)
  replace V56 : AJ Z h56 b3 .long 33 ct2_g25y := V56
  have N56 := Fr.snoc X56 N55 g_b3
  obtain ⟨Lh56, X56, N56⟩ := hide X56 N56 (C := 1) (S := 33) (by decide) (by decide)
  refine Outs.of st56 ?_
  show Outs p e below s _ _ _ (T56.setTop (mkF m 26 #[.val (.ref o0), .val (.int (2 : Int32)), .val (.ref b3), .val (.int (25 : Int32))] []))
  refine Outs.of (U' := T56.setTop (mkF m 33 #[.val (.ref o0), .val (.int (2 : Int32)), .val (.ref b3), .val (.int (26 : Int32))] [(.int (25 : Int32)), (.ref b3)])) (fun t k => ?_) ?_
  · refine XS.iinc X56.here hx rfl (hb hby d3_26) rfl (l' := #[.val (.ref o0), .val (.int (2 : Int32)), .val (.ref b3), .val (.int (26 : Int32))]) rfl ?_
    refine XS.aloadN X56.here hx rfl (hb hby d3_29) rfl rfl ?_
    refine XS.iloadN X56.here hx rfl (hb hby d3_30) rfl ?_
    refine XS.iconst X56.here hx rfl (hb hby d3_31) ?_
    refine XS.isub X56.here hx rfl (hb hby d3_32) rfl ?_
    exact k
  refine Outs.of (ldJ X56 hx hZ e56 V56 (j := (25 : Int32)) (k := 25) rfl (by decide) (f := (mkF m 33 #[.val (.ref o0), .val (.int (2 : Int32)), .val (.ref b3), .val (.int (26 : Int32))] [(.int (25 : Int32)), (.ref b3)])) rfl rfl (hb hby d3_33)) ?_
  show Outs p e below s _ _ _ (T56.setTop (mkF m 34 #[.val (.ref o0), .val (.int (2 : Int32)), .val (.ref b3), .val (.int (26 : Int32))] [(.long (ct2_g25y 25))]))
  refine Outs.of (U' := T56.setTop (mkF m 20 #[.val (.ref o0), .val (.int (2 : Int32)), .val (.ref b3), .val (.int (26 : Int32))] [(.int (26 : Int32)), (.int (2 : Int32)), (.int (26 : Int32)), (.ref b3)])) (fun t k => ?_) ?_
  · refine X56.ldc2Long hx hown (mvT hZ (hw _ (List.mem_of_getElem? (i := 27) rfl))) (g := (mkF m 34 #[.val (.ref o0), .val (.int (2 : Int32)), .val (.ref b3), .val (.int (26 : Int32))] [(.long (ct2_g25y 25))])) rfl (hb hby d3_34) _ ?_
    refine XS.lcmp X56.here hx rfl (hb hby d3_37) rfl ?_
    refine XS.ifYes X56.here hx rfl (pc0 := 38) (pc' := 16) rfl (hb hby d3_38) rfl ((if0 _ _).trans (flt (fun q_ => (show ¬ ((2147483647 : Int64) < (ct2_g25y 25)) from (by decide +kernel)) ((lw_gt _ _).mp q_))).2.2.2) (by decide) (by decide) ?_
    refine XS.aloadN X56.here hx rfl (hb hby d3_16) rfl rfl ?_
    refine XS.iloadN X56.here hx rfl (hb hby d3_17) rfl ?_
    refine XS.iloadN X56.here hx rfl (hb hby d3_18) rfl ?_
    refine XS.iloadN X56.here hx rfl (hb hby d3_19) rfl ?_
    exact k
  obtain ⟨_, _, ⟨T57, L57, k57, n57⟩, -, X57, ⟨Lc57, hQ57, l57, y57, z57⟩, st57⟩ := Jvm.LawKit.callS X56 hx (y := (⟨"com/example/bitmend/bitmend/CodeParameters", "columns", "(II)J"⟩ : MethodName)) hown (mvT hZ (hw _ (List.mem_of_getElem? (i := 23) rfl))) (mvT hZ (hw _ (List.mem_of_getElem? (i := 24) rfl))) (mvT hZ (hw _ (List.mem_of_getElem? (i := 25) rfl))) (mvT hZ (hw _ (List.mem_of_getElem? (i := 26) rfl))) (by decide) (backOf (W := 2) (rm5 l Z a0 hw [] (2 : Int32) (26 : Int32) h56 n0 (by decide)) hZ (hw _ (List.mem_of_getElem? (i := 26) rfl)) (hw _ (List.mem_of_getElem? (i := 25) rfl)) (by decide) (by decide)) (g := (mkF m 20 #[.val (.ref o0), .val (.int (2 : Int32)), .val (.ref b3), .val (.int (26 : Int32))] [(.int (26 : Int32)), (.int (2 : Int32)), (.int (26 : Int32)), (.ref b3)])) rfl (by rw [hml]; rfl) (argsL := [(.int (2 : Int32)), (.int (26 : Int32))]) (rest := [(.int (26 : Int32)), (.ref b3)]) (lenOf pd_0 rfl) rfl (by show 2 * 0 + _ ≤ _; exact Nat.le_of_eq rfl) (hb hby d3_20) (fun _ _ => ⟨rfl, e56, (by decide : 1 + 0 ≤ _), (by decide : 33 + 0 ≤ _)⟩)
  dsimp only [Pt.U, Pt.locs, Pt.cells, Pt.slots] at X57 l57 y57 z57 st57 hQ57
  subst l57 y57 z57
  obtain ⟨rfl, N57q, e57⟩ := hQ57
  have N57 := Fr.app N56 N57q
  obtain ⟨Lh57, X57, N57⟩ := hide X57 N57 (C := 1) (S := 33) (by decide) (by decide)
  refine Outs.of st57 ?_
  show Outs p e below s _ _ _ (T57.setTop (mkF m 23 #[.val (.ref o0), .val (.int (2 : Int32)), .val (.ref b3), .val (.int (26 : Int32))] [(.long (F_f5 (2 : Int32) (26 : Int32))), (.int (26 : Int32)), (.ref b3)]))
  refine Outs.of (U' := T57.setTop (mkF m 25 #[.val (.ref o0), .val (.int (2 : Int32)), .val (.ref b3), .val (.int (26 : Int32))] [(.long ((F_f5 (2 : Int32) (26 : Int32)) + (1 : Int64))), (.int (26 : Int32)), (.ref b3)])) (fun t k => ?_) ?_
  · refine XS.lconst X57.here hx rfl (hb hby d3_23) ?_
    refine XS.ladd X57.here hx rfl (hb hby d3_24) rfl ?_
    exact k
  obtain ⟨T58, h58, X58, e58, W58, V58, st58⟩ := puJ X57 hx hZ e57 V56 (j := (26 : Int32)) (x := ((F_f5 (2 : Int32) (26 : Int32)) + (1 : Int64))) (k := 26) rfl (by decide) (f := (mkF m 25 #[.val (.ref o0), .val (.int (2 : Int32)), .val (.ref b3), .val (.int (26 : Int32))] [(.long ((F_f5 (2 : Int32) (26 : Int32)) + (1 : Int64))), (.int (26 : Int32)), (.ref b3)])) rfl rfl (hb hby d3_25)
  replace V58 : AJ Z h58 b3 .long 33 ct2_g25z := V58
  have N58 := Fr.snoc X58 N57 g_b3
  obtain ⟨Lh58, X58, N58⟩ := hide X58 N58 (C := 1) (S := 33) (by decide) (by decide)
  refine Outs.of st58 ?_
  show Outs p e below s _ _ _ (T58.setTop (mkF m 26 #[.val (.ref o0), .val (.int (2 : Int32)), .val (.ref b3), .val (.int (26 : Int32))] []))
  refine Outs.of (U' := T58.setTop (mkF m 33 #[.val (.ref o0), .val (.int (2 : Int32)), .val (.ref b3), .val (.int (27 : Int32))] [(.int (26 : Int32)), (.ref b3)])) (fun t k => ?_) ?_
  · refine XS.iinc X58.here hx rfl (hb hby d3_26) rfl (l' := #[.val (.ref o0), .val (.int (2 : Int32)), .val (.ref b3), .val (.int (27 : Int32))]) rfl ?_
    refine XS.aloadN X58.here hx rfl (hb hby d3_29) rfl rfl ?_
    refine XS.iloadN X58.here hx rfl (hb hby d3_30) rfl ?_
    refine XS.iconst X58.here hx rfl (hb hby d3_31) ?_
    refine XS.isub X58.here hx rfl (hb hby d3_32) rfl ?_
    exact k
  refine Outs.of (ldJ X58 hx hZ e58 V58 (j := (26 : Int32)) (k := 26) rfl (by decide) (f := (mkF m 33 #[.val (.ref o0), .val (.int (2 : Int32)), .val (.ref b3), .val (.int (27 : Int32))] [(.int (26 : Int32)), (.ref b3)])) rfl rfl (hb hby d3_33)) ?_
  show Outs p e below s _ _ _ (T58.setTop (mkF m 34 #[.val (.ref o0), .val (.int (2 : Int32)), .val (.ref b3), .val (.int (27 : Int32))] [(.long (ct2_g25z 26))]))
  refine Outs.of (U' := T58.setTop (mkF m 20 #[.val (.ref o0), .val (.int (2 : Int32)), .val (.ref b3), .val (.int (27 : Int32))] [(.int (27 : Int32)), (.int (2 : Int32)), (.int (27 : Int32)), (.ref b3)])) (fun t k => ?_) ?_
  · refine X58.ldc2Long hx hown (mvT hZ (hw _ (List.mem_of_getElem? (i := 27) rfl))) (g := (mkF m 34 #[.val (.ref o0), .val (.int (2 : Int32)), .val (.ref b3), .val (.int (27 : Int32))] [(.long (ct2_g25z 26))])) rfl (hb hby d3_34) _ ?_
    refine XS.lcmp X58.here hx rfl (hb hby d3_37) rfl ?_
    refine XS.ifYes X58.here hx rfl (pc0 := 38) (pc' := 16) rfl (hb hby d3_38) rfl ((if0 _ _).trans (flt (fun q_ => (show ¬ ((2147483647 : Int64) < (ct2_g25z 26)) from (by decide +kernel)) ((lw_gt _ _).mp q_))).2.2.2) (by decide) (by decide) ?_
    refine XS.aloadN X58.here hx rfl (hb hby d3_16) rfl rfl ?_
    refine XS.iloadN X58.here hx rfl (hb hby d3_17) rfl ?_
    refine XS.iloadN X58.here hx rfl (hb hby d3_18) rfl ?_
    refine XS.iloadN X58.here hx rfl (hb hby d3_19) rfl ?_
    exact k
  obtain ⟨_, _, ⟨T59, L59, k59, n59⟩, -, X59, ⟨Lc59, hQ59, l59, y59, z59⟩, st59⟩ := Jvm.LawKit.callS X58 hx (y := (⟨"com/example/bitmend/bitmend/CodeParameters", "columns", "(II)J"⟩ : MethodName)) hown (mvT hZ (hw _ (List.mem_of_getElem? (i := 23) rfl))) (mvT hZ (hw _ (List.mem_of_getElem? (i := 24) rfl))) (mvT hZ (hw _ (List.mem_of_getElem? (i := 25) rfl))) (mvT hZ (hw _ (List.mem_of_getElem? (i := 26) rfl))) (by decide) (backOf (W := 2) (rm5 l Z a0 hw [] (2 : Int32) (27 : Int32) h58 n0 (by decide)) hZ (hw _ (List.mem_of_getElem? (i := 26) rfl)) (hw _ (List.mem_of_getElem? (i := 25) rfl)) (by decide) (by decide)) (g := (mkF m 20 #[.val (.ref o0), .val (.int (2 : Int32)), .val (.ref b3), .val (.int (27 : Int32))] [(.int (27 : Int32)), (.int (2 : Int32)), (.int (27 : Int32)), (.ref b3)])) rfl (by rw [hml]; rfl) (argsL := [(.int (2 : Int32)), (.int (27 : Int32))]) (rest := [(.int (27 : Int32)), (.ref b3)]) (lenOf pd_0 rfl) rfl (by show 2 * 0 + _ ≤ _; exact Nat.le_of_eq rfl) (hb hby d3_20) (fun _ _ => ⟨rfl, e58, (by decide : 1 + 0 ≤ _), (by decide : 33 + 0 ≤ _)⟩)
  dsimp only [Pt.U, Pt.locs, Pt.cells, Pt.slots] at X59 l59 y59 z59 st59 hQ59
  subst l59 y59 z59
  obtain ⟨rfl, N59q, e59⟩ := hQ59
  have N59 := Fr.app N58 N59q
  obtain ⟨Lh59, X59, N59⟩ := hide X59 N59 (C := 1) (S := 33) (by decide) (by decide)
  refine Outs.of st59 ?_
  show Outs p e below s _ _ _ (T59.setTop (mkF m 23 #[.val (.ref o0), .val (.int (2 : Int32)), .val (.ref b3), .val (.int (27 : Int32))] [(.long (F_f5 (2 : Int32) (27 : Int32))), (.int (27 : Int32)), (.ref b3)]))
  refine Outs.of (U' := T59.setTop (mkF m 25 #[.val (.ref o0), .val (.int (2 : Int32)), .val (.ref b3), .val (.int (27 : Int32))] [(.long ((F_f5 (2 : Int32) (27 : Int32)) + (1 : Int64))), (.int (27 : Int32)), (.ref b3)])) (fun t k => ?_) ?_
  · refine XS.lconst X59.here hx rfl (hb hby d3_23) ?_
    refine XS.ladd X59.here hx rfl (hb hby d3_24) rfl ?_
    exact k
  obtain ⟨T60, h60, X60, e60, W60, V60, st60⟩ := puJ X59 hx hZ e59 V58 (j := (27 : Int32)) (x := ((F_f5 (2 : Int32) (27 : Int32)) + (1 : Int64))) (k := 27) rfl (by decide) (f := (mkF m 25 #[.val (.ref o0), .val (.int (2 : Int32)), .val (.ref b3), .val (.int (27 : Int32))] [(.long ((F_f5 (2 : Int32) (27 : Int32)) + (1 : Int64))), (.int (27 : Int32)), (.ref b3)])) rfl rfl (hb hby d3_25)
  replace V60 : AJ Z h60 b3 .long 33 ct2_g25aa := V60
  have N60 := Fr.snoc X60 N59 g_b3
  obtain ⟨Lh60, X60, N60⟩ := hide X60 N60 (C := 1) (S := 33) (by decide) (by decide)
  refine Outs.of st60 ?_
  show Outs p e below s _ _ _ (T60.setTop (mkF m 26 #[.val (.ref o0), .val (.int (2 : Int32)), .val (.ref b3), .val (.int (27 : Int32))] []))
  refine Outs.of (U' := T60.setTop (mkF m 33 #[.val (.ref o0), .val (.int (2 : Int32)), .val (.ref b3), .val (.int (28 : Int32))] [(.int (27 : Int32)), (.ref b3)])) (fun t k => ?_) ?_
  · refine XS.iinc X60.here hx rfl (hb hby d3_26) rfl (l' := #[.val (.ref o0), .val (.int (2 : Int32)), .val (.ref b3), .val (.int (28 : Int32))]) rfl ?_
    refine XS.aloadN X60.here hx rfl (hb hby d3_29) rfl rfl ?_
    refine XS.iloadN X60.here hx rfl (hb hby d3_30) rfl ?_
    refine XS.iconst X60.here hx rfl (hb hby d3_31) ?_
    refine XS.isub X60.here hx rfl (hb hby d3_32) rfl ?_
    exact k
  refine Outs.of (ldJ X60 hx hZ e60 V60 (j := (27 : Int32)) (k := 27) rfl (by decide) (f := (mkF m 33 #[.val (.ref o0), .val (.int (2 : Int32)), .val (.ref b3), .val (.int (28 : Int32))] [(.int (27 : Int32)), (.ref b3)])) rfl rfl (hb hby d3_33)) ?_
  show Outs p e below s _ _ _ (T60.setTop (mkF m 34 #[.val (.ref o0), .val (.int (2 : Int32)), .val (.ref b3), .val (.int (28 : Int32))] [(.long (ct2_g25aa 27))]))
  refine Outs.of (U' := T60.setTop (mkF m 20 #[.val (.ref o0), .val (.int (2 : Int32)), .val (.ref b3), .val (.int (28 : Int32))] [(.int (28 : Int32)), (.int (2 : Int32)), (.int (28 : Int32)), (.ref b3)])) (fun t k => ?_) ?_
  · refine X60.ldc2Long hx hown (mvT hZ (hw _ (List.mem_of_getElem? (i := 27) rfl))) (g := (mkF m 34 #[.val (.ref o0), .val (.int (2 : Int32)), .val (.ref b3), .val (.int (28 : Int32))] [(.long (ct2_g25aa 27))])) rfl (hb hby d3_34) _ ?_
    refine XS.lcmp X60.here hx rfl (hb hby d3_37) rfl ?_
    refine XS.ifYes X60.here hx rfl (pc0 := 38) (pc' := 16) rfl (hb hby d3_38) rfl ((if0 _ _).trans (flt (fun q_ => (show ¬ ((2147483647 : Int64) < (ct2_g25aa 27)) from (by decide +kernel)) ((lw_gt _ _).mp q_))).2.2.2) (by decide) (by decide) ?_
    refine XS.aloadN X60.here hx rfl (hb hby d3_16) rfl rfl ?_
    refine XS.iloadN X60.here hx rfl (hb hby d3_17) rfl ?_
    refine XS.iloadN X60.here hx rfl (hb hby d3_18) rfl ?_
    refine XS.iloadN X60.here hx rfl (hb hby d3_19) rfl ?_
    exact k
  obtain ⟨_, _, ⟨T61, L61, k61, n61⟩, -, X61, ⟨Lc61, hQ61, l61, y61, z61⟩, st61⟩ := Jvm.LawKit.callS X60 hx (y := (⟨"com/example/bitmend/bitmend/CodeParameters", "columns", "(II)J"⟩ : MethodName)) hown (mvT hZ (hw _ (List.mem_of_getElem? (i := 23) rfl))) (mvT hZ (hw _ (List.mem_of_getElem? (i := 24) rfl))) (mvT hZ (hw _ (List.mem_of_getElem? (i := 25) rfl))) (mvT hZ (hw _ (List.mem_of_getElem? (i := 26) rfl))) (by decide) (backOf (W := 2) (rm5 l Z a0 hw [] (2 : Int32) (28 : Int32) h60 n0 (by decide)) hZ (hw _ (List.mem_of_getElem? (i := 26) rfl)) (hw _ (List.mem_of_getElem? (i := 25) rfl)) (by decide) (by decide)) (g := (mkF m 20 #[.val (.ref o0), .val (.int (2 : Int32)), .val (.ref b3), .val (.int (28 : Int32))] [(.int (28 : Int32)), (.int (2 : Int32)), (.int (28 : Int32)), (.ref b3)])) rfl (by rw [hml]; rfl) (argsL := [(.int (2 : Int32)), (.int (28 : Int32))]) (rest := [(.int (28 : Int32)), (.ref b3)]) (lenOf pd_0 rfl) rfl (by show 2 * 0 + _ ≤ _; exact Nat.le_of_eq rfl) (hb hby d3_20) (fun _ _ => ⟨rfl, e60, (by decide : 1 + 0 ≤ _), (by decide : 33 + 0 ≤ _)⟩)
  dsimp only [Pt.U, Pt.locs, Pt.cells, Pt.slots] at X61 l61 y61 z61 st61 hQ61
  subst l61 y61 z61
  obtain ⟨rfl, N61q, e61⟩ := hQ61
  have N61 := Fr.app N60 N61q
  obtain ⟨Lh61, X61, N61⟩ := hide X61 N61 (C := 1) (S := 33) (by decide) (by decide)
  refine Outs.of st61 ?_
  show Outs p e below s _ _ _ (T61.setTop (mkF m 23 #[.val (.ref o0), .val (.int (2 : Int32)), .val (.ref b3), .val (.int (28 : Int32))] [(.long (F_f5 (2 : Int32) (28 : Int32))), (.int (28 : Int32)), (.ref b3)]))
  refine Outs.of (U' := T61.setTop (mkF m 25 #[.val (.ref o0), .val (.int (2 : Int32)), .val (.ref b3), .val (.int (28 : Int32))] [(.long ((F_f5 (2 : Int32) (28 : Int32)) + (1 : Int64))), (.int (28 : Int32)), (.ref b3)])) (fun t k => ?_) ?_
  · refine XS.lconst X61.here hx rfl (hb hby d3_23) ?_
    refine XS.ladd X61.here hx rfl (hb hby d3_24) rfl ?_
    exact k
  obtain ⟨T62, h62, X62, e62, W62, V62, st62⟩ := puJ X61 hx hZ e61 V60 (j := (28 : Int32)) (x := ((F_f5 (2 : Int32) (28 : Int32)) + (1 : Int64))) (k := 28) rfl (by decide) (f := (mkF m 25 #[.val (.ref o0), .val (.int (2 : Int32)), .val (.ref b3), .val (.int (28 : Int32))] [(.long ((F_f5 (2 : Int32) (28 : Int32)) + (1 : Int64))), (.int (28 : Int32)), (.ref b3)])) rfl rfl (hb hby d3_25)
  replace V62 : AJ Z h62 b3 .long 33 ct2_g25ab := V62
  have N62 := Fr.snoc X62 N61 g_b3
  obtain ⟨Lh62, X62, N62⟩ := hide X62 N62 (C := 1) (S := 33) (by decide) (by decide)
  refine Outs.of st62 ?_
  show Outs p e below s _ _ _ (T62.setTop (mkF m 26 #[.val (.ref o0), .val (.int (2 : Int32)), .val (.ref b3), .val (.int (28 : Int32))] []))
  refine Outs.of (U' := T62.setTop (mkF m 33 #[.val (.ref o0), .val (.int (2 : Int32)), .val (.ref b3), .val (.int (29 : Int32))] [(.int (28 : Int32)), (.ref b3)])) (fun t k => ?_) ?_
  · refine XS.iinc X62.here hx rfl (hb hby d3_26) rfl (l' := #[.val (.ref o0), .val (.int (2 : Int32)), .val (.ref b3), .val (.int (29 : Int32))]) rfl ?_
    refine XS.aloadN X62.here hx rfl (hb hby d3_29) rfl rfl ?_
    refine XS.iloadN X62.here hx rfl (hb hby d3_30) rfl ?_
    refine XS.iconst X62.here hx rfl (hb hby d3_31) ?_
    refine XS.isub X62.here hx rfl (hb hby d3_32) rfl ?_
    exact k
  refine Outs.of (ldJ X62 hx hZ e62 V62 (j := (28 : Int32)) (k := 28) rfl (by decide) (f := (mkF m 33 #[.val (.ref o0), .val (.int (2 : Int32)), .val (.ref b3), .val (.int (29 : Int32))] [(.int (28 : Int32)), (.ref b3)])) rfl rfl (hb hby d3_33)) ?_
  show Outs p e below s _ _ _ (T62.setTop (mkF m 34 #[.val (.ref o0), .val (.int (2 : Int32)), .val (.ref b3), .val (.int (29 : Int32))] [(.long (ct2_g25ab 28))]))
  refine Outs.of (U' := T62.setTop (mkF m 20 #[.val (.ref o0), .val (.int (2 : Int32)), .val (.ref b3), .val (.int (29 : Int32))] [(.int (29 : Int32)), (.int (2 : Int32)), (.int (29 : Int32)), (.ref b3)])) (fun t k => ?_) ?_
  · refine X62.ldc2Long hx hown (mvT hZ (hw _ (List.mem_of_getElem? (i := 27) rfl))) (g := (mkF m 34 #[.val (.ref o0), .val (.int (2 : Int32)), .val (.ref b3), .val (.int (29 : Int32))] [(.long (ct2_g25ab 28))])) rfl (hb hby d3_34) _ ?_
    refine XS.lcmp X62.here hx rfl (hb hby d3_37) rfl ?_
    refine XS.ifYes X62.here hx rfl (pc0 := 38) (pc' := 16) rfl (hb hby d3_38) rfl ((if0 _ _).trans (flt (fun q_ => (show ¬ ((2147483647 : Int64) < (ct2_g25ab 28)) from (by decide +kernel)) ((lw_gt _ _).mp q_))).2.2.2) (by decide) (by decide) ?_
    refine XS.aloadN X62.here hx rfl (hb hby d3_16) rfl rfl ?_
    refine XS.iloadN X62.here hx rfl (hb hby d3_17) rfl ?_
    refine XS.iloadN X62.here hx rfl (hb hby d3_18) rfl ?_
    refine XS.iloadN X62.here hx rfl (hb hby d3_19) rfl ?_
    exact k
  obtain ⟨_, _, ⟨T63, L63, k63, n63⟩, -, X63, ⟨Lc63, hQ63, l63, y63, z63⟩, st63⟩ := Jvm.LawKit.callS X62 hx (y := (⟨"com/example/bitmend/bitmend/CodeParameters", "columns", "(II)J"⟩ : MethodName)) hown (mvT hZ (hw _ (List.mem_of_getElem? (i := 23) rfl))) (mvT hZ (hw _ (List.mem_of_getElem? (i := 24) rfl))) (mvT hZ (hw _ (List.mem_of_getElem? (i := 25) rfl))) (mvT hZ (hw _ (List.mem_of_getElem? (i := 26) rfl))) (by decide) (backOf (W := 2) (rm5 l Z a0 hw [] (2 : Int32) (29 : Int32) h62 n0 (by decide)) hZ (hw _ (List.mem_of_getElem? (i := 26) rfl)) (hw _ (List.mem_of_getElem? (i := 25) rfl)) (by decide) (by decide)) (g := (mkF m 20 #[.val (.ref o0), .val (.int (2 : Int32)), .val (.ref b3), .val (.int (29 : Int32))] [(.int (29 : Int32)), (.int (2 : Int32)), (.int (29 : Int32)), (.ref b3)])) rfl (by rw [hml]; rfl) (argsL := [(.int (2 : Int32)), (.int (29 : Int32))]) (rest := [(.int (29 : Int32)), (.ref b3)]) (lenOf pd_0 rfl) rfl (by show 2 * 0 + _ ≤ _; exact Nat.le_of_eq rfl) (hb hby d3_20) (fun _ _ => ⟨rfl, e62, (by decide : 1 + 0 ≤ _), (by decide : 33 + 0 ≤ _)⟩)
  dsimp only [Pt.U, Pt.locs, Pt.cells, Pt.slots] at X63 l63 y63 z63 st63 hQ63
  subst l63 y63 z63
  obtain ⟨rfl, N63q, e63⟩ := hQ63
  have N63 := Fr.app N62 N63q
  obtain ⟨Lh63, X63, N63⟩ := hide X63 N63 (C := 1) (S := 33) (by decide) (by decide)
  refine Outs.of st63 ?_
  show Outs p e below s _ _ _ (T63.setTop (mkF m 23 #[.val (.ref o0), .val (.int (2 : Int32)), .val (.ref b3), .val (.int (29 : Int32))] [(.long (F_f5 (2 : Int32) (29 : Int32))), (.int (29 : Int32)), (.ref b3)]))
  refine Outs.of (U' := T63.setTop (mkF m 25 #[.val (.ref o0), .val (.int (2 : Int32)), .val (.ref b3), .val (.int (29 : Int32))] [(.long ((F_f5 (2 : Int32) (29 : Int32)) + (1 : Int64))), (.int (29 : Int32)), (.ref b3)])) (fun t k => ?_) ?_
  · refine XS.lconst X63.here hx rfl (hb hby d3_23) ?_
    refine XS.ladd X63.here hx rfl (hb hby d3_24) rfl ?_
    exact k
  obtain ⟨T64, h64, X64, e64, W64, V64, st64⟩ := puJ X63 hx hZ e63 V62 (j := (29 : Int32)) (x := ((F_f5 (2 : Int32) (29 : Int32)) + (1 : Int64))) (k := 29) rfl (by decide) (f := (mkF m 25 #[.val (.ref o0), .val (.int (2 : Int32)), .val (.ref b3), .val (.int (29 : Int32))] [(.long ((F_f5 (2 : Int32) (29 : Int32)) + (1 : Int64))), (.int (29 : Int32)), (.ref b3)])) rfl rfl (hb hby d3_25)
  replace V64 : AJ Z h64 b3 .long 33 ct2_g25ac := V64
  have N64 := Fr.snoc X64 N63 g_b3
  obtain ⟨Lh64, X64, N64⟩ := hide X64 N64 (C := 1) (S := 33) (by decide) (by decide)
  refine Outs.of st64 ?_
  show Outs p e below s _ _ _ (T64.setTop (mkF m 26 #[.val (.ref o0), .val (.int (2 : Int32)), .val (.ref b3), .val (.int (29 : Int32))] []))
  refine Outs.of (U' := T64.setTop (mkF m 33 #[.val (.ref o0), .val (.int (2 : Int32)), .val (.ref b3), .val (.int (30 : Int32))] [(.int (29 : Int32)), (.ref b3)])) (fun t k => ?_) ?_
  · refine XS.iinc X64.here hx rfl (hb hby d3_26) rfl (l' := #[.val (.ref o0), .val (.int (2 : Int32)), .val (.ref b3), .val (.int (30 : Int32))]) rfl ?_
    refine XS.aloadN X64.here hx rfl (hb hby d3_29) rfl rfl ?_
    refine XS.iloadN X64.here hx rfl (hb hby d3_30) rfl ?_
    refine XS.iconst X64.here hx rfl (hb hby d3_31) ?_
    refine XS.isub X64.here hx rfl (hb hby d3_32) rfl ?_
    exact k
  refine Outs.of (ldJ X64 hx hZ e64 V64 (j := (29 : Int32)) (k := 29) rfl (by decide) (f := (mkF m 33 #[.val (.ref o0), .val (.int (2 : Int32)), .val (.ref b3), .val (.int (30 : Int32))] [(.int (29 : Int32)), (.ref b3)])) rfl rfl (hb hby d3_33)) ?_
  show Outs p e below s _ _ _ (T64.setTop (mkF m 34 #[.val (.ref o0), .val (.int (2 : Int32)), .val (.ref b3), .val (.int (30 : Int32))] [(.long (ct2_g25ac 29))]))
  refine Outs.of (U' := T64.setTop (mkF m 20 #[.val (.ref o0), .val (.int (2 : Int32)), .val (.ref b3), .val (.int (30 : Int32))] [(.int (30 : Int32)), (.int (2 : Int32)), (.int (30 : Int32)), (.ref b3)])) (fun t k => ?_) ?_
  · refine X64.ldc2Long hx hown (mvT hZ (hw _ (List.mem_of_getElem? (i := 27) rfl))) (g := (mkF m 34 #[.val (.ref o0), .val (.int (2 : Int32)), .val (.ref b3), .val (.int (30 : Int32))] [(.long (ct2_g25ac 29))])) rfl (hb hby d3_34) _ ?_
    refine XS.lcmp X64.here hx rfl (hb hby d3_37) rfl ?_
    refine XS.ifYes X64.here hx rfl (pc0 := 38) (pc' := 16) rfl (hb hby d3_38) rfl ((if0 _ _).trans (flt (fun q_ => (show ¬ ((2147483647 : Int64) < (ct2_g25ac 29)) from (by decide +kernel)) ((lw_gt _ _).mp q_))).2.2.2) (by decide) (by decide) ?_
    refine XS.aloadN X64.here hx rfl (hb hby d3_16) rfl rfl ?_
    refine XS.iloadN X64.here hx rfl (hb hby d3_17) rfl ?_
    refine XS.iloadN X64.here hx rfl (hb hby d3_18) rfl ?_
    refine XS.iloadN X64.here hx rfl (hb hby d3_19) rfl ?_
    exact k
  obtain ⟨_, _, ⟨T65, L65, k65, n65⟩, -, X65, ⟨Lc65, hQ65, l65, y65, z65⟩, st65⟩ := Jvm.LawKit.callS X64 hx (y := (⟨"com/example/bitmend/bitmend/CodeParameters", "columns", "(II)J"⟩ : MethodName)) hown (mvT hZ (hw _ (List.mem_of_getElem? (i := 23) rfl))) (mvT hZ (hw _ (List.mem_of_getElem? (i := 24) rfl))) (mvT hZ (hw _ (List.mem_of_getElem? (i := 25) rfl))) (mvT hZ (hw _ (List.mem_of_getElem? (i := 26) rfl))) (by decide) (backOf (W := 2) (rm5 l Z a0 hw [] (2 : Int32) (30 : Int32) h64 n0 (by decide)) hZ (hw _ (List.mem_of_getElem? (i := 26) rfl)) (hw _ (List.mem_of_getElem? (i := 25) rfl)) (by decide) (by decide)) (g := (mkF m 20 #[.val (.ref o0), .val (.int (2 : Int32)), .val (.ref b3), .val (.int (30 : Int32))] [(.int (30 : Int32)), (.int (2 : Int32)), (.int (30 : Int32)), (.ref b3)])) rfl (by rw [hml]; rfl) (argsL := [(.int (2 : Int32)), (.int (30 : Int32))]) (rest := [(.int (30 : Int32)), (.ref b3)]) (lenOf pd_0 rfl) rfl (by show 2 * 0 + _ ≤ _; exact Nat.le_of_eq rfl) (hb hby d3_20) (fun _ _ => ⟨rfl, e64, (by decide : 1 + 0 ≤ _), (by decide : 33 + 0 ≤ _)⟩)
  dsimp only [Pt.U, Pt.locs, Pt.cells, Pt.slots] at X65 l65 y65 z65 st65 hQ65
  subst l65 y65 z65
  obtain ⟨rfl, N65q, e65⟩ := hQ65
  have N65 := Fr.app N64 N65q
  obtain ⟨Lh65, X65, N65⟩ := hide X65 N65 (C := 1) (S := 33) (by decide) (by decide)
  refine Outs.of st65 ?_
  show Outs p e below s _ _ _ (T65.setTop (mkF m 23 #[.val (.ref o0), .val (.int (2 : Int32)), .val (.ref b3), .val (.int (30 : Int32))] [(.long (F_f5 (2 : Int32) (30 : Int32))), (.int (30 : Int32)), (.ref b3)]))
  refine Outs.of (U' := T65.setTop (mkF m 25 #[.val (.ref o0), .val (.int (2 : Int32)), .val (.ref b3), .val (.int (30 : Int32))] [(.long ((F_f5 (2 : Int32) (30 : Int32)) + (1 : Int64))), (.int (30 : Int32)), (.ref b3)])) (fun t k => ?_) ?_
  · refine XS.lconst X65.here hx rfl (hb hby d3_23) ?_
    refine XS.ladd X65.here hx rfl (hb hby d3_24) rfl ?_
    exact k
  obtain ⟨T66, h66, X66, e66, W66, V66, st66⟩ := puJ X65 hx hZ e65 V64 (j := (30 : Int32)) (x := ((F_f5 (2 : Int32) (30 : Int32)) + (1 : Int64))) (k := 30) rfl (by decide) (f := (mkF m 25 #[.val (.ref o0), .val (.int (2 : Int32)), .val (.ref b3), .val (.int (30 : Int32))] [(.long ((F_f5 (2 : Int32) (30 : Int32)) + (1 : Int64))), (.int (30 : Int32)), (.ref b3)])) rfl rfl (hb hby d3_25)
  replace V66 : AJ Z h66 b3 .long 33 ct2_g25ad := V66
  have N66 := Fr.snoc X66 N65 g_b3
  obtain ⟨Lh66, X66, N66⟩ := hide X66 N66 (C := 1) (S := 33) (by decide) (by decide)
  refine Outs.of st66 ?_
  show Outs p e below s _ _ _ (T66.setTop (mkF m 26 #[.val (.ref o0), .val (.int (2 : Int32)), .val (.ref b3), .val (.int (30 : Int32))] []))
  refine Outs.of (U' := T66.setTop (mkF m 33 #[.val (.ref o0), .val (.int (2 : Int32)), .val (.ref b3), .val (.int (31 : Int32))] [(.int (30 : Int32)), (.ref b3)])) (fun t k => ?_) ?_
  · refine XS.iinc X66.here hx rfl (hb hby d3_26) rfl (l' := #[.val (.ref o0), .val (.int (2 : Int32)), .val (.ref b3), .val (.int (31 : Int32))]) rfl ?_
    refine XS.aloadN X66.here hx rfl (hb hby d3_29) rfl rfl ?_
    refine XS.iloadN X66.here hx rfl (hb hby d3_30) rfl ?_
    refine XS.iconst X66.here hx rfl (hb hby d3_31) ?_
    refine XS.isub X66.here hx rfl (hb hby d3_32) rfl ?_
    exact k
  refine Outs.of (ldJ X66 hx hZ e66 V66 (j := (30 : Int32)) (k := 30) rfl (by decide) (f := (mkF m 33 #[.val (.ref o0), .val (.int (2 : Int32)), .val (.ref b3), .val (.int (31 : Int32))] [(.int (30 : Int32)), (.ref b3)])) rfl rfl (hb hby d3_33)) ?_
  show Outs p e below s _ _ _ (T66.setTop (mkF m 34 #[.val (.ref o0), .val (.int (2 : Int32)), .val (.ref b3), .val (.int (31 : Int32))] [(.long (ct2_g25ad 30))]))
  refine Outs.of (U' := T66.setTop (mkF m 20 #[.val (.ref o0), .val (.int (2 : Int32)), .val (.ref b3), .val (.int (31 : Int32))] [(.int (31 : Int32)), (.int (2 : Int32)), (.int (31 : Int32)), (.ref b3)])) (fun t k => ?_) ?_
  · refine X66.ldc2Long hx hown (mvT hZ (hw _ (List.mem_of_getElem? (i := 27) rfl))) (g := (mkF m 34 #[.val (.ref o0), .val (.int (2 : Int32)), .val (.ref b3), .val (.int (31 : Int32))] [(.long (ct2_g25ad 30))])) rfl (hb hby d3_34) _ ?_
    refine XS.lcmp X66.here hx rfl (hb hby d3_37) rfl ?_
    refine XS.ifYes X66.here hx rfl (pc0 := 38) (pc' := 16) rfl (hb hby d3_38) rfl ((if0 _ _).trans (flt (fun q_ => (show ¬ ((2147483647 : Int64) < (ct2_g25ad 30)) from (by decide +kernel)) ((lw_gt _ _).mp q_))).2.2.2) (by decide) (by decide) ?_
    refine XS.aloadN X66.here hx rfl (hb hby d3_16) rfl rfl ?_
    refine XS.iloadN X66.here hx rfl (hb hby d3_17) rfl ?_
    refine XS.iloadN X66.here hx rfl (hb hby d3_18) rfl ?_
    refine XS.iloadN X66.here hx rfl (hb hby d3_19) rfl ?_
    exact k
  obtain ⟨_, _, ⟨T67, L67, k67, n67⟩, -, X67, ⟨Lc67, hQ67, l67, y67, z67⟩, st67⟩ := Jvm.LawKit.callS X66 hx (y := (⟨"com/example/bitmend/bitmend/CodeParameters", "columns", "(II)J"⟩ : MethodName)) hown (mvT hZ (hw _ (List.mem_of_getElem? (i := 23) rfl))) (mvT hZ (hw _ (List.mem_of_getElem? (i := 24) rfl))) (mvT hZ (hw _ (List.mem_of_getElem? (i := 25) rfl))) (mvT hZ (hw _ (List.mem_of_getElem? (i := 26) rfl))) (by decide) (backOf (W := 2) (rm5 l Z a0 hw [] (2 : Int32) (31 : Int32) h66 n0 (by decide)) hZ (hw _ (List.mem_of_getElem? (i := 26) rfl)) (hw _ (List.mem_of_getElem? (i := 25) rfl)) (by decide) (by decide)) (g := (mkF m 20 #[.val (.ref o0), .val (.int (2 : Int32)), .val (.ref b3), .val (.int (31 : Int32))] [(.int (31 : Int32)), (.int (2 : Int32)), (.int (31 : Int32)), (.ref b3)])) rfl (by rw [hml]; rfl) (argsL := [(.int (2 : Int32)), (.int (31 : Int32))]) (rest := [(.int (31 : Int32)), (.ref b3)]) (lenOf pd_0 rfl) rfl (by show 2 * 0 + _ ≤ _; exact Nat.le_of_eq rfl) (hb hby d3_20) (fun _ _ => ⟨rfl, e66, (by decide : 1 + 0 ≤ _), (by decide : 33 + 0 ≤ _)⟩)
  dsimp only [Pt.U, Pt.locs, Pt.cells, Pt.slots] at X67 l67 y67 z67 st67 hQ67
  subst l67 y67 z67
  obtain ⟨rfl, N67q, e67⟩ := hQ67
  have N67 := Fr.app N66 N67q
  obtain ⟨Lh67, X67, N67⟩ := hide X67 N67 (C := 1) (S := 33) (by decide) (by decide)
  refine Outs.of st67 ?_
  show Outs p e below s _ _ _ (T67.setTop (mkF m 23 #[.val (.ref o0), .val (.int (2 : Int32)), .val (.ref b3), .val (.int (31 : Int32))] [(.long (F_f5 (2 : Int32) (31 : Int32))), (.int (31 : Int32)), (.ref b3)]))
  refine Outs.of (U' := T67.setTop (mkF m 25 #[.val (.ref o0), .val (.int (2 : Int32)), .val (.ref b3), .val (.int (31 : Int32))] [(.long ((F_f5 (2 : Int32) (31 : Int32)) + (1 : Int64))), (.int (31 : Int32)), (.ref b3)])) (fun t k => ?_) ?_
  · refine XS.lconst X67.here hx rfl (hb hby d3_23) ?_
    refine XS.ladd X67.here hx rfl (hb hby d3_24) rfl ?_
    exact k
  obtain ⟨T68, h68, X68, e68, W68, V68, st68⟩ := puJ X67 hx hZ e67 V66 (j := (31 : Int32)) (x := ((F_f5 (2 : Int32) (31 : Int32)) + (1 : Int64))) (k := 31) rfl (by decide) (f := (mkF m 25 #[.val (.ref o0), .val (.int (2 : Int32)), .val (.ref b3), .val (.int (31 : Int32))] [(.long ((F_f5 (2 : Int32) (31 : Int32)) + (1 : Int64))), (.int (31 : Int32)), (.ref b3)])) rfl rfl (hb hby d3_25)
  replace V68 : AJ Z h68 b3 .long 33 ct2_g25ae := V68
  have N68 := Fr.snoc X68 N67 g_b3
  obtain ⟨Lh68, X68, N68⟩ := hide X68 N68 (C := 1) (S := 33) (by decide) (by decide)
  refine Outs.of st68 ?_
  show Outs p e below s _ _ _ (T68.setTop (mkF m 26 #[.val (.ref o0), .val (.int (2 : Int32)), .val (.ref b3), .val (.int (31 : Int32))] []))
  refine Outs.of (U' := T68.setTop (mkF m 33 #[.val (.ref o0), .val (.int (2 : Int32)), .val (.ref b3), .val (.int (32 : Int32))] [(.int (31 : Int32)), (.ref b3)])) (fun t k => ?_) ?_
  · refine XS.iinc X68.here hx rfl (hb hby d3_26) rfl (l' := #[.val (.ref o0), .val (.int (2 : Int32)), .val (.ref b3), .val (.int (32 : Int32))]) rfl ?_
    refine XS.aloadN X68.here hx rfl (hb hby d3_29) rfl rfl ?_
    refine XS.iloadN X68.here hx rfl (hb hby d3_30) rfl ?_
    refine XS.iconst X68.here hx rfl (hb hby d3_31) ?_
    refine XS.isub X68.here hx rfl (hb hby d3_32) rfl ?_
    exact k
  refine Outs.of (ldJ X68 hx hZ e68 V68 (j := (31 : Int32)) (k := 31) rfl (by decide) (f := (mkF m 33 #[.val (.ref o0), .val (.int (2 : Int32)), .val (.ref b3), .val (.int (32 : Int32))] [(.int (31 : Int32)), (.ref b3)])) rfl rfl (hb hby d3_33)) ?_
  show Outs p e below s _ _ _ (T68.setTop (mkF m 34 #[.val (.ref o0), .val (.int (2 : Int32)), .val (.ref b3), .val (.int (32 : Int32))] [(.long (ct2_g25ae 31))]))
  refine Outs.of (U' := T68.setTop (mkF m 44 #[.val (.ref o0), .val (.int (2 : Int32)), .val (.ref b3), .val (.int (32 : Int32))] [(.int (32 : Int32)), (.ref b3), (.ref o0)])) (fun t k => ?_) ?_
  · refine X68.ldc2Long hx hown (mvT hZ (hw _ (List.mem_of_getElem? (i := 27) rfl))) (g := (mkF m 34 #[.val (.ref o0), .val (.int (2 : Int32)), .val (.ref b3), .val (.int (32 : Int32))] [(.long (ct2_g25ae 31))])) rfl (hb hby d3_34) _ ?_
    refine XS.lcmp X68.here hx rfl (hb hby d3_37) rfl ?_
    refine XS.ifNo X68.here hx rfl (hb hby d3_38) rfl ((if0 _ _).trans (tlt ((lw_gt _ _).mpr (show (2147483647 : Int64) < (ct2_g25ae 31) from (by decide +kernel)))).2.2.2) ?_
    refine XS.aloadN X68.here hx rfl (hb hby d3_41) rfl rfl ?_
    refine XS.aloadN X68.here hx rfl (hb hby d3_42) rfl rfl ?_
    refine XS.iloadN X68.here hx rfl (hb hby d3_43) rfl ?_
    exact k
  have f69 : Exa Z h68 o0 "com/example/bitmend/bitmend/PositionalColumns" := (((((((((((((((((((((((((((((((((f4.ext E3).wr W6).wr W8).wr W10).wr W12).wr W14).wr W16).wr W18).wr W20).wr W22).wr W24).wr W26).wr W28).wr W30).wr W32).wr W34).wr W36).wr W38).wr W40).wr W42).wr W44).wr W46).wr W48).wr W50).wr W52).wr W54).wr W56).wr W58).wr W60).wr W62).wr W64).wr W66).wr W68)
  obtain ⟨_, _, ⟨T70, L70, k70, n70⟩, -, X70, ⟨Lc70, hQ70, l70, y70, z70⟩, st70⟩ := Jvm.LawKit.callS X68 hx (y := (⟨"java/util/Arrays", "copyOf", "([JI)[J"⟩ : MethodName)) hown (mvT hZ (hw _ (List.mem_of_getElem? (i := 28) rfl))) (mvT hZ (hw _ (List.mem_of_getElem? (i := 29) rfl))) (mvT hZ (hw _ (List.mem_of_getElem? (i := 30) rfl))) (mvT hZ (hw _ (List.mem_of_getElem? (i := 31) rfl))) (by decide) (backOf (W := 1) (rmcp2 l Z a0 hw [] b3 ct2_g25ae h68 n0 (Nat.le_trans (Nat.le_trans (Nat.le_trans (Nat.le_trans (Nat.le_trans (Nat.le_trans (Nat.le_trans (Nat.le_trans (Nat.le_trans (Nat.le_trans (Nat.le_trans (Nat.le_trans (Nat.le_trans (Nat.le_trans (Nat.le_trans (Nat.le_trans (Nat.le_trans (Nat.le_trans (Nat.le_trans (Nat.le_trans (Nat.le_trans (Nat.le_trans (Nat.le_trans (Nat.le_trans (Nat.le_trans (Nat.le_trans (Nat.le_trans (Nat.le_trans (Nat.le_trans (Nat.le_trans (Nat.le_trans (Nat.le_trans (Nat.le_trans (Nat.le_trans Z0 (Keep.of_wr W2).1) E3.1) (Keep.of_wr W6).1) (Keep.of_wr W8).1) (Keep.of_wr W10).1) (Keep.of_wr W12).1) (Keep.of_wr W14).1) (Keep.of_wr W16).1) (Keep.of_wr W18).1) (Keep.of_wr W20).1) (Keep.of_wr W22).1) (Keep.of_wr W24).1) (Keep.of_wr W26).1) (Keep.of_wr W28).1) (Keep.of_wr W30).1) (Keep.of_wr W32).1) (Keep.of_wr W34).1) (Keep.of_wr W36).1) (Keep.of_wr W38).1) (Keep.of_wr W40).1) (Keep.of_wr W42).1) (Keep.of_wr W44).1) (Keep.of_wr W46).1) (Keep.of_wr W48).1) (Keep.of_wr W50).1) (Keep.of_wr W52).1) (Keep.of_wr W54).1) (Keep.of_wr W56).1) (Keep.of_wr W58).1) (Keep.of_wr W60).1) (Keep.of_wr W62).1) (Keep.of_wr W64).1) (Keep.of_wr W66).1) (Keep.of_wr W68).1) V68) hZ (hw _ (List.mem_of_getElem? (i := 31) rfl)) (hw _ (List.mem_of_getElem? (i := 30) rfl)) (by decide) (by decide)) (g := (mkF m 44 #[.val (.ref o0), .val (.int (2 : Int32)), .val (.ref b3), .val (.int (32 : Int32))] [(.int (32 : Int32)), (.ref b3), (.ref o0)])) rfl (by rw [hml]; rfl) (argsL := [(.ref b3), (.int (32 : Int32))]) (rest := [(.ref o0)]) (lenOf pd_4 rfl) rfl (by show 2 * 0 + _ ≤ _; exact Nat.le_of_eq rfl) (hb hby d3_44) (fun _ _ => ⟨rfl, e68, (by decide : 1 + 1 ≤ _), (by decide : 33 + 32 ≤ _)⟩)
  dsimp only [Pt.U, Pt.locs, Pt.cells, Pt.slots] at X70 l70 y70 z70 st70 hQ70
  subst l70 y70 z70
  obtain ⟨b70, g_b70, hs70, rfl, N70q, K70, u70_0⟩ := hQ70
  have N70 := Fr.app N68 N70q
  have sz_b70 : h0.size ≤ b70 := Nat.le_trans (((((((((((((((((((((((((((((((((((Keep.refl h0 [o0]).wr W2 (Or.inl (List.mem_of_getElem? (i := 0) rfl))).ext E3).wr W6 (Or.inr sz_b3)).wr W8 (Or.inr sz_b3)).wr W10 (Or.inr sz_b3)).wr W12 (Or.inr sz_b3)).wr W14 (Or.inr sz_b3)).wr W16 (Or.inr sz_b3)).wr W18 (Or.inr sz_b3)).wr W20 (Or.inr sz_b3)).wr W22 (Or.inr sz_b3)).wr W24 (Or.inr sz_b3)).wr W26 (Or.inr sz_b3)).wr W28 (Or.inr sz_b3)).wr W30 (Or.inr sz_b3)).wr W32 (Or.inr sz_b3)).wr W34 (Or.inr sz_b3)).wr W36 (Or.inr sz_b3)).wr W38 (Or.inr sz_b3)).wr W40 (Or.inr sz_b3)).wr W42 (Or.inr sz_b3)).wr W44 (Or.inr sz_b3)).wr W46 (Or.inr sz_b3)).wr W48 (Or.inr sz_b3)).wr W50 (Or.inr sz_b3)).wr W52 (Or.inr sz_b3)).wr W54 (Or.inr sz_b3)).wr W56 (Or.inr sz_b3)).wr W58 (Or.inr sz_b3)).wr W60 (Or.inr sz_b3)).wr W62 (Or.inr sz_b3)).wr W64 (Or.inr sz_b3)).wr W66 (Or.inr sz_b3)).wr W68 (Or.inr sz_b3)).1 hs70
  have ne_o0_b70 : o0 ≠ b70 := Nat.ne_of_lt (Nat.lt_of_lt_of_le f69.lt hs70)
  have ne_b3_b70 : b3 ≠ b70 := Nat.ne_of_lt (Nat.lt_of_lt_of_le V68.lt hs70)
  obtain ⟨Lh70, X70, N70⟩ := hide X70 N70 (C := 2) (S := 65) (by decide) (by decide)
  refine Outs.of st70 ?_
  show Outs p e below s _ _ _ (T70.setTop (mkF m 47 #[.val (.ref o0), .val (.int (2 : Int32)), .val (.ref b3), .val (.int (32 : Int32))] [(.ref b70), (.ref o0)]))
  have f72 : Exa Z T70.heap o0 "com/example/bitmend/bitmend/PositionalColumns" := (f69.keep K70)
  have f73 : Fld Z T70.heap o0 "com/example/bitmend/bitmend/PositionalColumns" "checkPositions" "[J" .null := (((((((((((((((((((((((((((((((((((F_o0_checkPositions.other W2 (Or.inr (slot_ne (Or.inr (hw _ (List.mem_of_getElem? (i := 40) rfl))) (Or.inr (hw _ (List.mem_of_getElem? (i := 21) rfl))) (by decide) (t := (.array .long)) (t' := .int) (by decide) (by decide)))).ext E3).other W6 (Or.inl ne_o0_b3)).other W8 (Or.inl ne_o0_b3)).other W10 (Or.inl ne_o0_b3)).other W12 (Or.inl ne_o0_b3)).other W14 (Or.inl ne_o0_b3)).other W16 (Or.inl ne_o0_b3)).other W18 (Or.inl ne_o0_b3)).other W20 (Or.inl ne_o0_b3)).other W22 (Or.inl ne_o0_b3)).other W24 (Or.inl ne_o0_b3)).other W26 (Or.inl ne_o0_b3)).other W28 (Or.inl ne_o0_b3)).other W30 (Or.inl ne_o0_b3)).other W32 (Or.inl ne_o0_b3)).other W34 (Or.inl ne_o0_b3)).other W36 (Or.inl ne_o0_b3)).other W38 (Or.inl ne_o0_b3)).other W40 (Or.inl ne_o0_b3)).other W42 (Or.inl ne_o0_b3)).other W44 (Or.inl ne_o0_b3)).other W46 (Or.inl ne_o0_b3)).other W48 (Or.inl ne_o0_b3)).other W50 (Or.inl ne_o0_b3)).other W52 (Or.inl ne_o0_b3)).other W54 (Or.inl ne_o0_b3)).other W56 (Or.inl ne_o0_b3)).other W58 (Or.inl ne_o0_b3)).other W60 (Or.inl ne_o0_b3)).other W62 (Or.inl ne_o0_b3)).other W64 (Or.inl ne_o0_b3)).other W66 (Or.inl ne_o0_b3)).other W68 (Or.inl ne_o0_b3)).keep K70 nin0)
  obtain ⟨T71, h71, X71, e71, W71, st71⟩ := putF X70 hx hZ hown (host := "") (Or.inl (hw _ (List.mem_of_getElem? (i := 39) rfl))) Via.refl rfl f73 f72 (Or.inr ⟨(hw _ (List.mem_of_getElem? (i := 40) rfl)), rfl, hnm⟩) (hw _ (List.mem_of_getElem? (i := 12) rfl)) (ty := (.array .long)) (by decide) rfl rfl (g := (mkF m 47 #[.val (.ref o0), .val (.int (2 : Int32)), .val (.ref b3), .val (.int (32 : Int32))] [(.ref b70), (.ref o0)])) rfl rfl (hb hby d3_47)
  have F71 : Fld Z h71 o0 "com/example/bitmend/bitmend/PositionalColumns" "checkPositions" "[J" (.ref b70) := f73.same W71
  have N71 := Fr.snoc X71 N70 g_o0
  obtain ⟨Lh71, X71, N71⟩ := hide X71 N71 (C := 2) (S := 65) (by decide) (by decide)
  refine Outs.of st71 ?_
  show Outs p e below s _ _ _ (T71.setTop (mkF m 50 #[.val (.ref o0), .val (.int (2 : Int32)), .val (.ref b3), .val (.int (32 : Int32))] []))
  have f74 : Exa Z h71 o0 "com/example/bitmend/bitmend/PositionalColumns" := (f72.wr W71)
  have f75 : Fld Z h71 o0 "com/example/bitmend/bitmend/PositionalColumns" "fieldSize" "I" (.int (2 : Int32)) := (((((((((((((((((((((((((((((((((((F2.ext E3).other W6 (Or.inl ne_o0_b3)).other W8 (Or.inl ne_o0_b3)).other W10 (Or.inl ne_o0_b3)).other W12 (Or.inl ne_o0_b3)).other W14 (Or.inl ne_o0_b3)).other W16 (Or.inl ne_o0_b3)).other W18 (Or.inl ne_o0_b3)).other W20 (Or.inl ne_o0_b3)).other W22 (Or.inl ne_o0_b3)).other W24 (Or.inl ne_o0_b3)).other W26 (Or.inl ne_o0_b3)).other W28 (Or.inl ne_o0_b3)).other W30 (Or.inl ne_o0_b3)).other W32 (Or.inl ne_o0_b3)).other W34 (Or.inl ne_o0_b3)).other W36 (Or.inl ne_o0_b3)).other W38 (Or.inl ne_o0_b3)).other W40 (Or.inl ne_o0_b3)).other W42 (Or.inl ne_o0_b3)).other W44 (Or.inl ne_o0_b3)).other W46 (Or.inl ne_o0_b3)).other W48 (Or.inl ne_o0_b3)).other W50 (Or.inl ne_o0_b3)).other W52 (Or.inl ne_o0_b3)).other W54 (Or.inl ne_o0_b3)).other W56 (Or.inl ne_o0_b3)).other W58 (Or.inl ne_o0_b3)).other W60 (Or.inl ne_o0_b3)).other W62 (Or.inl ne_o0_b3)).other W64 (Or.inl ne_o0_b3)).other W66 (Or.inl ne_o0_b3)).other W68 (Or.inl ne_o0_b3)).keep K70 nin0).other W71 (Or.inr (slot_ne (Or.inr (hw _ (List.mem_of_getElem? (i := 21) rfl))) (Or.inr (hw _ (List.mem_of_getElem? (i := 40) rfl))) (by decide) (t := .int) (t' := (.array .long)) (by decide) (by decide))))
  exact Outs.retV X71 hx hret (hb hby d3_50) hlk (by decide) (by decide) e71 ⟨rfl, N71, (((((((((((((((((((((((((((((((((((((Keep.refl h0 [o0]).wr W2 (Or.inl (List.mem_of_getElem? (i := 0) rfl))).ext E3).wr W6 (Or.inr sz_b3)).wr W8 (Or.inr sz_b3)).wr W10 (Or.inr sz_b3)).wr W12 (Or.inr sz_b3)).wr W14 (Or.inr sz_b3)).wr W16 (Or.inr sz_b3)).wr W18 (Or.inr sz_b3)).wr W20 (Or.inr sz_b3)).wr W22 (Or.inr sz_b3)).wr W24 (Or.inr sz_b3)).wr W26 (Or.inr sz_b3)).wr W28 (Or.inr sz_b3)).wr W30 (Or.inr sz_b3)).wr W32 (Or.inr sz_b3)).wr W34 (Or.inr sz_b3)).wr W36 (Or.inr sz_b3)).wr W38 (Or.inr sz_b3)).wr W40 (Or.inr sz_b3)).wr W42 (Or.inr sz_b3)).wr W44 (Or.inr sz_b3)).wr W46 (Or.inr sz_b3)).wr W48 (Or.inr sz_b3)).wr W50 (Or.inr sz_b3)).wr W52 (Or.inr sz_b3)).wr W54 (Or.inr sz_b3)).wr W56 (Or.inr sz_b3)).wr W58 (Or.inr sz_b3)).wr W60 (Or.inr sz_b3)).wr W62 (Or.inr sz_b3)).wr W64 (Or.inr sz_b3)).wr W66 (Or.inr sz_b3)).wr W68 (Or.inr sz_b3)).trans K70 all0).wr W71 (Or.inl (List.mem_of_getElem? (i := 0) rfl))), f74, f75⟩
def cp3_g28 (g : Nat → Int64) : Nat → Int64 := (fun j_ => if j_ < 22 then g j_ else (fun _ => (0 : Int64)) j_)
def Q_cp3 (Z : State) (o0 : Addr) (g : Nat → Int64) (h0 : Heap) (n0 : Nat) (v : Option Value) (h : Heap) (L : List Loc) : Prop := ∃ b1 : Addr, n0 ≤ b1 ∧ h0.size ≤ b1 ∧ v = some (.ref b1) ∧ Fr n0 L ∧ Keep h0 h [] ∧ AJ Z h b1 .long 22 (cp3_g28 g)
set_option maxRecDepth 65536 in
set_option maxHeartbeats 40000000 in
theorem rmcp3 (l : Launch) (Z : State) (a0 : Array Value) (hw : ∀ d ∈ tables_1, d.before a0 Z = true) (ws : List Jvm.Cond) (o0 : Addr) (g : Nat → Int64) (h0 : Heap) (n0 : Nat) (Z0 : n0 ≤ h0.size) (A_o0 : AJ Z h0 o0 .long 33 g) :
    MetFree l (⟨"java/util/Arrays", "copyOf", "([JI)[J"⟩ : MethodName) (head1 (Jvm.Cond.code (⟨"java/util/Arrays", "copyOf", "([JI)[J"⟩ : MethodName) jdk_65_method_124_code 3 (some (.array .long)) :: ws) ({ frames := 1, cells := 1, slots := 22, locals := 18 } : Room)) (fun a U => a = #[(.ref o0), (.int (22 : Int32))] ∧ Z.Warmed39 U.vm ∧ U.heap = h0) (fun _ _ _ _ _ => True) (fun _ U o U' => ∃ v L, o = .returned v ∧ Q_cp3 Z o0 g h0 n0 v U'.heap L ∧ FrameEnd U o U' L ({ frames := 1, cells := 1, slots := 22, locals := 18 } : Room).cells ({ frames := 1, cells := 1, slots := 22, locals := 18 } : Room).slots) := by
  refine MetFree.of_bodySF (plainFor_of_name pn_6) hisR ?_
  intro p e s m args below meth c s₁ Bd hml0 hP hK
  obtain ⟨rfl, hZ, hh⟩ := hP
  have hx := Bd.exec
  have hby := Bd.bytes
  have hml : c.maxLocals = 3 := hml0
  have hown : s.vm.findClass "java/util/Arrays" = some m.cls := findClass_of_methodNamed Bd.named
  have hnm := (name_of_methodNamed Bd.named Bd.method).1
  have hret := Bd.returns
  have hlk : meth.locks = false := BodyLoose.notSynchronized Bd
  have X0 : Stand p l e ({ frames := 1, cells := 1, slots := 22, locals := 18 } : Room) s m #[(.ref o0), (.int (22 : Int32))] below meth c s₁ [] 0 0 := Stand.of_body Bd
  have e0 : s₁.heap = h0 := by rw [← hh, Bd.state]; rfl
  have N0 := Fr.nil n0
  show Outs p e below s (Q_cp3 Z o0 g h0 n0) _ _ _
  refine Outs.of (U' := s₁.setTop (mkF m 0 #[.val (.ref o0), .val (.int (22 : Int32)), .unset] [])) (fun t k => castTop (ef_6 m o0 (22 : Int32)) k) ?_
  refine Outs.of (U' := s₁.setTop (mkF m 2 #[.val (.ref o0), .val (.int (22 : Int32)), .unset] [(.ref o0), (.int (22 : Int32))])) (fun t k => ?_) ?_
  · refine XS.iloadN X0.here hx rfl (hb hby d6_0) rfl ?_
    refine XS.aloadN X0.here hx rfl (hb hby d6_1) rfl rfl ?_
    exact k
  refine Outs.of (alen X0 hx hZ e0 A_o0 (z := (33 : Int32)) rfl (f := (mkF m 2 #[.val (.ref o0), .val (.int (22 : Int32)), .unset] [(.ref o0), (.int (22 : Int32))])) rfl rfl (hb hby d6_2)) ?_
  show Outs p e below s _ _ _ (s₁.setTop (mkF m 3 #[.val (.ref o0), .val (.int (22 : Int32)), .unset] [(.int (33 : Int32)), (.int (22 : Int32))]))
  refine Outs.of (U' := s₁.setTop (mkF m 15 #[.val (.ref o0), .val (.int (22 : Int32)), .unset] [(.int (22 : Int32))])) (fun t k => ?_) ?_
  · refine XS.icmpYes X0.here hx rfl (pc0 := 3) (pc' := 14) rfl (hb hby d6_3) rfl (feq (show ¬ ((22 : Int32) = (33 : Int32)) from (by decide))).2 (by decide) (by decide) ?_
    refine XS.iloadN X0.here hx rfl (hb hby d6_14) rfl ?_
    exact k
  obtain ⟨T1, h1, X1, e1, E1, A1, st1⟩ := newAF X0 hx hZ (aty := .long) (hw _ (List.mem_of_getElem? (i := 22) rfl)) e0 (f := (mkF m 15 #[.val (.ref o0), .val (.int (22 : Int32)), .unset] [(.int (22 : Int32))])) rfl (hb hby d6_15) rfl (k := 22) rfl (cap := 22) (by decide) (by decide) (by decide) (by decide)
  obtain ⟨b1, g1⟩ : ∃ z, z = h0.size := ⟨_, rfl⟩
  rw [← g1] at A1 st1
  have g_b1 : n0 ≤ b1 := Nat.le_trans Z0 (Nat.le_of_eq g1.symm)
  have sz_b1 : h0.size ≤ b1 := Nat.le_trans (Keep.refl h0 []).1 (Nat.le_of_eq g1.symm)
  have ne_o0_b1 : o0 ≠ b1 := Nat.ne_of_lt (Nat.lt_of_lt_of_eq A_o0.lt g1.symm)
  have V1 : AJ Z h1 b1 .long 22 (fun _ => (0 : Int64)) := A1
  refine Outs.of st1 ?_
  show Outs p e below s _ _ _ (T1.setTop (mkF m 17 #[.val (.ref o0), .val (.int (22 : Int32)), .unset] [(.ref b1)]))
  refine Outs.of (U' := T1.setTop (mkF m 23 #[.val (.ref o0), .val (.int (22 : Int32)), .val (.ref b1)] [(.ref o0), (.int (0 : Int32)), (.ref b1), (.int (0 : Int32)), (.ref o0)])) (fun t k => ?_) ?_
  · refine XS.astoreN X1.here hx rfl (hb hby d6_17) rfl rfl (l' := #[.val (.ref o0), .val (.int (22 : Int32)), .val (.ref b1)]) rfl ?_
    refine XS.aloadN X1.here hx rfl (hb hby d6_18) rfl rfl ?_
    refine XS.iconst X1.here hx rfl (hb hby d6_19) ?_
    refine XS.aloadN X1.here hx rfl (hb hby d6_20) rfl rfl ?_
    refine XS.iconst X1.here hx rfl (hb hby d6_21) ?_
    refine XS.aloadN X1.here hx rfl (hb hby d6_22) rfl rfl ?_
    exact k
  have f2 : AJ Z h1 o0 .long 33 g := (A_o0.ext E1)
  refine Outs.of (alen X1 hx hZ e1 f2 (z := (33 : Int32)) rfl (f := (mkF m 23 #[.val (.ref o0), .val (.int (22 : Int32)), .val (.ref b1)] [(.ref o0), (.int (0 : Int32)), (.ref b1), (.int (0 : Int32)), (.ref o0)])) rfl rfl (hb hby d6_23)) ?_
  show Outs p e below s _ _ _ (T1.setTop (mkF m 24 #[.val (.ref o0), .val (.int (22 : Int32)), .val (.ref b1)] [(.int (33 : Int32)), (.int (0 : Int32)), (.ref b1), (.int (0 : Int32)), (.ref o0)]))
  refine Outs.of (U' := T1.setTop (mkF m 25 #[.val (.ref o0), .val (.int (22 : Int32)), .val (.ref b1)] [(.int (22 : Int32)), (.int (33 : Int32)), (.int (0 : Int32)), (.ref b1), (.int (0 : Int32)), (.ref o0)])) (fun t k => ?_) ?_
  · refine XS.iloadN X1.here hx rfl (hb hby d6_24) rfl ?_
    exact k
  obtain ⟨_, _, ⟨T3, L3, k3, n3⟩, -, X3, ⟨Lc3, hQ3, l3, y3, z3⟩, st3⟩ := Jvm.LawKit.callS X1 hx (y := (⟨"java/lang/Math", "min", "(II)I"⟩ : MethodName)) hown (mvT hZ (hw _ (List.mem_of_getElem? (i := 32) rfl))) (mvT hZ (hw _ (List.mem_of_getElem? (i := 33) rfl))) (mvT hZ (hw _ (List.mem_of_getElem? (i := 8) rfl))) (mvT hZ (hw _ (List.mem_of_getElem? (i := 34) rfl))) (by decide) (backOf (W := 4) (rm7 l Z a0 hw [] (33 : Int32) (22 : Int32) h1 n0 ) hZ (hw _ (List.mem_of_getElem? (i := 34) rfl)) (hw _ (List.mem_of_getElem? (i := 8) rfl)) (by decide) (by decide)) (g := (mkF m 25 #[.val (.ref o0), .val (.int (22 : Int32)), .val (.ref b1)] [(.int (22 : Int32)), (.int (33 : Int32)), (.int (0 : Int32)), (.ref b1), (.int (0 : Int32)), (.ref o0)])) rfl (by rw [hml]; rfl) (argsL := [(.int (33 : Int32)), (.int (22 : Int32))]) (rest := [(.int (0 : Int32)), (.ref b1), (.int (0 : Int32)), (.ref o0)]) (lenOf pd_5 rfl) rfl (by show 2 * 0 + _ ≤ _; exact Nat.le_of_eq rfl) (hb hby d6_25) (fun _ _ => ⟨rfl, e1, (by decide : 1 + 0 ≤ _), (by decide : 22 + 0 ≤ _)⟩)
  dsimp only [Pt.U, Pt.locs, Pt.cells, Pt.slots] at X3 l3 y3 z3 st3 hQ3
  subst l3 y3 z3
  obtain ⟨rfl, N3q, e3⟩ := hQ3
  have N3 := Fr.app N0 N3q
  obtain ⟨Lh3, X3, N3⟩ := hide X3 N3 (C := 1) (S := 22) (by decide) (by decide)
  refine Outs.of st3 ?_
  show Outs p e below s _ _ _ (T3.setTop (mkF m 28 #[.val (.ref o0), .val (.int (22 : Int32)), .val (.ref b1)] [(.int (22 : Int32)), (.int (0 : Int32)), (.ref b1), (.int (0 : Int32)), (.ref o0)]))
  obtain ⟨T4, h4, Lc4, X4, e4, N4, K4, V4, st4⟩ := cpJ X3 hx hZ hown (hw _ (List.mem_of_getElem? (i := 35) rfl)) (hw _ (List.mem_of_getElem? (i := 38) rfl)) (hw _ (List.mem_of_getElem? (i := 36) rfl)) (hw _ (List.mem_of_getElem? (i := 37) rfl)) e3 f2 V1 (nn := (22 : Int32)) (k := 22) rfl (by decide) (by decide) N3 g_b1 (f := (mkF m 28 #[.val (.ref o0), .val (.int (22 : Int32)), .val (.ref b1)] [(.int (22 : Int32)), (.int (0 : Int32)), (.ref b1), (.int (0 : Int32)), (.ref o0)])) rfl (by rw [hml]; rfl) rfl (hb hby d6_28) (by decide) (W := 0) (by show 2 * 0 + _ ≤ _; exact Nat.le_of_eq rfl) (by decide)
  replace V4 : AJ Z h4 b1 .long 22 (cp3_g28 g) := V4
  obtain ⟨Lh4, X4, N4⟩ := hide X4 N4 (C := 1) (S := 22) (by decide) (by decide)
  refine Outs.of st4 ?_
  show Outs p e below s _ _ _ (T4.setTop (mkF m 31 #[.val (.ref o0), .val (.int (22 : Int32)), .val (.ref b1)] []))
  refine Outs.of (U' := T4.setTop (mkF m 32 #[.val (.ref o0), .val (.int (22 : Int32)), .val (.ref b1)] [(.ref b1)])) (fun t k => ?_) ?_
  · refine XS.aloadN X4.here hx rfl (hb hby d6_31) rfl rfl ?_
    exact k
  exact Outs.retA (w := (.ref b1)) X4 hx hret rfl rfl rfl (hb hby d6_32) hlk (by decide) (by decide) e4 ⟨b1, g_b1, sz_b1, rfl, N4, (((Keep.refl h0 []).ext E1).trans K4 (allS (Or.inr sz_b1) all0)), V4⟩
def ct3_g25  : Nat → Int64 := (upv (fun _ => (0 : Int64)) 0 ((F_f5 (3 : Int32) (0 : Int32)) + (1 : Int64)))
def ct3_g25a  : Nat → Int64 := (upv ct3_g25 1 ((F_f5 (3 : Int32) (1 : Int32)) + (1 : Int64)))
def ct3_g25b  : Nat → Int64 := (upv ct3_g25a 2 ((F_f5 (3 : Int32) (2 : Int32)) + (1 : Int64)))
def ct3_g25c  : Nat → Int64 := (upv ct3_g25b 3 ((F_f5 (3 : Int32) (3 : Int32)) + (1 : Int64)))
def ct3_g25d  : Nat → Int64 := (upv ct3_g25c 4 ((F_f5 (3 : Int32) (4 : Int32)) + (1 : Int64)))
def ct3_g25e  : Nat → Int64 := (upv ct3_g25d 5 ((F_f5 (3 : Int32) (5 : Int32)) + (1 : Int64)))
def ct3_g25f  : Nat → Int64 := (upv ct3_g25e 6 ((F_f5 (3 : Int32) (6 : Int32)) + (1 : Int64)))
def ct3_g25g  : Nat → Int64 := (upv ct3_g25f 7 ((F_f5 (3 : Int32) (7 : Int32)) + (1 : Int64)))
def ct3_g25h  : Nat → Int64 := (upv ct3_g25g 8 ((F_f5 (3 : Int32) (8 : Int32)) + (1 : Int64)))
def ct3_g25i  : Nat → Int64 := (upv ct3_g25h 9 ((F_f5 (3 : Int32) (9 : Int32)) + (1 : Int64)))
def ct3_g25j  : Nat → Int64 := (upv ct3_g25i 10 ((F_f5 (3 : Int32) (10 : Int32)) + (1 : Int64)))
def ct3_g25k  : Nat → Int64 := (upv ct3_g25j 11 ((F_f5 (3 : Int32) (11 : Int32)) + (1 : Int64)))
def ct3_g25l  : Nat → Int64 := (upv ct3_g25k 12 ((F_f5 (3 : Int32) (12 : Int32)) + (1 : Int64)))
def ct3_g25m  : Nat → Int64 := (upv ct3_g25l 13 ((F_f5 (3 : Int32) (13 : Int32)) + (1 : Int64)))
def ct3_g25n  : Nat → Int64 := (upv ct3_g25m 14 ((F_f5 (3 : Int32) (14 : Int32)) + (1 : Int64)))
def ct3_g25o  : Nat → Int64 := (upv ct3_g25n 15 ((F_f5 (3 : Int32) (15 : Int32)) + (1 : Int64)))
def ct3_g25p  : Nat → Int64 := (upv ct3_g25o 16 ((F_f5 (3 : Int32) (16 : Int32)) + (1 : Int64)))
def ct3_g25q  : Nat → Int64 := (upv ct3_g25p 17 ((F_f5 (3 : Int32) (17 : Int32)) + (1 : Int64)))
def ct3_g25r  : Nat → Int64 := (upv ct3_g25q 18 ((F_f5 (3 : Int32) (18 : Int32)) + (1 : Int64)))
def ct3_g25s  : Nat → Int64 := (upv ct3_g25r 19 ((F_f5 (3 : Int32) (19 : Int32)) + (1 : Int64)))
def ct3_g25t  : Nat → Int64 := (upv ct3_g25s 20 ((F_f5 (3 : Int32) (20 : Int32)) + (1 : Int64)))
def ct3_g25u  : Nat → Int64 := (upv ct3_g25t 21 ((F_f5 (3 : Int32) (21 : Int32)) + (1 : Int64)))
def Q_ct3 (Z : State) (o0 : Addr) (h0 : Heap) (n0 : Nat) (v : Option Value) (h : Heap) (L : List Loc) : Prop := v = none ∧ Fr n0 L ∧ Keep h0 h [o0] ∧ Exa Z h o0 "com/example/bitmend/bitmend/PositionalColumns" ∧ Fld Z h o0 "com/example/bitmend/bitmend/PositionalColumns" "fieldSize" "I" (.int (3 : Int32))
set_option maxRecDepth 65536 in
set_option maxHeartbeats 40000000 in
theorem rmct3 (l : Launch) (Z : State) (a0 : Array Value) (hw : ∀ d ∈ tables_1, d.before a0 Z = true) (ws : List Jvm.Cond) (o0 : Addr)  (h0 : Heap) (n0 : Nat) (Z0 : n0 ≤ h0.size) (E_o0 : Exa Z h0 o0 "com/example/bitmend/bitmend/PositionalColumns") (g_o0 : n0 ≤ o0) (F_o0_fieldSize : Fld Z h0 o0 "com/example/bitmend/bitmend/PositionalColumns" "fieldSize" "I" (.int (0 : Int32))) (F_o0_checkPositions : Fld Z h0 o0 "com/example/bitmend/bitmend/PositionalColumns" "checkPositions" "[J" .null) :
    MetFree l (⟨"com/example/bitmend/bitmend/PositionalColumns", "<init>", "(I)V"⟩ : MethodName) (head1 (Jvm.Cond.code (⟨"com/example/bitmend/bitmend/PositionalColumns", "<init>", "(I)V"⟩ : MethodName) prog_34_method_1_code 4 none :: ws) ({ frames := 2, cells := 2, slots := 55, locals := 33 } : Room)) (fun a U => a = #[(.ref o0), (.int (3 : Int32))] ∧ Z.Warmed39 U.vm ∧ U.heap = h0) (fun _ _ _ _ _ => True) (fun _ U o U' => ∃ v L, o = .returned v ∧ Q_ct3 Z o0 h0 n0 v U'.heap L ∧ FrameEnd U o U' L ({ frames := 2, cells := 2, slots := 55, locals := 33 } : Room).cells ({ frames := 2, cells := 2, slots := 55, locals := 33 } : Room).slots) := by
  refine MetFree.of_bodySF (plainFor_of_name pn_3) hisR ?_
  intro p e s m args below meth c s₁ Bd hml0 hP hK
  obtain ⟨rfl, hZ, hh⟩ := hP
  have hx := Bd.exec
  have hby := Bd.bytes
  have hml : c.maxLocals = 4 := hml0
  have hown : s.vm.findClass "com/example/bitmend/bitmend/PositionalColumns" = some m.cls := findClass_of_methodNamed Bd.named
  have hnm := (name_of_methodNamed Bd.named Bd.method).1
  have hret := Bd.returns
  have hlk : meth.locks = false := BodyLoose.notSynchronized Bd
  have X0 : Stand p l e ({ frames := 2, cells := 2, slots := 55, locals := 33 } : Room) s m #[(.ref o0), (.int (3 : Int32))] below meth c s₁ [] 0 0 := Stand.of_body Bd
  have e0 : s₁.heap = h0 := by rw [← hh, Bd.state]; rfl
  have N0 := Fr.nil n0
  show Outs p e below s (Q_ct3 Z o0 h0 n0) _ _ _
  refine Outs.of (U' := s₁.setTop (mkF m 0 #[.val (.ref o0), .val (.int (3 : Int32)), .unset, .unset] [])) (fun t k => castTop (ef_3 m o0 (3 : Int32)) k) ?_
  refine Outs.of (U' := s₁.setTop (mkF m 1 #[.val (.ref o0), .val (.int (3 : Int32)), .unset, .unset] [(.ref o0)])) (fun t k => ?_) ?_
  · refine XS.aloadN X0.here hx rfl (hb hby d3_0) rfl rfl ?_
    exact k
  obtain ⟨T1, X1, e1, st1⟩ := initO X0 hx hZ hown (hw _ (List.mem_of_getElem? (i := 17) rfl)) (hw _ (List.mem_of_getElem? (i := 18) rfl)) (hw _ (List.mem_of_getElem? (i := 19) rfl)) e0 (g := (mkF m 1 #[.val (.ref o0), .val (.int (3 : Int32)), .unset, .unset] [(.ref o0)])) rfl (by rw [hml]; rfl) rfl (hb hby d3_1) (by decide) (W := 0) (by show 2 * 0 + _ ≤ _; exact Nat.le_of_eq rfl) (by decide)
  refine Outs.of st1 ?_
  show Outs p e below s _ _ _ (T1.setTop (mkF m 4 #[.val (.ref o0), .val (.int (3 : Int32)), .unset, .unset] []))
  refine Outs.of (U' := T1.setTop (mkF m 6 #[.val (.ref o0), .val (.int (3 : Int32)), .unset, .unset] [(.int (3 : Int32)), (.ref o0)])) (fun t k => ?_) ?_
  · refine XS.aloadN X1.here hx rfl (hb hby d3_4) rfl rfl ?_
    refine XS.iloadN X1.here hx rfl (hb hby d3_5) rfl ?_
    exact k
  obtain ⟨T2, h2, X2, e2, W2, st2⟩ := putF X1 hx hZ hown (host := "") (Or.inl (hw _ (List.mem_of_getElem? (i := 20) rfl))) Via.refl e1 F_o0_fieldSize E_o0 (Or.inr ⟨(hw _ (List.mem_of_getElem? (i := 21) rfl)), rfl, hnm⟩) (hw _ (List.mem_of_getElem? (i := 12) rfl)) (ty := .int) (by decide) rfl rfl (g := (mkF m 6 #[.val (.ref o0), .val (.int (3 : Int32)), .unset, .unset] [(.int (3 : Int32)), (.ref o0)])) rfl rfl (hb hby d3_6)
  have F2 : Fld Z h2 o0 "com/example/bitmend/bitmend/PositionalColumns" "fieldSize" "I" (.int (3 : Int32)) := F_o0_fieldSize.same W2
  have N2 := Fr.snoc X2 N0 g_o0
  obtain ⟨Lh2, X2, N2⟩ := hide X2 N2 (C := 0) (S := 0) (by decide) (by decide)
  refine Outs.of st2 ?_
  show Outs p e below s _ _ _ (T2.setTop (mkF m 9 #[.val (.ref o0), .val (.int (3 : Int32)), .unset, .unset] []))
  refine Outs.of (U' := T2.setTop (mkF m 11 #[.val (.ref o0), .val (.int (3 : Int32)), .unset, .unset] [(.int (33 : Int32))])) (fun t k => ?_) ?_
  · refine XS.bipush X2.here hx rfl (hb hby d3_9) ?_
    exact k
  have f4 : Exa Z h2 o0 "com/example/bitmend/bitmend/PositionalColumns" := (E_o0.wr W2)
  obtain ⟨T3, h3, X3, e3, E3, A3, st3⟩ := newAF X2 hx hZ (aty := .long) (hw _ (List.mem_of_getElem? (i := 22) rfl)) e2 (f := (mkF m 11 #[.val (.ref o0), .val (.int (3 : Int32)), .unset, .unset] [(.int (33 : Int32))])) rfl (hb hby d3_11) rfl (k := 33) rfl (cap := 33) (by decide) (by decide) (by decide) (by decide)
  obtain ⟨b3, g3⟩ : ∃ z, z = h2.size := ⟨_, rfl⟩
  rw [← g3] at A3 st3
  have g_b3 : n0 ≤ b3 := Nat.le_trans (Nat.le_trans Z0 (Keep.of_wr W2).1) (Nat.le_of_eq g3.symm)
  have sz_b3 : h0.size ≤ b3 := Nat.le_trans ((Keep.refl h0 [o0]).wr W2 (Or.inl (List.mem_of_getElem? (i := 0) rfl))).1 (Nat.le_of_eq g3.symm)
  have ne_o0_b3 : o0 ≠ b3 := Nat.ne_of_lt (Nat.lt_of_lt_of_eq f4.lt g3.symm)
  have V3 : AJ Z h3 b3 .long 33 (fun _ => (0 : Int64)) := A3
  refine Outs.of st3 ?_
  show Outs p e below s _ _ _ (T3.setTop (mkF m 13 #[.val (.ref o0), .val (.int (3 : Int32)), .unset, .unset] [(.ref b3)]))
  refine Outs.of (U' := T3.setTop (mkF m 20 #[.val (.ref o0), .val (.int (3 : Int32)), .val (.ref b3), .val (.int (0 : Int32))] [(.int (0 : Int32)), (.int (3 : Int32)), (.int (0 : Int32)), (.ref b3)])) (fun t k => ?_) ?_
  · refine XS.astoreN X3.here hx rfl (hb hby d3_13) rfl rfl (l' := #[.val (.ref o0), .val (.int (3 : Int32)), .val (.ref b3), .unset]) rfl ?_
    refine XS.iconst X3.here hx rfl (hb hby d3_14) ?_
    refine XS.istoreN X3.here hx rfl (hb hby d3_15) rfl (l' := #[.val (.ref o0), .val (.int (3 : Int32)), .val (.ref b3), .val (.int (0 : Int32))]) rfl ?_
    refine XS.aloadN X3.here hx rfl (hb hby d3_16) rfl rfl ?_
    refine XS.iloadN X3.here hx rfl (hb hby d3_17) rfl ?_
    refine XS.iloadN X3.here hx rfl (hb hby d3_18) rfl ?_
    refine XS.iloadN X3.here hx rfl (hb hby d3_19) rfl ?_
    exact k
  obtain ⟨_, _, ⟨T5, L5, k5, n5⟩, -, X5, ⟨Lc5, hQ5, l5, y5, z5⟩, st5⟩ := Jvm.LawKit.callS X3 hx (y := (⟨"com/example/bitmend/bitmend/CodeParameters", "columns", "(II)J"⟩ : MethodName)) hown (mvT hZ (hw _ (List.mem_of_getElem? (i := 23) rfl))) (mvT hZ (hw _ (List.mem_of_getElem? (i := 24) rfl))) (mvT hZ (hw _ (List.mem_of_getElem? (i := 25) rfl))) (mvT hZ (hw _ (List.mem_of_getElem? (i := 26) rfl))) (by decide) (backOf (W := 2) (rm5 l Z a0 hw [] (3 : Int32) (0 : Int32) h3 n0 (by decide)) hZ (hw _ (List.mem_of_getElem? (i := 26) rfl)) (hw _ (List.mem_of_getElem? (i := 25) rfl)) (by decide) (by decide)) (g := (mkF m 20 #[.val (.ref o0), .val (.int (3 : Int32)), .val (.ref b3), .val (.int (0 : Int32))] [(.int (0 : Int32)), (.int (3 : Int32)), (.int (0 : Int32)), (.ref b3)])) rfl (by rw [hml]; rfl) (argsL := [(.int (3 : Int32)), (.int (0 : Int32))]) (rest := [(.int (0 : Int32)), (.ref b3)]) (lenOf pd_0 rfl) rfl (by show 2 * 0 + _ ≤ _; exact Nat.le_of_eq rfl) (hb hby d3_20) (fun _ _ => ⟨rfl, e3, (by decide : 1 + 0 ≤ _), (by decide : 33 + 0 ≤ _)⟩)
  dsimp only [Pt.U, Pt.locs, Pt.cells, Pt.slots] at X5 l5 y5 z5 st5 hQ5
  subst l5 y5 z5
  obtain ⟨rfl, N5q, e5⟩ := hQ5
  have N5 := Fr.app N2 N5q
  obtain ⟨Lh5, X5, N5⟩ := hide X5 N5 (C := 1) (S := 33) (by decide) (by decide)
  refine Outs.of st5 ?_
  show Outs p e below s _ _ _ (T5.setTop (mkF m 23 #[.val (.ref o0), .val (.int (3 : Int32)), .val (.ref b3), .val (.int (0 : Int32))] [(.long (F_f5 (3 : Int32) (0 : Int32))), (.int (0 : Int32)), (.ref b3)]))
  refine Outs.of (U' := T5.setTop (mkF m 25 #[.val (.ref o0), .val (.int (3 : Int32)), .val (.ref b3), .val (.int (0 : Int32))] [(.long ((F_f5 (3 : Int32) (0 : Int32)) + (1 : Int64))), (.int (0 : Int32)), (.ref b3)])) (fun t k => ?_) ?_
  · refine XS.lconst X5.here hx rfl (hb hby d3_23) ?_
    refine XS.ladd X5.here hx rfl (hb hby d3_24) rfl ?_
    exact k
  obtain ⟨T6, h6, X6, e6, W6, V6, st6⟩ := puJ X5 hx hZ e5 V3 (j := (0 : Int32)) (x := ((F_f5 (3 : Int32) (0 : Int32)) + (1 : Int64))) (k := 0) rfl (by decide) (f := (mkF m 25 #[.val (.ref o0), .val (.int (3 : Int32)), .val (.ref b3), .val (.int (0 : Int32))] [(.long ((F_f5 (3 : Int32) (0 : Int32)) + (1 : Int64))), (.int (0 : Int32)), (.ref b3)])) rfl rfl (hb hby d3_25)
  replace V6 : AJ Z h6 b3 .long 33 ct3_g25 := V6
  have N6 := Fr.snoc X6 N5 g_b3
  obtain ⟨Lh6, X6, N6⟩ := hide X6 N6 (C := 1) (S := 33) (by decide) (by decide)
  refine Outs.of st6 ?_
  show Outs p e below s _ _ _ (T6.setTop (mkF m 26 #[.val (.ref o0), .val (.int (3 : Int32)), .val (.ref b3), .val (.int (0 : Int32))] []))
  refine Outs.of (U' := T6.setTop (mkF m 33 #[.val (.ref o0), .val (.int (3 : Int32)), .val (.ref b3), .val (.int (1 : Int32))] [(.int (0 : Int32)), (.ref b3)])) (fun t k => ?_) ?_
  · refine XS.iinc X6.here hx rfl (hb hby d3_26) rfl (l' := #[.val (.ref o0), .val (.int (3 : Int32)), .val (.ref b3), .val (.int (1 : Int32))]) rfl ?_
    refine XS.aloadN X6.here hx rfl (hb hby d3_29) rfl rfl ?_
    refine XS.iloadN X6.here hx rfl (hb hby d3_30) rfl ?_
    refine XS.iconst X6.here hx rfl (hb hby d3_31) ?_
    refine XS.isub X6.here hx rfl (hb hby d3_32) rfl ?_
    exact k
  refine Outs.of (ldJ X6 hx hZ e6 V6 (j := (0 : Int32)) (k := 0) rfl (by decide) (f := (mkF m 33 #[.val (.ref o0), .val (.int (3 : Int32)), .val (.ref b3), .val (.int (1 : Int32))] [(.int (0 : Int32)), (.ref b3)])) rfl rfl (hb hby d3_33)) ?_
  show Outs p e below s _ _ _ (T6.setTop (mkF m 34 #[.val (.ref o0), .val (.int (3 : Int32)), .val (.ref b3), .val (.int (1 : Int32))] [(.long (ct3_g25 0))]))
  refine Outs.of (U' := T6.setTop (mkF m 20 #[.val (.ref o0), .val (.int (3 : Int32)), .val (.ref b3), .val (.int (1 : Int32))] [(.int (1 : Int32)), (.int (3 : Int32)), (.int (1 : Int32)), (.ref b3)])) (fun t k => ?_) ?_
  · refine X6.ldc2Long hx hown (mvT hZ (hw _ (List.mem_of_getElem? (i := 27) rfl))) (g := (mkF m 34 #[.val (.ref o0), .val (.int (3 : Int32)), .val (.ref b3), .val (.int (1 : Int32))] [(.long (ct3_g25 0))])) rfl (hb hby d3_34) _ ?_
    refine XS.lcmp X6.here hx rfl (hb hby d3_37) rfl ?_
    refine XS.ifYes X6.here hx rfl (pc0 := 38) (pc' := 16) rfl (hb hby d3_38) rfl ((if0 _ _).trans (flt (fun q_ => (show ¬ ((2147483647 : Int64) < (ct3_g25 0)) from (by decide +kernel)) ((lw_gt _ _).mp q_))).2.2.2) (by decide) (by decide) ?_
    refine XS.aloadN X6.here hx rfl (hb hby d3_16) rfl rfl ?_
    refine XS.iloadN X6.here hx rfl (hb hby d3_17) rfl ?_
    refine XS.iloadN X6.here hx rfl (hb hby d3_18) rfl ?_
    refine XS.iloadN X6.here hx rfl (hb hby d3_19) rfl ?_
    exact k
  obtain ⟨_, _, ⟨T7, L7, k7, n7⟩, -, X7, ⟨Lc7, hQ7, l7, y7, z7⟩, st7⟩ := Jvm.LawKit.callS X6 hx (y := (⟨"com/example/bitmend/bitmend/CodeParameters", "columns", "(II)J"⟩ : MethodName)) hown (mvT hZ (hw _ (List.mem_of_getElem? (i := 23) rfl))) (mvT hZ (hw _ (List.mem_of_getElem? (i := 24) rfl))) (mvT hZ (hw _ (List.mem_of_getElem? (i := 25) rfl))) (mvT hZ (hw _ (List.mem_of_getElem? (i := 26) rfl))) (by decide) (backOf (W := 2) (rm5 l Z a0 hw [] (3 : Int32) (1 : Int32) h6 n0 (by decide)) hZ (hw _ (List.mem_of_getElem? (i := 26) rfl)) (hw _ (List.mem_of_getElem? (i := 25) rfl)) (by decide) (by decide)) (g := (mkF m 20 #[.val (.ref o0), .val (.int (3 : Int32)), .val (.ref b3), .val (.int (1 : Int32))] [(.int (1 : Int32)), (.int (3 : Int32)), (.int (1 : Int32)), (.ref b3)])) rfl (by rw [hml]; rfl) (argsL := [(.int (3 : Int32)), (.int (1 : Int32))]) (rest := [(.int (1 : Int32)), (.ref b3)]) (lenOf pd_0 rfl) rfl (by show 2 * 0 + _ ≤ _; exact Nat.le_of_eq rfl) (hb hby d3_20) (fun _ _ => ⟨rfl, e6, (by decide : 1 + 0 ≤ _), (by decide : 33 + 0 ≤ _)⟩)
  dsimp only [Pt.U, Pt.locs, Pt.cells, Pt.slots] at X7 l7 y7 z7 st7 hQ7
  subst l7 y7 z7
  obtain ⟨rfl, N7q, e7⟩ := hQ7
  have N7 := Fr.app N6 N7q
  obtain ⟨Lh7, X7, N7⟩ := hide X7 N7 (C := 1) (S := 33) (by decide) (by decide)
  refine Outs.of st7 ?_
  show Outs p e below s _ _ _ (T7.setTop (mkF m 23 #[.val (.ref o0), .val (.int (3 : Int32)), .val (.ref b3), .val (.int (1 : Int32))] [(.long (F_f5 (3 : Int32) (1 : Int32))), (.int (1 : Int32)), (.ref b3)]))
  refine Outs.of (U' := T7.setTop (mkF m 25 #[.val (.ref o0), .val (.int (3 : Int32)), .val (.ref b3), .val (.int (1 : Int32))] [(.long ((F_f5 (3 : Int32) (1 : Int32)) + (1 : Int64))), (.int (1 : Int32)), (.ref b3)])) (fun t k => ?_) ?_
  · refine XS.lconst X7.here hx rfl (hb hby d3_23) ?_
    refine XS.ladd X7.here hx rfl (hb hby d3_24) rfl ?_
    exact k
  obtain ⟨T8, h8, X8, e8, W8, V8, st8⟩ := puJ X7 hx hZ e7 V6 (j := (1 : Int32)) (x := ((F_f5 (3 : Int32) (1 : Int32)) + (1 : Int64))) (k := 1) rfl (by decide) (f := (mkF m 25 #[.val (.ref o0), .val (.int (3 : Int32)), .val (.ref b3), .val (.int (1 : Int32))] [(.long ((F_f5 (3 : Int32) (1 : Int32)) + (1 : Int64))), (.int (1 : Int32)), (.ref b3)])) rfl rfl (hb hby d3_25)
  replace V8 : AJ Z h8 b3 .long 33 ct3_g25a := V8
  have N8 := Fr.snoc X8 N7 g_b3
  obtain ⟨Lh8, X8, N8⟩ := hide X8 N8 (C := 1) (S := 33) (by decide) (by decide)
  refine Outs.of st8 ?_
  show Outs p e below s _ _ _ (T8.setTop (mkF m 26 #[.val (.ref o0), .val (.int (3 : Int32)), .val (.ref b3), .val (.int (1 : Int32))] []))
  refine Outs.of (U' := T8.setTop (mkF m 33 #[.val (.ref o0), .val (.int (3 : Int32)), .val (.ref b3), .val (.int (2 : Int32))] [(.int (1 : Int32)), (.ref b3)])) (fun t k => ?_) ?_
  · refine XS.iinc X8.here hx rfl (hb hby d3_26) rfl (l' := #[.val (.ref o0), .val (.int (3 : Int32)), .val (.ref b3), .val (.int (2 : Int32))]) rfl ?_
    refine XS.aloadN X8.here hx rfl (hb hby d3_29) rfl rfl ?_
    refine XS.iloadN X8.here hx rfl (hb hby d3_30) rfl ?_
    refine XS.iconst X8.here hx rfl (hb hby d3_31) ?_
    refine XS.isub X8.here hx rfl (hb hby d3_32) rfl ?_
    exact k
  refine Outs.of (ldJ X8 hx hZ e8 V8 (j := (1 : Int32)) (k := 1) rfl (by decide) (f := (mkF m 33 #[.val (.ref o0), .val (.int (3 : Int32)), .val (.ref b3), .val (.int (2 : Int32))] [(.int (1 : Int32)), (.ref b3)])) rfl rfl (hb hby d3_33)) ?_
  show Outs p e below s _ _ _ (T8.setTop (mkF m 34 #[.val (.ref o0), .val (.int (3 : Int32)), .val (.ref b3), .val (.int (2 : Int32))] [(.long (ct3_g25a 1))]))
  refine Outs.of (U' := T8.setTop (mkF m 20 #[.val (.ref o0), .val (.int (3 : Int32)), .val (.ref b3), .val (.int (2 : Int32))] [(.int (2 : Int32)), (.int (3 : Int32)), (.int (2 : Int32)), (.ref b3)])) (fun t k => ?_) ?_
  · refine X8.ldc2Long hx hown (mvT hZ (hw _ (List.mem_of_getElem? (i := 27) rfl))) (g := (mkF m 34 #[.val (.ref o0), .val (.int (3 : Int32)), .val (.ref b3), .val (.int (2 : Int32))] [(.long (ct3_g25a 1))])) rfl (hb hby d3_34) _ ?_
    refine XS.lcmp X8.here hx rfl (hb hby d3_37) rfl ?_
    refine XS.ifYes X8.here hx rfl (pc0 := 38) (pc' := 16) rfl (hb hby d3_38) rfl ((if0 _ _).trans (flt (fun q_ => (show ¬ ((2147483647 : Int64) < (ct3_g25a 1)) from (by decide +kernel)) ((lw_gt _ _).mp q_))).2.2.2) (by decide) (by decide) ?_
    refine XS.aloadN X8.here hx rfl (hb hby d3_16) rfl rfl ?_
    refine XS.iloadN X8.here hx rfl (hb hby d3_17) rfl ?_
    refine XS.iloadN X8.here hx rfl (hb hby d3_18) rfl ?_
    refine XS.iloadN X8.here hx rfl (hb hby d3_19) rfl ?_
    exact k
  obtain ⟨_, _, ⟨T9, L9, k9, n9⟩, -, X9, ⟨Lc9, hQ9, l9, y9, z9⟩, st9⟩ := Jvm.LawKit.callS X8 hx (y := (⟨"com/example/bitmend/bitmend/CodeParameters", "columns", "(II)J"⟩ : MethodName)) hown (mvT hZ (hw _ (List.mem_of_getElem? (i := 23) rfl))) (mvT hZ (hw _ (List.mem_of_getElem? (i := 24) rfl))) (mvT hZ (hw _ (List.mem_of_getElem? (i := 25) rfl))) (mvT hZ (hw _ (List.mem_of_getElem? (i := 26) rfl))) (by decide) (backOf (W := 2) (rm5 l Z a0 hw [] (3 : Int32) (2 : Int32) h8 n0 (by decide)) hZ (hw _ (List.mem_of_getElem? (i := 26) rfl)) (hw _ (List.mem_of_getElem? (i := 25) rfl)) (by decide) (by decide)) (g := (mkF m 20 #[.val (.ref o0), .val (.int (3 : Int32)), .val (.ref b3), .val (.int (2 : Int32))] [(.int (2 : Int32)), (.int (3 : Int32)), (.int (2 : Int32)), (.ref b3)])) rfl (by rw [hml]; rfl) (argsL := [(.int (3 : Int32)), (.int (2 : Int32))]) (rest := [(.int (2 : Int32)), (.ref b3)]) (lenOf pd_0 rfl) rfl (by show 2 * 0 + _ ≤ _; exact Nat.le_of_eq rfl) (hb hby d3_20) (fun _ _ => ⟨rfl, e8, (by decide : 1 + 0 ≤ _), (by decide : 33 + 0 ≤ _)⟩)
  dsimp only [Pt.U, Pt.locs, Pt.cells, Pt.slots] at X9 l9 y9 z9 st9 hQ9
  subst l9 y9 z9
  obtain ⟨rfl, N9q, e9⟩ := hQ9
  have N9 := Fr.app N8 N9q
  obtain ⟨Lh9, X9, N9⟩ := hide X9 N9 (C := 1) (S := 33) (by decide) (by decide)
  refine Outs.of st9 ?_
  show Outs p e below s _ _ _ (T9.setTop (mkF m 23 #[.val (.ref o0), .val (.int (3 : Int32)), .val (.ref b3), .val (.int (2 : Int32))] [(.long (F_f5 (3 : Int32) (2 : Int32))), (.int (2 : Int32)), (.ref b3)]))
  refine Outs.of (U' := T9.setTop (mkF m 25 #[.val (.ref o0), .val (.int (3 : Int32)), .val (.ref b3), .val (.int (2 : Int32))] [(.long ((F_f5 (3 : Int32) (2 : Int32)) + (1 : Int64))), (.int (2 : Int32)), (.ref b3)])) (fun t k => ?_) ?_
  · refine XS.lconst X9.here hx rfl (hb hby d3_23) ?_
    refine XS.ladd X9.here hx rfl (hb hby d3_24) rfl ?_
    exact k
  obtain ⟨T10, h10, X10, e10, W10, V10, st10⟩ := puJ X9 hx hZ e9 V8 (j := (2 : Int32)) (x := ((F_f5 (3 : Int32) (2 : Int32)) + (1 : Int64))) (k := 2) rfl (by decide) (f := (mkF m 25 #[.val (.ref o0), .val (.int (3 : Int32)), .val (.ref b3), .val (.int (2 : Int32))] [(.long ((F_f5 (3 : Int32) (2 : Int32)) + (1 : Int64))), (.int (2 : Int32)), (.ref b3)])) rfl rfl (hb hby d3_25)
  replace V10 : AJ Z h10 b3 .long 33 ct3_g25b := V10
  have N10 := Fr.snoc X10 N9 g_b3
  obtain ⟨Lh10, X10, N10⟩ := hide X10 N10 (C := 1) (S := 33) (by decide) (by decide)
  refine Outs.of st10 ?_
  show Outs p e below s _ _ _ (T10.setTop (mkF m 26 #[.val (.ref o0), .val (.int (3 : Int32)), .val (.ref b3), .val (.int (2 : Int32))] []))
  refine Outs.of (U' := T10.setTop (mkF m 33 #[.val (.ref o0), .val (.int (3 : Int32)), .val (.ref b3), .val (.int (3 : Int32))] [(.int (2 : Int32)), (.ref b3)])) (fun t k => ?_) ?_
  · refine XS.iinc X10.here hx rfl (hb hby d3_26) rfl (l' := #[.val (.ref o0), .val (.int (3 : Int32)), .val (.ref b3), .val (.int (3 : Int32))]) rfl ?_
    refine XS.aloadN X10.here hx rfl (hb hby d3_29) rfl rfl ?_
    refine XS.iloadN X10.here hx rfl (hb hby d3_30) rfl ?_
    refine XS.iconst X10.here hx rfl (hb hby d3_31) ?_
    refine XS.isub X10.here hx rfl (hb hby d3_32) rfl ?_
    exact k
  refine Outs.of (ldJ X10 hx hZ e10 V10 (j := (2 : Int32)) (k := 2) rfl (by decide) (f := (mkF m 33 #[.val (.ref o0), .val (.int (3 : Int32)), .val (.ref b3), .val (.int (3 : Int32))] [(.int (2 : Int32)), (.ref b3)])) rfl rfl (hb hby d3_33)) ?_
  show Outs p e below s _ _ _ (T10.setTop (mkF m 34 #[.val (.ref o0), .val (.int (3 : Int32)), .val (.ref b3), .val (.int (3 : Int32))] [(.long (ct3_g25b 2))]))
  refine Outs.of (U' := T10.setTop (mkF m 20 #[.val (.ref o0), .val (.int (3 : Int32)), .val (.ref b3), .val (.int (3 : Int32))] [(.int (3 : Int32)), (.int (3 : Int32)), (.int (3 : Int32)), (.ref b3)])) (fun t k => ?_) ?_
  · refine X10.ldc2Long hx hown (mvT hZ (hw _ (List.mem_of_getElem? (i := 27) rfl))) (g := (mkF m 34 #[.val (.ref o0), .val (.int (3 : Int32)), .val (.ref b3), .val (.int (3 : Int32))] [(.long (ct3_g25b 2))])) rfl (hb hby d3_34) _ ?_
    refine XS.lcmp X10.here hx rfl (hb hby d3_37) rfl ?_
    refine XS.ifYes X10.here hx rfl (pc0 := 38) (pc' := 16) rfl (hb hby d3_38) rfl ((if0 _ _).trans (flt (fun q_ => (show ¬ ((2147483647 : Int64) < (ct3_g25b 2)) from (by decide +kernel)) ((lw_gt _ _).mp q_))).2.2.2) (by decide) (by decide) ?_
    refine XS.aloadN X10.here hx rfl (hb hby d3_16) rfl rfl ?_
    refine XS.iloadN X10.here hx rfl (hb hby d3_17) rfl ?_
    refine XS.iloadN X10.here hx rfl (hb hby d3_18) rfl ?_
    refine XS.iloadN X10.here hx rfl (hb hby d3_19) rfl ?_
    exact k
  obtain ⟨_, _, ⟨T11, L11, k11, n11⟩, -, X11, ⟨Lc11, hQ11, l11, y11, z11⟩, st11⟩ := Jvm.LawKit.callS X10 hx (y := (⟨"com/example/bitmend/bitmend/CodeParameters", "columns", "(II)J"⟩ : MethodName)) hown (mvT hZ (hw _ (List.mem_of_getElem? (i := 23) rfl))) (mvT hZ (hw _ (List.mem_of_getElem? (i := 24) rfl))) (mvT hZ (hw _ (List.mem_of_getElem? (i := 25) rfl))) (mvT hZ (hw _ (List.mem_of_getElem? (i := 26) rfl))) (by decide) (backOf (W := 2) (rm5 l Z a0 hw [] (3 : Int32) (3 : Int32) h10 n0 (by decide)) hZ (hw _ (List.mem_of_getElem? (i := 26) rfl)) (hw _ (List.mem_of_getElem? (i := 25) rfl)) (by decide) (by decide)) (g := (mkF m 20 #[.val (.ref o0), .val (.int (3 : Int32)), .val (.ref b3), .val (.int (3 : Int32))] [(.int (3 : Int32)), (.int (3 : Int32)), (.int (3 : Int32)), (.ref b3)])) rfl (by rw [hml]; rfl) (argsL := [(.int (3 : Int32)), (.int (3 : Int32))]) (rest := [(.int (3 : Int32)), (.ref b3)]) (lenOf pd_0 rfl) rfl (by show 2 * 0 + _ ≤ _; exact Nat.le_of_eq rfl) (hb hby d3_20) (fun _ _ => ⟨rfl, e10, (by decide : 1 + 0 ≤ _), (by decide : 33 + 0 ≤ _)⟩)
  dsimp only [Pt.U, Pt.locs, Pt.cells, Pt.slots] at X11 l11 y11 z11 st11 hQ11
  subst l11 y11 z11
  obtain ⟨rfl, N11q, e11⟩ := hQ11
  have N11 := Fr.app N10 N11q
  obtain ⟨Lh11, X11, N11⟩ := hide X11 N11 (C := 1) (S := 33) (by decide) (by decide)
  refine Outs.of st11 ?_
  show Outs p e below s _ _ _ (T11.setTop (mkF m 23 #[.val (.ref o0), .val (.int (3 : Int32)), .val (.ref b3), .val (.int (3 : Int32))] [(.long (F_f5 (3 : Int32) (3 : Int32))), (.int (3 : Int32)), (.ref b3)]))
  refine Outs.of (U' := T11.setTop (mkF m 25 #[.val (.ref o0), .val (.int (3 : Int32)), .val (.ref b3), .val (.int (3 : Int32))] [(.long ((F_f5 (3 : Int32) (3 : Int32)) + (1 : Int64))), (.int (3 : Int32)), (.ref b3)])) (fun t k => ?_) ?_
  · refine XS.lconst X11.here hx rfl (hb hby d3_23) ?_
    refine XS.ladd X11.here hx rfl (hb hby d3_24) rfl ?_
    exact k
  obtain ⟨T12, h12, X12, e12, W12, V12, st12⟩ := puJ X11 hx hZ e11 V10 (j := (3 : Int32)) (x := ((F_f5 (3 : Int32) (3 : Int32)) + (1 : Int64))) (k := 3) rfl (by decide) (f := (mkF m 25 #[.val (.ref o0), .val (.int (3 : Int32)), .val (.ref b3), .val (.int (3 : Int32))] [(.long ((F_f5 (3 : Int32) (3 : Int32)) + (1 : Int64))), (.int (3 : Int32)), (.ref b3)])) rfl rfl (hb hby d3_25)
  replace V12 : AJ Z h12 b3 .long 33 ct3_g25c := V12
  have N12 := Fr.snoc X12 N11 g_b3
  obtain ⟨Lh12, X12, N12⟩ := hide X12 N12 (C := 1) (S := 33) (by decide) (by decide)
  refine Outs.of st12 ?_
  show Outs p e below s _ _ _ (T12.setTop (mkF m 26 #[.val (.ref o0), .val (.int (3 : Int32)), .val (.ref b3), .val (.int (3 : Int32))] []))
  refine Outs.of (U' := T12.setTop (mkF m 33 #[.val (.ref o0), .val (.int (3 : Int32)), .val (.ref b3), .val (.int (4 : Int32))] [(.int (3 : Int32)), (.ref b3)])) (fun t k => ?_) ?_
  · refine XS.iinc X12.here hx rfl (hb hby d3_26) rfl (l' := #[.val (.ref o0), .val (.int (3 : Int32)), .val (.ref b3), .val (.int (4 : Int32))]) rfl ?_
    refine XS.aloadN X12.here hx rfl (hb hby d3_29) rfl rfl ?_
    refine XS.iloadN X12.here hx rfl (hb hby d3_30) rfl ?_
    refine XS.iconst X12.here hx rfl (hb hby d3_31) ?_
    refine XS.isub X12.here hx rfl (hb hby d3_32) rfl ?_
    exact k
  refine Outs.of (ldJ X12 hx hZ e12 V12 (j := (3 : Int32)) (k := 3) rfl (by decide) (f := (mkF m 33 #[.val (.ref o0), .val (.int (3 : Int32)), .val (.ref b3), .val (.int (4 : Int32))] [(.int (3 : Int32)), (.ref b3)])) rfl rfl (hb hby d3_33)) ?_
  show Outs p e below s _ _ _ (T12.setTop (mkF m 34 #[.val (.ref o0), .val (.int (3 : Int32)), .val (.ref b3), .val (.int (4 : Int32))] [(.long (ct3_g25c 3))]))
  refine Outs.of (U' := T12.setTop (mkF m 20 #[.val (.ref o0), .val (.int (3 : Int32)), .val (.ref b3), .val (.int (4 : Int32))] [(.int (4 : Int32)), (.int (3 : Int32)), (.int (4 : Int32)), (.ref b3)])) (fun t k => ?_) ?_
  · refine X12.ldc2Long hx hown (mvT hZ (hw _ (List.mem_of_getElem? (i := 27) rfl))) (g := (mkF m 34 #[.val (.ref o0), .val (.int (3 : Int32)), .val (.ref b3), .val (.int (4 : Int32))] [(.long (ct3_g25c 3))])) rfl (hb hby d3_34) _ ?_
    refine XS.lcmp X12.here hx rfl (hb hby d3_37) rfl ?_
    refine XS.ifYes X12.here hx rfl (pc0 := 38) (pc' := 16) rfl (hb hby d3_38) rfl ((if0 _ _).trans (flt (fun q_ => (show ¬ ((2147483647 : Int64) < (ct3_g25c 3)) from (by decide +kernel)) ((lw_gt _ _).mp q_))).2.2.2) (by decide) (by decide) ?_
    refine XS.aloadN X12.here hx rfl (hb hby d3_16) rfl rfl ?_
    refine XS.iloadN X12.here hx rfl (hb hby d3_17) rfl ?_
    refine XS.iloadN X12.here hx rfl (hb hby d3_18) rfl ?_
    refine XS.iloadN X12.here hx rfl (hb hby d3_19) rfl ?_
    exact k
  obtain ⟨_, _, ⟨T13, L13, k13, n13⟩, -, X13, ⟨Lc13, hQ13, l13, y13, z13⟩, st13⟩ := Jvm.LawKit.callS X12 hx (y := (⟨"com/example/bitmend/bitmend/CodeParameters", "columns", "(II)J"⟩ : MethodName)) hown (mvT hZ (hw _ (List.mem_of_getElem? (i := 23) rfl))) (mvT hZ (hw _ (List.mem_of_getElem? (i := 24) rfl))) (mvT hZ (hw _ (List.mem_of_getElem? (i := 25) rfl))) (mvT hZ (hw _ (List.mem_of_getElem? (i := 26) rfl))) (by decide) (backOf (W := 2) (rm5 l Z a0 hw [] (3 : Int32) (4 : Int32) h12 n0 (by decide)) hZ (hw _ (List.mem_of_getElem? (i := 26) rfl)) (hw _ (List.mem_of_getElem? (i := 25) rfl)) (by decide) (by decide)) (g := (mkF m 20 #[.val (.ref o0), .val (.int (3 : Int32)), .val (.ref b3), .val (.int (4 : Int32))] [(.int (4 : Int32)), (.int (3 : Int32)), (.int (4 : Int32)), (.ref b3)])) rfl (by rw [hml]; rfl) (argsL := [(.int (3 : Int32)), (.int (4 : Int32))]) (rest := [(.int (4 : Int32)), (.ref b3)]) (lenOf pd_0 rfl) rfl (by show 2 * 0 + _ ≤ _; exact Nat.le_of_eq rfl) (hb hby d3_20) (fun _ _ => ⟨rfl, e12, (by decide : 1 + 0 ≤ _), (by decide : 33 + 0 ≤ _)⟩)
  dsimp only [Pt.U, Pt.locs, Pt.cells, Pt.slots] at X13 l13 y13 z13 st13 hQ13
  subst l13 y13 z13
  obtain ⟨rfl, N13q, e13⟩ := hQ13
  have N13 := Fr.app N12 N13q
  obtain ⟨Lh13, X13, N13⟩ := hide X13 N13 (C := 1) (S := 33) (by decide) (by decide)
  refine Outs.of st13 ?_
  show Outs p e below s _ _ _ (T13.setTop (mkF m 23 #[.val (.ref o0), .val (.int (3 : Int32)), .val (.ref b3), .val (.int (4 : Int32))] [(.long (F_f5 (3 : Int32) (4 : Int32))), (.int (4 : Int32)), (.ref b3)]))
  refine Outs.of (U' := T13.setTop (mkF m 25 #[.val (.ref o0), .val (.int (3 : Int32)), .val (.ref b3), .val (.int (4 : Int32))] [(.long ((F_f5 (3 : Int32) (4 : Int32)) + (1 : Int64))), (.int (4 : Int32)), (.ref b3)])) (fun t k => ?_) ?_
  · refine XS.lconst X13.here hx rfl (hb hby d3_23) ?_
    refine XS.ladd X13.here hx rfl (hb hby d3_24) rfl ?_
    exact k
  obtain ⟨T14, h14, X14, e14, W14, V14, st14⟩ := puJ X13 hx hZ e13 V12 (j := (4 : Int32)) (x := ((F_f5 (3 : Int32) (4 : Int32)) + (1 : Int64))) (k := 4) rfl (by decide) (f := (mkF m 25 #[.val (.ref o0), .val (.int (3 : Int32)), .val (.ref b3), .val (.int (4 : Int32))] [(.long ((F_f5 (3 : Int32) (4 : Int32)) + (1 : Int64))), (.int (4 : Int32)), (.ref b3)])) rfl rfl (hb hby d3_25)
  replace V14 : AJ Z h14 b3 .long 33 ct3_g25d := V14
  have N14 := Fr.snoc X14 N13 g_b3
  obtain ⟨Lh14, X14, N14⟩ := hide X14 N14 (C := 1) (S := 33) (by decide) (by decide)
  refine Outs.of st14 ?_
  show Outs p e below s _ _ _ (T14.setTop (mkF m 26 #[.val (.ref o0), .val (.int (3 : Int32)), .val (.ref b3), .val (.int (4 : Int32))] []))
  refine Outs.of (U' := T14.setTop (mkF m 33 #[.val (.ref o0), .val (.int (3 : Int32)), .val (.ref b3), .val (.int (5 : Int32))] [(.int (4 : Int32)), (.ref b3)])) (fun t k => ?_) ?_
  · refine XS.iinc X14.here hx rfl (hb hby d3_26) rfl (l' := #[.val (.ref o0), .val (.int (3 : Int32)), .val (.ref b3), .val (.int (5 : Int32))]) rfl ?_
    refine XS.aloadN X14.here hx rfl (hb hby d3_29) rfl rfl ?_
    refine XS.iloadN X14.here hx rfl (hb hby d3_30) rfl ?_
    refine XS.iconst X14.here hx rfl (hb hby d3_31) ?_
    refine XS.isub X14.here hx rfl (hb hby d3_32) rfl ?_
    exact k
  refine Outs.of (ldJ X14 hx hZ e14 V14 (j := (4 : Int32)) (k := 4) rfl (by decide) (f := (mkF m 33 #[.val (.ref o0), .val (.int (3 : Int32)), .val (.ref b3), .val (.int (5 : Int32))] [(.int (4 : Int32)), (.ref b3)])) rfl rfl (hb hby d3_33)) ?_
  show Outs p e below s _ _ _ (T14.setTop (mkF m 34 #[.val (.ref o0), .val (.int (3 : Int32)), .val (.ref b3), .val (.int (5 : Int32))] [(.long (ct3_g25d 4))]))
  refine Outs.of (U' := T14.setTop (mkF m 20 #[.val (.ref o0), .val (.int (3 : Int32)), .val (.ref b3), .val (.int (5 : Int32))] [(.int (5 : Int32)), (.int (3 : Int32)), (.int (5 : Int32)), (.ref b3)])) (fun t k => ?_) ?_
  · refine X14.ldc2Long hx hown (mvT hZ (hw _ (List.mem_of_getElem? (i := 27) rfl))) (g := (mkF m 34 #[.val (.ref o0), .val (.int (3 : Int32)), .val (.ref b3), .val (.int (5 : Int32))] [(.long (ct3_g25d 4))])) rfl (hb hby d3_34) _ ?_
    refine XS.lcmp X14.here hx rfl (hb hby d3_37) rfl ?_
    refine XS.ifYes X14.here hx rfl (pc0 := 38) (pc' := 16) rfl (hb hby d3_38) rfl ((if0 _ _).trans (flt (fun q_ => (show ¬ ((2147483647 : Int64) < (ct3_g25d 4)) from (by decide +kernel)) ((lw_gt _ _).mp q_))).2.2.2) (by decide) (by decide) ?_
    refine XS.aloadN X14.here hx rfl (hb hby d3_16) rfl rfl ?_
    refine XS.iloadN X14.here hx rfl (hb hby d3_17) rfl ?_
    refine XS.iloadN X14.here hx rfl (hb hby d3_18) rfl ?_
    refine XS.iloadN X14.here hx rfl (hb hby d3_19) rfl ?_
    exact k
  obtain ⟨_, _, ⟨T15, L15, k15, n15⟩, -, X15, ⟨Lc15, hQ15, l15, y15, z15⟩, st15⟩ := Jvm.LawKit.callS X14 hx (y := (⟨"com/example/bitmend/bitmend/CodeParameters", "columns", "(II)J"⟩ : MethodName)) hown (mvT hZ (hw _ (List.mem_of_getElem? (i := 23) rfl))) (mvT hZ (hw _ (List.mem_of_getElem? (i := 24) rfl))) (mvT hZ (hw _ (List.mem_of_getElem? (i := 25) rfl))) (mvT hZ (hw _ (List.mem_of_getElem? (i := 26) rfl))) (by decide) (backOf (W := 2) (rm5 l Z a0 hw [] (3 : Int32) (5 : Int32) h14 n0 (by decide)) hZ (hw _ (List.mem_of_getElem? (i := 26) rfl)) (hw _ (List.mem_of_getElem? (i := 25) rfl)) (by decide) (by decide)) (g := (mkF m 20 #[.val (.ref o0), .val (.int (3 : Int32)), .val (.ref b3), .val (.int (5 : Int32))] [(.int (5 : Int32)), (.int (3 : Int32)), (.int (5 : Int32)), (.ref b3)])) rfl (by rw [hml]; rfl) (argsL := [(.int (3 : Int32)), (.int (5 : Int32))]) (rest := [(.int (5 : Int32)), (.ref b3)]) (lenOf pd_0 rfl) rfl (by show 2 * 0 + _ ≤ _; exact Nat.le_of_eq rfl) (hb hby d3_20) (fun _ _ => ⟨rfl, e14, (by decide : 1 + 0 ≤ _), (by decide : 33 + 0 ≤ _)⟩)
  dsimp only [Pt.U, Pt.locs, Pt.cells, Pt.slots] at X15 l15 y15 z15 st15 hQ15
  subst l15 y15 z15
  obtain ⟨rfl, N15q, e15⟩ := hQ15
  have N15 := Fr.app N14 N15q
  obtain ⟨Lh15, X15, N15⟩ := hide X15 N15 (C := 1) (S := 33) (by decide) (by decide)
  refine Outs.of st15 ?_
  show Outs p e below s _ _ _ (T15.setTop (mkF m 23 #[.val (.ref o0), .val (.int (3 : Int32)), .val (.ref b3), .val (.int (5 : Int32))] [(.long (F_f5 (3 : Int32) (5 : Int32))), (.int (5 : Int32)), (.ref b3)]))
  refine Outs.of (U' := T15.setTop (mkF m 25 #[.val (.ref o0), .val (.int (3 : Int32)), .val (.ref b3), .val (.int (5 : Int32))] [(.long ((F_f5 (3 : Int32) (5 : Int32)) + (1 : Int64))), (.int (5 : Int32)), (.ref b3)])) (fun t k => ?_) ?_
  · refine XS.lconst X15.here hx rfl (hb hby d3_23) ?_
    refine XS.ladd X15.here hx rfl (hb hby d3_24) rfl ?_
    exact k
  obtain ⟨T16, h16, X16, e16, W16, V16, st16⟩ := puJ X15 hx hZ e15 V14 (j := (5 : Int32)) (x := ((F_f5 (3 : Int32) (5 : Int32)) + (1 : Int64))) (k := 5) rfl (by decide) (f := (mkF m 25 #[.val (.ref o0), .val (.int (3 : Int32)), .val (.ref b3), .val (.int (5 : Int32))] [(.long ((F_f5 (3 : Int32) (5 : Int32)) + (1 : Int64))), (.int (5 : Int32)), (.ref b3)])) rfl rfl (hb hby d3_25)
  replace V16 : AJ Z h16 b3 .long 33 ct3_g25e := V16
  have N16 := Fr.snoc X16 N15 g_b3
  obtain ⟨Lh16, X16, N16⟩ := hide X16 N16 (C := 1) (S := 33) (by decide) (by decide)
  refine Outs.of st16 ?_
  show Outs p e below s _ _ _ (T16.setTop (mkF m 26 #[.val (.ref o0), .val (.int (3 : Int32)), .val (.ref b3), .val (.int (5 : Int32))] []))
  refine Outs.of (U' := T16.setTop (mkF m 33 #[.val (.ref o0), .val (.int (3 : Int32)), .val (.ref b3), .val (.int (6 : Int32))] [(.int (5 : Int32)), (.ref b3)])) (fun t k => ?_) ?_
  · refine XS.iinc X16.here hx rfl (hb hby d3_26) rfl (l' := #[.val (.ref o0), .val (.int (3 : Int32)), .val (.ref b3), .val (.int (6 : Int32))]) rfl ?_
    refine XS.aloadN X16.here hx rfl (hb hby d3_29) rfl rfl ?_
    refine XS.iloadN X16.here hx rfl (hb hby d3_30) rfl ?_
    refine XS.iconst X16.here hx rfl (hb hby d3_31) ?_
    refine XS.isub X16.here hx rfl (hb hby d3_32) rfl ?_
    exact k
  refine Outs.of (ldJ X16 hx hZ e16 V16 (j := (5 : Int32)) (k := 5) rfl (by decide) (f := (mkF m 33 #[.val (.ref o0), .val (.int (3 : Int32)), .val (.ref b3), .val (.int (6 : Int32))] [(.int (5 : Int32)), (.ref b3)])) rfl rfl (hb hby d3_33)) ?_
  show Outs p e below s _ _ _ (T16.setTop (mkF m 34 #[.val (.ref o0), .val (.int (3 : Int32)), .val (.ref b3), .val (.int (6 : Int32))] [(.long (ct3_g25e 5))]))
  refine Outs.of (U' := T16.setTop (mkF m 20 #[.val (.ref o0), .val (.int (3 : Int32)), .val (.ref b3), .val (.int (6 : Int32))] [(.int (6 : Int32)), (.int (3 : Int32)), (.int (6 : Int32)), (.ref b3)])) (fun t k => ?_) ?_
  · refine X16.ldc2Long hx hown (mvT hZ (hw _ (List.mem_of_getElem? (i := 27) rfl))) (g := (mkF m 34 #[.val (.ref o0), .val (.int (3 : Int32)), .val (.ref b3), .val (.int (6 : Int32))] [(.long (ct3_g25e 5))])) rfl (hb hby d3_34) _ ?_
    refine XS.lcmp X16.here hx rfl (hb hby d3_37) rfl ?_
    refine XS.ifYes X16.here hx rfl (pc0 := 38) (pc' := 16) rfl (hb hby d3_38) rfl ((if0 _ _).trans (flt (fun q_ => (show ¬ ((2147483647 : Int64) < (ct3_g25e 5)) from (by decide +kernel)) ((lw_gt _ _).mp q_))).2.2.2) (by decide) (by decide) ?_
    refine XS.aloadN X16.here hx rfl (hb hby d3_16) rfl rfl ?_
    refine XS.iloadN X16.here hx rfl (hb hby d3_17) rfl ?_
    refine XS.iloadN X16.here hx rfl (hb hby d3_18) rfl ?_
    refine XS.iloadN X16.here hx rfl (hb hby d3_19) rfl ?_
    exact k
  obtain ⟨_, _, ⟨T17, L17, k17, n17⟩, -, X17, ⟨Lc17, hQ17, l17, y17, z17⟩, st17⟩ := Jvm.LawKit.callS X16 hx (y := (⟨"com/example/bitmend/bitmend/CodeParameters", "columns", "(II)J"⟩ : MethodName)) hown (mvT hZ (hw _ (List.mem_of_getElem? (i := 23) rfl))) (mvT hZ (hw _ (List.mem_of_getElem? (i := 24) rfl))) (mvT hZ (hw _ (List.mem_of_getElem? (i := 25) rfl))) (mvT hZ (hw _ (List.mem_of_getElem? (i := 26) rfl))) (by decide) (backOf (W := 2) (rm5 l Z a0 hw [] (3 : Int32) (6 : Int32) h16 n0 (by decide)) hZ (hw _ (List.mem_of_getElem? (i := 26) rfl)) (hw _ (List.mem_of_getElem? (i := 25) rfl)) (by decide) (by decide)) (g := (mkF m 20 #[.val (.ref o0), .val (.int (3 : Int32)), .val (.ref b3), .val (.int (6 : Int32))] [(.int (6 : Int32)), (.int (3 : Int32)), (.int (6 : Int32)), (.ref b3)])) rfl (by rw [hml]; rfl) (argsL := [(.int (3 : Int32)), (.int (6 : Int32))]) (rest := [(.int (6 : Int32)), (.ref b3)]) (lenOf pd_0 rfl) rfl (by show 2 * 0 + _ ≤ _; exact Nat.le_of_eq rfl) (hb hby d3_20) (fun _ _ => ⟨rfl, e16, (by decide : 1 + 0 ≤ _), (by decide : 33 + 0 ≤ _)⟩)
  dsimp only [Pt.U, Pt.locs, Pt.cells, Pt.slots] at X17 l17 y17 z17 st17 hQ17
  subst l17 y17 z17
  obtain ⟨rfl, N17q, e17⟩ := hQ17
  have N17 := Fr.app N16 N17q
  obtain ⟨Lh17, X17, N17⟩ := hide X17 N17 (C := 1) (S := 33) (by decide) (by decide)
  refine Outs.of st17 ?_
  show Outs p e below s _ _ _ (T17.setTop (mkF m 23 #[.val (.ref o0), .val (.int (3 : Int32)), .val (.ref b3), .val (.int (6 : Int32))] [(.long (F_f5 (3 : Int32) (6 : Int32))), (.int (6 : Int32)), (.ref b3)]))
  refine Outs.of (U' := T17.setTop (mkF m 25 #[.val (.ref o0), .val (.int (3 : Int32)), .val (.ref b3), .val (.int (6 : Int32))] [(.long ((F_f5 (3 : Int32) (6 : Int32)) + (1 : Int64))), (.int (6 : Int32)), (.ref b3)])) (fun t k => ?_) ?_
  · refine XS.lconst X17.here hx rfl (hb hby d3_23) ?_
    refine XS.ladd X17.here hx rfl (hb hby d3_24) rfl ?_
    exact k
  obtain ⟨T18, h18, X18, e18, W18, V18, st18⟩ := puJ X17 hx hZ e17 V16 (j := (6 : Int32)) (x := ((F_f5 (3 : Int32) (6 : Int32)) + (1 : Int64))) (k := 6) rfl (by decide) (f := (mkF m 25 #[.val (.ref o0), .val (.int (3 : Int32)), .val (.ref b3), .val (.int (6 : Int32))] [(.long ((F_f5 (3 : Int32) (6 : Int32)) + (1 : Int64))), (.int (6 : Int32)), (.ref b3)])) rfl rfl (hb hby d3_25)
  replace V18 : AJ Z h18 b3 .long 33 ct3_g25f := V18
  have N18 := Fr.snoc X18 N17 g_b3
  obtain ⟨Lh18, X18, N18⟩ := hide X18 N18 (C := 1) (S := 33) (by decide) (by decide)
  refine Outs.of st18 ?_
  show Outs p e below s _ _ _ (T18.setTop (mkF m 26 #[.val (.ref o0), .val (.int (3 : Int32)), .val (.ref b3), .val (.int (6 : Int32))] []))
  refine Outs.of (U' := T18.setTop (mkF m 33 #[.val (.ref o0), .val (.int (3 : Int32)), .val (.ref b3), .val (.int (7 : Int32))] [(.int (6 : Int32)), (.ref b3)])) (fun t k => ?_) ?_
  · refine XS.iinc X18.here hx rfl (hb hby d3_26) rfl (l' := #[.val (.ref o0), .val (.int (3 : Int32)), .val (.ref b3), .val (.int (7 : Int32))]) rfl ?_
    refine XS.aloadN X18.here hx rfl (hb hby d3_29) rfl rfl ?_
    refine XS.iloadN X18.here hx rfl (hb hby d3_30) rfl ?_
    refine XS.iconst X18.here hx rfl (hb hby d3_31) ?_
    refine XS.isub X18.here hx rfl (hb hby d3_32) rfl ?_
    exact k
  refine Outs.of (ldJ X18 hx hZ e18 V18 (j := (6 : Int32)) (k := 6) rfl (by decide) (f := (mkF m 33 #[.val (.ref o0), .val (.int (3 : Int32)), .val (.ref b3), .val (.int (7 : Int32))] [(.int (6 : Int32)), (.ref b3)])) rfl rfl (hb hby d3_33)) ?_
  show Outs p e below s _ _ _ (T18.setTop (mkF m 34 #[.val (.ref o0), .val (.int (3 : Int32)), .val (.ref b3), .val (.int (7 : Int32))] [(.long (ct3_g25f 6))]))
  refine Outs.of (U' := T18.setTop (mkF m 20 #[.val (.ref o0), .val (.int (3 : Int32)), .val (.ref b3), .val (.int (7 : Int32))] [(.int (7 : Int32)), (.int (3 : Int32)), (.int (7 : Int32)), (.ref b3)])) (fun t k => ?_) ?_
  · refine X18.ldc2Long hx hown (mvT hZ (hw _ (List.mem_of_getElem? (i := 27) rfl))) (g := (mkF m 34 #[.val (.ref o0), .val (.int (3 : Int32)), .val (.ref b3), .val (.int (7 : Int32))] [(.long (ct3_g25f 6))])) rfl (hb hby d3_34) _ ?_
    refine XS.lcmp X18.here hx rfl (hb hby d3_37) rfl ?_
    refine XS.ifYes X18.here hx rfl (pc0 := 38) (pc' := 16) rfl (hb hby d3_38) rfl ((if0 _ _).trans (flt (fun q_ => (show ¬ ((2147483647 : Int64) < (ct3_g25f 6)) from (by decide +kernel)) ((lw_gt _ _).mp q_))).2.2.2) (by decide) (by decide) ?_
    refine XS.aloadN X18.here hx rfl (hb hby d3_16) rfl rfl ?_
    refine XS.iloadN X18.here hx rfl (hb hby d3_17) rfl ?_
    refine XS.iloadN X18.here hx rfl (hb hby d3_18) rfl ?_
    refine XS.iloadN X18.here hx rfl (hb hby d3_19) rfl ?_
    exact k
  obtain ⟨_, _, ⟨T19, L19, k19, n19⟩, -, X19, ⟨Lc19, hQ19, l19, y19, z19⟩, st19⟩ := Jvm.LawKit.callS X18 hx (y := (⟨"com/example/bitmend/bitmend/CodeParameters", "columns", "(II)J"⟩ : MethodName)) hown (mvT hZ (hw _ (List.mem_of_getElem? (i := 23) rfl))) (mvT hZ (hw _ (List.mem_of_getElem? (i := 24) rfl))) (mvT hZ (hw _ (List.mem_of_getElem? (i := 25) rfl))) (mvT hZ (hw _ (List.mem_of_getElem? (i := 26) rfl))) (by decide) (backOf (W := 2) (rm5 l Z a0 hw [] (3 : Int32) (7 : Int32) h18 n0 (by decide)) hZ (hw _ (List.mem_of_getElem? (i := 26) rfl)) (hw _ (List.mem_of_getElem? (i := 25) rfl)) (by decide) (by decide)) (g := (mkF m 20 #[.val (.ref o0), .val (.int (3 : Int32)), .val (.ref b3), .val (.int (7 : Int32))] [(.int (7 : Int32)), (.int (3 : Int32)), (.int (7 : Int32)), (.ref b3)])) rfl (by rw [hml]; rfl) (argsL := [(.int (3 : Int32)), (.int (7 : Int32))]) (rest := [(.int (7 : Int32)), (.ref b3)]) (lenOf pd_0 rfl) rfl (by show 2 * 0 + _ ≤ _; exact Nat.le_of_eq rfl) (hb hby d3_20) (fun _ _ => ⟨rfl, e18, (by decide : 1 + 0 ≤ _), (by decide : 33 + 0 ≤ _)⟩)
  dsimp only [Pt.U, Pt.locs, Pt.cells, Pt.slots] at X19 l19 y19 z19 st19 hQ19
  subst l19 y19 z19
  obtain ⟨rfl, N19q, e19⟩ := hQ19
  have N19 := Fr.app N18 N19q
  obtain ⟨Lh19, X19, N19⟩ := hide X19 N19 (C := 1) (S := 33) (by decide) (by decide)
  refine Outs.of st19 ?_
  show Outs p e below s _ _ _ (T19.setTop (mkF m 23 #[.val (.ref o0), .val (.int (3 : Int32)), .val (.ref b3), .val (.int (7 : Int32))] [(.long (F_f5 (3 : Int32) (7 : Int32))), (.int (7 : Int32)), (.ref b3)]))
  refine Outs.of (U' := T19.setTop (mkF m 25 #[.val (.ref o0), .val (.int (3 : Int32)), .val (.ref b3), .val (.int (7 : Int32))] [(.long ((F_f5 (3 : Int32) (7 : Int32)) + (1 : Int64))), (.int (7 : Int32)), (.ref b3)])) (fun t k => ?_) ?_
  · refine XS.lconst X19.here hx rfl (hb hby d3_23) ?_
    refine XS.ladd X19.here hx rfl (hb hby d3_24) rfl ?_
    exact k
  obtain ⟨T20, h20, X20, e20, W20, V20, st20⟩ := puJ X19 hx hZ e19 V18 (j := (7 : Int32)) (x := ((F_f5 (3 : Int32) (7 : Int32)) + (1 : Int64))) (k := 7) rfl (by decide) (f := (mkF m 25 #[.val (.ref o0), .val (.int (3 : Int32)), .val (.ref b3), .val (.int (7 : Int32))] [(.long ((F_f5 (3 : Int32) (7 : Int32)) + (1 : Int64))), (.int (7 : Int32)), (.ref b3)])) rfl rfl (hb hby d3_25)
  replace V20 : AJ Z h20 b3 .long 33 ct3_g25g := V20
  have N20 := Fr.snoc X20 N19 g_b3
  obtain ⟨Lh20, X20, N20⟩ := hide X20 N20 (C := 1) (S := 33) (by decide) (by decide)
  refine Outs.of st20 ?_
  show Outs p e below s _ _ _ (T20.setTop (mkF m 26 #[.val (.ref o0), .val (.int (3 : Int32)), .val (.ref b3), .val (.int (7 : Int32))] []))
  refine Outs.of (U' := T20.setTop (mkF m 33 #[.val (.ref o0), .val (.int (3 : Int32)), .val (.ref b3), .val (.int (8 : Int32))] [(.int (7 : Int32)), (.ref b3)])) (fun t k => ?_) ?_
  · refine XS.iinc X20.here hx rfl (hb hby d3_26) rfl (l' := #[.val (.ref o0), .val (.int (3 : Int32)), .val (.ref b3), .val (.int (8 : Int32))]) rfl ?_
    refine XS.aloadN X20.here hx rfl (hb hby d3_29) rfl rfl ?_
    refine XS.iloadN X20.here hx rfl (hb hby d3_30) rfl ?_
    refine XS.iconst X20.here hx rfl (hb hby d3_31) ?_
    refine XS.isub X20.here hx rfl (hb hby d3_32) rfl ?_
    exact k
  refine Outs.of (ldJ X20 hx hZ e20 V20 (j := (7 : Int32)) (k := 7) rfl (by decide) (f := (mkF m 33 #[.val (.ref o0), .val (.int (3 : Int32)), .val (.ref b3), .val (.int (8 : Int32))] [(.int (7 : Int32)), (.ref b3)])) rfl rfl (hb hby d3_33)) ?_
  show Outs p e below s _ _ _ (T20.setTop (mkF m 34 #[.val (.ref o0), .val (.int (3 : Int32)), .val (.ref b3), .val (.int (8 : Int32))] [(.long (ct3_g25g 7))]))
  refine Outs.of (U' := T20.setTop (mkF m 20 #[.val (.ref o0), .val (.int (3 : Int32)), .val (.ref b3), .val (.int (8 : Int32))] [(.int (8 : Int32)), (.int (3 : Int32)), (.int (8 : Int32)), (.ref b3)])) (fun t k => ?_) ?_
  · refine X20.ldc2Long hx hown (mvT hZ (hw _ (List.mem_of_getElem? (i := 27) rfl))) (g := (mkF m 34 #[.val (.ref o0), .val (.int (3 : Int32)), .val (.ref b3), .val (.int (8 : Int32))] [(.long (ct3_g25g 7))])) rfl (hb hby d3_34) _ ?_
    refine XS.lcmp X20.here hx rfl (hb hby d3_37) rfl ?_
    refine XS.ifYes X20.here hx rfl (pc0 := 38) (pc' := 16) rfl (hb hby d3_38) rfl ((if0 _ _).trans (flt (fun q_ => (show ¬ ((2147483647 : Int64) < (ct3_g25g 7)) from (by decide +kernel)) ((lw_gt _ _).mp q_))).2.2.2) (by decide) (by decide) ?_
    refine XS.aloadN X20.here hx rfl (hb hby d3_16) rfl rfl ?_
    refine XS.iloadN X20.here hx rfl (hb hby d3_17) rfl ?_
    refine XS.iloadN X20.here hx rfl (hb hby d3_18) rfl ?_
    refine XS.iloadN X20.here hx rfl (hb hby d3_19) rfl ?_
    exact k
  obtain ⟨_, _, ⟨T21, L21, k21, n21⟩, -, X21, ⟨Lc21, hQ21, l21, y21, z21⟩, st21⟩ := Jvm.LawKit.callS X20 hx (y := (⟨"com/example/bitmend/bitmend/CodeParameters", "columns", "(II)J"⟩ : MethodName)) hown (mvT hZ (hw _ (List.mem_of_getElem? (i := 23) rfl))) (mvT hZ (hw _ (List.mem_of_getElem? (i := 24) rfl))) (mvT hZ (hw _ (List.mem_of_getElem? (i := 25) rfl))) (mvT hZ (hw _ (List.mem_of_getElem? (i := 26) rfl))) (by decide) (backOf (W := 2) (rm5 l Z a0 hw [] (3 : Int32) (8 : Int32) h20 n0 (by decide)) hZ (hw _ (List.mem_of_getElem? (i := 26) rfl)) (hw _ (List.mem_of_getElem? (i := 25) rfl)) (by decide) (by decide)) (g := (mkF m 20 #[.val (.ref o0), .val (.int (3 : Int32)), .val (.ref b3), .val (.int (8 : Int32))] [(.int (8 : Int32)), (.int (3 : Int32)), (.int (8 : Int32)), (.ref b3)])) rfl (by rw [hml]; rfl) (argsL := [(.int (3 : Int32)), (.int (8 : Int32))]) (rest := [(.int (8 : Int32)), (.ref b3)]) (lenOf pd_0 rfl) rfl (by show 2 * 0 + _ ≤ _; exact Nat.le_of_eq rfl) (hb hby d3_20) (fun _ _ => ⟨rfl, e20, (by decide : 1 + 0 ≤ _), (by decide : 33 + 0 ≤ _)⟩)
  dsimp only [Pt.U, Pt.locs, Pt.cells, Pt.slots] at X21 l21 y21 z21 st21 hQ21
  subst l21 y21 z21
  obtain ⟨rfl, N21q, e21⟩ := hQ21
  have N21 := Fr.app N20 N21q
  obtain ⟨Lh21, X21, N21⟩ := hide X21 N21 (C := 1) (S := 33) (by decide) (by decide)
  refine Outs.of st21 ?_
  show Outs p e below s _ _ _ (T21.setTop (mkF m 23 #[.val (.ref o0), .val (.int (3 : Int32)), .val (.ref b3), .val (.int (8 : Int32))] [(.long (F_f5 (3 : Int32) (8 : Int32))), (.int (8 : Int32)), (.ref b3)]))
  refine Outs.of (U' := T21.setTop (mkF m 25 #[.val (.ref o0), .val (.int (3 : Int32)), .val (.ref b3), .val (.int (8 : Int32))] [(.long ((F_f5 (3 : Int32) (8 : Int32)) + (1 : Int64))), (.int (8 : Int32)), (.ref b3)])) (fun t k => ?_) ?_
  · refine XS.lconst X21.here hx rfl (hb hby d3_23) ?_
    refine XS.ladd X21.here hx rfl (hb hby d3_24) rfl ?_
    exact k
  obtain ⟨T22, h22, X22, e22, W22, V22, st22⟩ := puJ X21 hx hZ e21 V20 (j := (8 : Int32)) (x := ((F_f5 (3 : Int32) (8 : Int32)) + (1 : Int64))) (k := 8) rfl (by decide) (f := (mkF m 25 #[.val (.ref o0), .val (.int (3 : Int32)), .val (.ref b3), .val (.int (8 : Int32))] [(.long ((F_f5 (3 : Int32) (8 : Int32)) + (1 : Int64))), (.int (8 : Int32)), (.ref b3)])) rfl rfl (hb hby d3_25)
  replace V22 : AJ Z h22 b3 .long 33 ct3_g25h := V22
  have N22 := Fr.snoc X22 N21 g_b3
  obtain ⟨Lh22, X22, N22⟩ := hide X22 N22 (C := 1) (S := 33) (by decide) (by decide)
  refine Outs.of st22 ?_
  show Outs p e below s _ _ _ (T22.setTop (mkF m 26 #[.val (.ref o0), .val (.int (3 : Int32)), .val (.ref b3), .val (.int (8 : Int32))] []))
  refine Outs.of (U' := T22.setTop (mkF m 33 #[.val (.ref o0), .val (.int (3 : Int32)), .val (.ref b3), .val (.int (9 : Int32))] [(.int (8 : Int32)), (.ref b3)])) (fun t k => ?_) ?_
  · refine XS.iinc X22.here hx rfl (hb hby d3_26) rfl (l' := #[.val (.ref o0), .val (.int (3 : Int32)), .val (.ref b3), .val (.int (9 : Int32))]) rfl ?_
    refine XS.aloadN X22.here hx rfl (hb hby d3_29) rfl rfl ?_
    refine XS.iloadN X22.here hx rfl (hb hby d3_30) rfl ?_
    refine XS.iconst X22.here hx rfl (hb hby d3_31) ?_
    refine XS.isub X22.here hx rfl (hb hby d3_32) rfl ?_
    exact k
  refine Outs.of (ldJ X22 hx hZ e22 V22 (j := (8 : Int32)) (k := 8) rfl (by decide) (f := (mkF m 33 #[.val (.ref o0), .val (.int (3 : Int32)), .val (.ref b3), .val (.int (9 : Int32))] [(.int (8 : Int32)), (.ref b3)])) rfl rfl (hb hby d3_33)) ?_
  show Outs p e below s _ _ _ (T22.setTop (mkF m 34 #[.val (.ref o0), .val (.int (3 : Int32)), .val (.ref b3), .val (.int (9 : Int32))] [(.long (ct3_g25h 8))]))
  refine Outs.of (U' := T22.setTop (mkF m 20 #[.val (.ref o0), .val (.int (3 : Int32)), .val (.ref b3), .val (.int (9 : Int32))] [(.int (9 : Int32)), (.int (3 : Int32)), (.int (9 : Int32)), (.ref b3)])) (fun t k => ?_) ?_
  · refine X22.ldc2Long hx hown (mvT hZ (hw _ (List.mem_of_getElem? (i := 27) rfl))) (g := (mkF m 34 #[.val (.ref o0), .val (.int (3 : Int32)), .val (.ref b3), .val (.int (9 : Int32))] [(.long (ct3_g25h 8))])) rfl (hb hby d3_34) _ ?_
    refine XS.lcmp X22.here hx rfl (hb hby d3_37) rfl ?_
    refine XS.ifYes X22.here hx rfl (pc0 := 38) (pc' := 16) rfl (hb hby d3_38) rfl ((if0 _ _).trans (flt (fun q_ => (show ¬ ((2147483647 : Int64) < (ct3_g25h 8)) from (by decide +kernel)) ((lw_gt _ _).mp q_))).2.2.2) (by decide) (by decide) ?_
    refine XS.aloadN X22.here hx rfl (hb hby d3_16) rfl rfl ?_
    refine XS.iloadN X22.here hx rfl (hb hby d3_17) rfl ?_
    refine XS.iloadN X22.here hx rfl (hb hby d3_18) rfl ?_
    refine XS.iloadN X22.here hx rfl (hb hby d3_19) rfl ?_
    exact k
  obtain ⟨_, _, ⟨T23, L23, k23, n23⟩, -, X23, ⟨Lc23, hQ23, l23, y23, z23⟩, st23⟩ := Jvm.LawKit.callS X22 hx (y := (⟨"com/example/bitmend/bitmend/CodeParameters", "columns", "(II)J"⟩ : MethodName)) hown (mvT hZ (hw _ (List.mem_of_getElem? (i := 23) rfl))) (mvT hZ (hw _ (List.mem_of_getElem? (i := 24) rfl))) (mvT hZ (hw _ (List.mem_of_getElem? (i := 25) rfl))) (mvT hZ (hw _ (List.mem_of_getElem? (i := 26) rfl))) (by decide) (backOf (W := 2) (rm5 l Z a0 hw [] (3 : Int32) (9 : Int32) h22 n0 (by decide)) hZ (hw _ (List.mem_of_getElem? (i := 26) rfl)) (hw _ (List.mem_of_getElem? (i := 25) rfl)) (by decide) (by decide)) (g := (mkF m 20 #[.val (.ref o0), .val (.int (3 : Int32)), .val (.ref b3), .val (.int (9 : Int32))] [(.int (9 : Int32)), (.int (3 : Int32)), (.int (9 : Int32)), (.ref b3)])) rfl (by rw [hml]; rfl) (argsL := [(.int (3 : Int32)), (.int (9 : Int32))]) (rest := [(.int (9 : Int32)), (.ref b3)]) (lenOf pd_0 rfl) rfl (by show 2 * 0 + _ ≤ _; exact Nat.le_of_eq rfl) (hb hby d3_20) (fun _ _ => ⟨rfl, e22, (by decide : 1 + 0 ≤ _), (by decide : 33 + 0 ≤ _)⟩)
  dsimp only [Pt.U, Pt.locs, Pt.cells, Pt.slots] at X23 l23 y23 z23 st23 hQ23
  subst l23 y23 z23
  obtain ⟨rfl, N23q, e23⟩ := hQ23
  have N23 := Fr.app N22 N23q
  obtain ⟨Lh23, X23, N23⟩ := hide X23 N23 (C := 1) (S := 33) (by decide) (by decide)
  refine Outs.of st23 ?_
  show Outs p e below s _ _ _ (T23.setTop (mkF m 23 #[.val (.ref o0), .val (.int (3 : Int32)), .val (.ref b3), .val (.int (9 : Int32))] [(.long (F_f5 (3 : Int32) (9 : Int32))), (.int (9 : Int32)), (.ref b3)]))
  refine Outs.of (U' := T23.setTop (mkF m 25 #[.val (.ref o0), .val (.int (3 : Int32)), .val (.ref b3), .val (.int (9 : Int32))] [(.long ((F_f5 (3 : Int32) (9 : Int32)) + (1 : Int64))), (.int (9 : Int32)), (.ref b3)])) (fun t k => ?_) ?_
  · refine XS.lconst X23.here hx rfl (hb hby d3_23) ?_
    refine XS.ladd X23.here hx rfl (hb hby d3_24) rfl ?_
    exact k
  obtain ⟨T24, h24, X24, e24, W24, V24, st24⟩ := puJ X23 hx hZ e23 V22 (j := (9 : Int32)) (x := ((F_f5 (3 : Int32) (9 : Int32)) + (1 : Int64))) (k := 9) rfl (by decide) (f := (mkF m 25 #[.val (.ref o0), .val (.int (3 : Int32)), .val (.ref b3), .val (.int (9 : Int32))] [(.long ((F_f5 (3 : Int32) (9 : Int32)) + (1 : Int64))), (.int (9 : Int32)), (.ref b3)])) rfl rfl (hb hby d3_25)
  replace V24 : AJ Z h24 b3 .long 33 ct3_g25i := V24
  have N24 := Fr.snoc X24 N23 g_b3
  obtain ⟨Lh24, X24, N24⟩ := hide X24 N24 (C := 1) (S := 33) (by decide) (by decide)
  refine Outs.of st24 ?_
  show Outs p e below s _ _ _ (T24.setTop (mkF m 26 #[.val (.ref o0), .val (.int (3 : Int32)), .val (.ref b3), .val (.int (9 : Int32))] []))
  refine Outs.of (U' := T24.setTop (mkF m 33 #[.val (.ref o0), .val (.int (3 : Int32)), .val (.ref b3), .val (.int (10 : Int32))] [(.int (9 : Int32)), (.ref b3)])) (fun t k => ?_) ?_
  · refine XS.iinc X24.here hx rfl (hb hby d3_26) rfl (l' := #[.val (.ref o0), .val (.int (3 : Int32)), .val (.ref b3), .val (.int (10 : Int32))]) rfl ?_
    refine XS.aloadN X24.here hx rfl (hb hby d3_29) rfl rfl ?_
    refine XS.iloadN X24.here hx rfl (hb hby d3_30) rfl ?_
    refine XS.iconst X24.here hx rfl (hb hby d3_31) ?_
    refine XS.isub X24.here hx rfl (hb hby d3_32) rfl ?_
    exact k
  refine Outs.of (ldJ X24 hx hZ e24 V24 (j := (9 : Int32)) (k := 9) rfl (by decide) (f := (mkF m 33 #[.val (.ref o0), .val (.int (3 : Int32)), .val (.ref b3), .val (.int (10 : Int32))] [(.int (9 : Int32)), (.ref b3)])) rfl rfl (hb hby d3_33)) ?_
  show Outs p e below s _ _ _ (T24.setTop (mkF m 34 #[.val (.ref o0), .val (.int (3 : Int32)), .val (.ref b3), .val (.int (10 : Int32))] [(.long (ct3_g25i 9))]))
  refine Outs.of (U' := T24.setTop (mkF m 20 #[.val (.ref o0), .val (.int (3 : Int32)), .val (.ref b3), .val (.int (10 : Int32))] [(.int (10 : Int32)), (.int (3 : Int32)), (.int (10 : Int32)), (.ref b3)])) (fun t k => ?_) ?_
  · refine X24.ldc2Long hx hown (mvT hZ (hw _ (List.mem_of_getElem? (i := 27) rfl))) (g := (mkF m 34 #[.val (.ref o0), .val (.int (3 : Int32)), .val (.ref b3), .val (.int (10 : Int32))] [(.long (ct3_g25i 9))])) rfl (hb hby d3_34) _ ?_
    refine XS.lcmp X24.here hx rfl (hb hby d3_37) rfl ?_
    refine XS.ifYes X24.here hx rfl (pc0 := 38) (pc' := 16) rfl (hb hby d3_38) rfl ((if0 _ _).trans (flt (fun q_ => (show ¬ ((2147483647 : Int64) < (ct3_g25i 9)) from (by decide +kernel)) ((lw_gt _ _).mp q_))).2.2.2) (by decide) (by decide) ?_
    refine XS.aloadN X24.here hx rfl (hb hby d3_16) rfl rfl ?_
    refine XS.iloadN X24.here hx rfl (hb hby d3_17) rfl ?_
    refine XS.iloadN X24.here hx rfl (hb hby d3_18) rfl ?_
    refine XS.iloadN X24.here hx rfl (hb hby d3_19) rfl ?_
    exact k
  obtain ⟨_, _, ⟨T25, L25, k25, n25⟩, -, X25, ⟨Lc25, hQ25, l25, y25, z25⟩, st25⟩ := Jvm.LawKit.callS X24 hx (y := (⟨"com/example/bitmend/bitmend/CodeParameters", "columns", "(II)J"⟩ : MethodName)) hown (mvT hZ (hw _ (List.mem_of_getElem? (i := 23) rfl))) (mvT hZ (hw _ (List.mem_of_getElem? (i := 24) rfl))) (mvT hZ (hw _ (List.mem_of_getElem? (i := 25) rfl))) (mvT hZ (hw _ (List.mem_of_getElem? (i := 26) rfl))) (by decide) (backOf (W := 2) (rm5 l Z a0 hw [] (3 : Int32) (10 : Int32) h24 n0 (by decide)) hZ (hw _ (List.mem_of_getElem? (i := 26) rfl)) (hw _ (List.mem_of_getElem? (i := 25) rfl)) (by decide) (by decide)) (g := (mkF m 20 #[.val (.ref o0), .val (.int (3 : Int32)), .val (.ref b3), .val (.int (10 : Int32))] [(.int (10 : Int32)), (.int (3 : Int32)), (.int (10 : Int32)), (.ref b3)])) rfl (by rw [hml]; rfl) (argsL := [(.int (3 : Int32)), (.int (10 : Int32))]) (rest := [(.int (10 : Int32)), (.ref b3)]) (lenOf pd_0 rfl) rfl (by show 2 * 0 + _ ≤ _; exact Nat.le_of_eq rfl) (hb hby d3_20) (fun _ _ => ⟨rfl, e24, (by decide : 1 + 0 ≤ _), (by decide : 33 + 0 ≤ _)⟩)
  dsimp only [Pt.U, Pt.locs, Pt.cells, Pt.slots] at X25 l25 y25 z25 st25 hQ25
  subst l25 y25 z25
  obtain ⟨rfl, N25q, e25⟩ := hQ25
  have N25 := Fr.app N24 N25q
  obtain ⟨Lh25, X25, N25⟩ := hide X25 N25 (C := 1) (S := 33) (by decide) (by decide)
  refine Outs.of st25 ?_
  show Outs p e below s _ _ _ (T25.setTop (mkF m 23 #[.val (.ref o0), .val (.int (3 : Int32)), .val (.ref b3), .val (.int (10 : Int32))] [(.long (F_f5 (3 : Int32) (10 : Int32))), (.int (10 : Int32)), (.ref b3)]))
  refine Outs.of (U' := T25.setTop (mkF m 25 #[.val (.ref o0), .val (.int (3 : Int32)), .val (.ref b3), .val (.int (10 : Int32))] [(.long ((F_f5 (3 : Int32) (10 : Int32)) + (1 : Int64))), (.int (10 : Int32)), (.ref b3)])) (fun t k => ?_) ?_
  · refine XS.lconst X25.here hx rfl (hb hby d3_23) ?_
    refine XS.ladd X25.here hx rfl (hb hby d3_24) rfl ?_
    exact k
  obtain ⟨T26, h26, X26, e26, W26, V26, st26⟩ := puJ X25 hx hZ e25 V24 (j := (10 : Int32)) (x := ((F_f5 (3 : Int32) (10 : Int32)) + (1 : Int64))) (k := 10) rfl (by decide) (f := (mkF m 25 #[.val (.ref o0), .val (.int (3 : Int32)), .val (.ref b3), .val (.int (10 : Int32))] [(.long ((F_f5 (3 : Int32) (10 : Int32)) + (1 : Int64))), (.int (10 : Int32)), (.ref b3)])) rfl rfl (hb hby d3_25)
  replace V26 : AJ Z h26 b3 .long 33 ct3_g25j := V26
  have N26 := Fr.snoc X26 N25 g_b3
  obtain ⟨Lh26, X26, N26⟩ := hide X26 N26 (C := 1) (S := 33) (by decide) (by decide)
  refine Outs.of st26 ?_
  show Outs p e below s _ _ _ (T26.setTop (mkF m 26 #[.val (.ref o0), .val (.int (3 : Int32)), .val (.ref b3), .val (.int (10 : Int32))] []))
  refine Outs.of (U' := T26.setTop (mkF m 33 #[.val (.ref o0), .val (.int (3 : Int32)), .val (.ref b3), .val (.int (11 : Int32))] [(.int (10 : Int32)), (.ref b3)])) (fun t k => ?_) ?_
  · refine XS.iinc X26.here hx rfl (hb hby d3_26) rfl (l' := #[.val (.ref o0), .val (.int (3 : Int32)), .val (.ref b3), .val (.int (11 : Int32))]) rfl ?_
    refine XS.aloadN X26.here hx rfl (hb hby d3_29) rfl rfl ?_
    refine XS.iloadN X26.here hx rfl (hb hby d3_30) rfl ?_
    refine XS.iconst X26.here hx rfl (hb hby d3_31) ?_
    refine XS.isub X26.here hx rfl (hb hby d3_32) rfl ?_
    exact k
  refine Outs.of (ldJ X26 hx hZ e26 V26 (j := (10 : Int32)) (k := 10) rfl (by decide) (f := (mkF m 33 #[.val (.ref o0), .val (.int (3 : Int32)), .val (.ref b3), .val (.int (11 : Int32))] [(.int (10 : Int32)), (.ref b3)])) rfl rfl (hb hby d3_33)) ?_
  show Outs p e below s _ _ _ (T26.setTop (mkF m 34 #[.val (.ref o0), .val (.int (3 : Int32)), .val (.ref b3), .val (.int (11 : Int32))] [(.long (ct3_g25j 10))]))
  refine Outs.of (U' := T26.setTop (mkF m 20 #[.val (.ref o0), .val (.int (3 : Int32)), .val (.ref b3), .val (.int (11 : Int32))] [(.int (11 : Int32)), (.int (3 : Int32)), (.int (11 : Int32)), (.ref b3)])) (fun t k => ?_) ?_
  · refine X26.ldc2Long hx hown (mvT hZ (hw _ (List.mem_of_getElem? (i := 27) rfl))) (g := (mkF m 34 #[.val (.ref o0), .val (.int (3 : Int32)), .val (.ref b3), .val (.int (11 : Int32))] [(.long (ct3_g25j 10))])) rfl (hb hby d3_34) _ ?_
    refine XS.lcmp X26.here hx rfl (hb hby d3_37) rfl ?_
    refine XS.ifYes X26.here hx rfl (pc0 := 38) (pc' := 16) rfl (hb hby d3_38) rfl ((if0 _ _).trans (flt (fun q_ => (show ¬ ((2147483647 : Int64) < (ct3_g25j 10)) from (by decide +kernel)) ((lw_gt _ _).mp q_))).2.2.2) (by decide) (by decide) ?_
    refine XS.aloadN X26.here hx rfl (hb hby d3_16) rfl rfl ?_
    refine XS.iloadN X26.here hx rfl (hb hby d3_17) rfl ?_
    refine XS.iloadN X26.here hx rfl (hb hby d3_18) rfl ?_
    refine XS.iloadN X26.here hx rfl (hb hby d3_19) rfl ?_
    exact k
  obtain ⟨_, _, ⟨T27, L27, k27, n27⟩, -, X27, ⟨Lc27, hQ27, l27, y27, z27⟩, st27⟩ := Jvm.LawKit.callS X26 hx (y := (⟨"com/example/bitmend/bitmend/CodeParameters", "columns", "(II)J"⟩ : MethodName)) hown (mvT hZ (hw _ (List.mem_of_getElem? (i := 23) rfl))) (mvT hZ (hw _ (List.mem_of_getElem? (i := 24) rfl))) (mvT hZ (hw _ (List.mem_of_getElem? (i := 25) rfl))) (mvT hZ (hw _ (List.mem_of_getElem? (i := 26) rfl))) (by decide) (backOf (W := 2) (rm5 l Z a0 hw [] (3 : Int32) (11 : Int32) h26 n0 (by decide)) hZ (hw _ (List.mem_of_getElem? (i := 26) rfl)) (hw _ (List.mem_of_getElem? (i := 25) rfl)) (by decide) (by decide)) (g := (mkF m 20 #[.val (.ref o0), .val (.int (3 : Int32)), .val (.ref b3), .val (.int (11 : Int32))] [(.int (11 : Int32)), (.int (3 : Int32)), (.int (11 : Int32)), (.ref b3)])) rfl (by rw [hml]; rfl) (argsL := [(.int (3 : Int32)), (.int (11 : Int32))]) (rest := [(.int (11 : Int32)), (.ref b3)]) (lenOf pd_0 rfl) rfl (by show 2 * 0 + _ ≤ _; exact Nat.le_of_eq rfl) (hb hby d3_20) (fun _ _ => ⟨rfl, e26, (by decide : 1 + 0 ≤ _), (by decide : 33 + 0 ≤ _)⟩)
  dsimp only [Pt.U, Pt.locs, Pt.cells, Pt.slots] at X27 l27 y27 z27 st27 hQ27
  subst l27 y27 z27
  obtain ⟨rfl, N27q, e27⟩ := hQ27
  have N27 := Fr.app N26 N27q
  obtain ⟨Lh27, X27, N27⟩ := hide X27 N27 (C := 1) (S := 33) (by decide) (by decide)
  refine Outs.of st27 ?_
  show Outs p e below s _ _ _ (T27.setTop (mkF m 23 #[.val (.ref o0), .val (.int (3 : Int32)), .val (.ref b3), .val (.int (11 : Int32))] [(.long (F_f5 (3 : Int32) (11 : Int32))), (.int (11 : Int32)), (.ref b3)]))
  refine Outs.of (U' := T27.setTop (mkF m 25 #[.val (.ref o0), .val (.int (3 : Int32)), .val (.ref b3), .val (.int (11 : Int32))] [(.long ((F_f5 (3 : Int32) (11 : Int32)) + (1 : Int64))), (.int (11 : Int32)), (.ref b3)])) (fun t k => ?_) ?_
  · refine XS.lconst X27.here hx rfl (hb hby d3_23) ?_
    refine XS.ladd X27.here hx rfl (hb hby d3_24) rfl ?_
    exact k
  obtain ⟨T28, h28, X28, e28, W28, V28, st28⟩ := puJ X27 hx hZ e27 V26 (j := (11 : Int32)) (x := ((F_f5 (3 : Int32) (11 : Int32)) + (1 : Int64))) (k := 11) rfl (by decide) (f := (mkF m 25 #[.val (.ref o0), .val (.int (3 : Int32)), .val (.ref b3), .val (.int (11 : Int32))] [(.long ((F_f5 (3 : Int32) (11 : Int32)) + (1 : Int64))), (.int (11 : Int32)), (.ref b3)])) rfl rfl (hb hby d3_25)
  replace V28 : AJ Z h28 b3 .long 33 ct3_g25k := V28
  have N28 := Fr.snoc X28 N27 g_b3
  obtain ⟨Lh28, X28, N28⟩ := hide X28 N28 (C := 1) (S := 33) (by decide) (by decide)
  refine Outs.of st28 ?_
  show Outs p e below s _ _ _ (T28.setTop (mkF m 26 #[.val (.ref o0), .val (.int (3 : Int32)), .val (.ref b3), .val (.int (11 : Int32))] []))
  refine Outs.of (U' := T28.setTop (mkF m 33 #[.val (.ref o0), .val (.int (3 : Int32)), .val (.ref b3), .val (.int (12 : Int32))] [(.int (11 : Int32)), (.ref b3)])) (fun t k => ?_) ?_
  · refine XS.iinc X28.here hx rfl (hb hby d3_26) rfl (l' := #[.val (.ref o0), .val (.int (3 : Int32)), .val (.ref b3), .val (.int (12 : Int32))]) rfl ?_
    refine XS.aloadN X28.here hx rfl (hb hby d3_29) rfl rfl ?_
    refine XS.iloadN X28.here hx rfl (hb hby d3_30) rfl ?_
    refine XS.iconst X28.here hx rfl (hb hby d3_31) ?_
    refine XS.isub X28.here hx rfl (hb hby d3_32) rfl ?_
    exact k
  refine Outs.of (ldJ X28 hx hZ e28 V28 (j := (11 : Int32)) (k := 11) rfl (by decide) (f := (mkF m 33 #[.val (.ref o0), .val (.int (3 : Int32)), .val (.ref b3), .val (.int (12 : Int32))] [(.int (11 : Int32)), (.ref b3)])) rfl rfl (hb hby d3_33)) ?_
  show Outs p e below s _ _ _ (T28.setTop (mkF m 34 #[.val (.ref o0), .val (.int (3 : Int32)), .val (.ref b3), .val (.int (12 : Int32))] [(.long (ct3_g25k 11))]))
  refine Outs.of (U' := T28.setTop (mkF m 20 #[.val (.ref o0), .val (.int (3 : Int32)), .val (.ref b3), .val (.int (12 : Int32))] [(.int (12 : Int32)), (.int (3 : Int32)), (.int (12 : Int32)), (.ref b3)])) (fun t k => ?_) ?_
  · refine X28.ldc2Long hx hown (mvT hZ (hw _ (List.mem_of_getElem? (i := 27) rfl))) (g := (mkF m 34 #[.val (.ref o0), .val (.int (3 : Int32)), .val (.ref b3), .val (.int (12 : Int32))] [(.long (ct3_g25k 11))])) rfl (hb hby d3_34) _ ?_
    refine XS.lcmp X28.here hx rfl (hb hby d3_37) rfl ?_
    refine XS.ifYes X28.here hx rfl (pc0 := 38) (pc' := 16) rfl (hb hby d3_38) rfl ((if0 _ _).trans (flt (fun q_ => (show ¬ ((2147483647 : Int64) < (ct3_g25k 11)) from (by decide +kernel)) ((lw_gt _ _).mp q_))).2.2.2) (by decide) (by decide) ?_
    refine XS.aloadN X28.here hx rfl (hb hby d3_16) rfl rfl ?_
    refine XS.iloadN X28.here hx rfl (hb hby d3_17) rfl ?_
    refine XS.iloadN X28.here hx rfl (hb hby d3_18) rfl ?_
    refine XS.iloadN X28.here hx rfl (hb hby d3_19) rfl ?_
    exact k
  obtain ⟨_, _, ⟨T29, L29, k29, n29⟩, -, X29, ⟨Lc29, hQ29, l29, y29, z29⟩, st29⟩ := Jvm.LawKit.callS X28 hx (y := (⟨"com/example/bitmend/bitmend/CodeParameters", "columns", "(II)J"⟩ : MethodName)) hown (mvT hZ (hw _ (List.mem_of_getElem? (i := 23) rfl))) (mvT hZ (hw _ (List.mem_of_getElem? (i := 24) rfl))) (mvT hZ (hw _ (List.mem_of_getElem? (i := 25) rfl))) (mvT hZ (hw _ (List.mem_of_getElem? (i := 26) rfl))) (by decide) (backOf (W := 2) (rm5 l Z a0 hw [] (3 : Int32) (12 : Int32) h28 n0 (by decide)) hZ (hw _ (List.mem_of_getElem? (i := 26) rfl)) (hw _ (List.mem_of_getElem? (i := 25) rfl)) (by decide) (by decide)) (g := (mkF m 20 #[.val (.ref o0), .val (.int (3 : Int32)), .val (.ref b3), .val (.int (12 : Int32))] [(.int (12 : Int32)), (.int (3 : Int32)), (.int (12 : Int32)), (.ref b3)])) rfl (by rw [hml]; rfl) (argsL := [(.int (3 : Int32)), (.int (12 : Int32))]) (rest := [(.int (12 : Int32)), (.ref b3)]) (lenOf pd_0 rfl) rfl (by show 2 * 0 + _ ≤ _; exact Nat.le_of_eq rfl) (hb hby d3_20) (fun _ _ => ⟨rfl, e28, (by decide : 1 + 0 ≤ _), (by decide : 33 + 0 ≤ _)⟩)
  dsimp only [Pt.U, Pt.locs, Pt.cells, Pt.slots] at X29 l29 y29 z29 st29 hQ29
  subst l29 y29 z29
  obtain ⟨rfl, N29q, e29⟩ := hQ29
  have N29 := Fr.app N28 N29q
  obtain ⟨Lh29, X29, N29⟩ := hide X29 N29 (C := 1) (S := 33) (by decide) (by decide)
  refine Outs.of st29 ?_
  show Outs p e below s _ _ _ (T29.setTop (mkF m 23 #[.val (.ref o0), .val (.int (3 : Int32)), .val (.ref b3), .val (.int (12 : Int32))] [(.long (F_f5 (3 : Int32) (12 : Int32))), (.int (12 : Int32)), (.ref b3)]))
  refine Outs.of (U' := T29.setTop (mkF m 25 #[.val (.ref o0), .val (.int (3 : Int32)), .val (.ref b3), .val (.int (12 : Int32))] [(.long ((F_f5 (3 : Int32) (12 : Int32)) + (1 : Int64))), (.int (12 : Int32)), (.ref b3)])) (fun t k => ?_) ?_
  · refine XS.lconst X29.here hx rfl (hb hby d3_23) ?_
    refine XS.ladd X29.here hx rfl (hb hby d3_24) rfl ?_
    exact k
  obtain ⟨T30, h30, X30, e30, W30, V30, st30⟩ := puJ X29 hx hZ e29 V28 (j := (12 : Int32)) (x := ((F_f5 (3 : Int32) (12 : Int32)) + (1 : Int64))) (k := 12) rfl (by decide) (f := (mkF m 25 #[.val (.ref o0), .val (.int (3 : Int32)), .val (.ref b3), .val (.int (12 : Int32))] [(.long ((F_f5 (3 : Int32) (12 : Int32)) + (1 : Int64))), (.int (12 : Int32)), (.ref b3)])) rfl rfl (hb hby d3_25)
  replace V30 : AJ Z h30 b3 .long 33 ct3_g25l := V30
  have N30 := Fr.snoc X30 N29 g_b3
  obtain ⟨Lh30, X30, N30⟩ := hide X30 N30 (C := 1) (S := 33) (by decide) (by decide)
  refine Outs.of st30 ?_
  show Outs p e below s _ _ _ (T30.setTop (mkF m 26 #[.val (.ref o0), .val (.int (3 : Int32)), .val (.ref b3), .val (.int (12 : Int32))] []))
  refine Outs.of (U' := T30.setTop (mkF m 33 #[.val (.ref o0), .val (.int (3 : Int32)), .val (.ref b3), .val (.int (13 : Int32))] [(.int (12 : Int32)), (.ref b3)])) (fun t k => ?_) ?_
  · refine XS.iinc X30.here hx rfl (hb hby d3_26) rfl (l' := #[.val (.ref o0), .val (.int (3 : Int32)), .val (.ref b3), .val (.int (13 : Int32))]) rfl ?_
    refine XS.aloadN X30.here hx rfl (hb hby d3_29) rfl rfl ?_
    refine XS.iloadN X30.here hx rfl (hb hby d3_30) rfl ?_
    refine XS.iconst X30.here hx rfl (hb hby d3_31) ?_
    refine XS.isub X30.here hx rfl (hb hby d3_32) rfl ?_
    exact k
  refine Outs.of (ldJ X30 hx hZ e30 V30 (j := (12 : Int32)) (k := 12) rfl (by decide) (f := (mkF m 33 #[.val (.ref o0), .val (.int (3 : Int32)), .val (.ref b3), .val (.int (13 : Int32))] [(.int (12 : Int32)), (.ref b3)])) rfl rfl (hb hby d3_33)) ?_
  show Outs p e below s _ _ _ (T30.setTop (mkF m 34 #[.val (.ref o0), .val (.int (3 : Int32)), .val (.ref b3), .val (.int (13 : Int32))] [(.long (ct3_g25l 12))]))
  refine Outs.of (U' := T30.setTop (mkF m 20 #[.val (.ref o0), .val (.int (3 : Int32)), .val (.ref b3), .val (.int (13 : Int32))] [(.int (13 : Int32)), (.int (3 : Int32)), (.int (13 : Int32)), (.ref b3)])) (fun t k => ?_) ?_
  · refine X30.ldc2Long hx hown (mvT hZ (hw _ (List.mem_of_getElem? (i := 27) rfl))) (g := (mkF m 34 #[.val (.ref o0), .val (.int (3 : Int32)), .val (.ref b3), .val (.int (13 : Int32))] [(.long (ct3_g25l 12))])) rfl (hb hby d3_34) _ ?_
    refine XS.lcmp X30.here hx rfl (hb hby d3_37) rfl ?_
    refine XS.ifYes X30.here hx rfl (pc0 := 38) (pc' := 16) rfl (hb hby d3_38) rfl ((if0 _ _).trans (flt (fun q_ => (show ¬ ((2147483647 : Int64) < (ct3_g25l 12)) from (by decide +kernel)) ((lw_gt _ _).mp q_))).2.2.2) (by decide) (by decide) ?_
    refine XS.aloadN X30.here hx rfl (hb hby d3_16) rfl rfl ?_
    refine XS.iloadN X30.here hx rfl (hb hby d3_17) rfl ?_
    refine XS.iloadN X30.here hx rfl (hb hby d3_18) rfl ?_
    refine XS.iloadN X30.here hx rfl (hb hby d3_19) rfl ?_
    exact k
  obtain ⟨_, _, ⟨T31, L31, k31, n31⟩, -, X31, ⟨Lc31, hQ31, l31, y31, z31⟩, st31⟩ := Jvm.LawKit.callS X30 hx (y := (⟨"com/example/bitmend/bitmend/CodeParameters", "columns", "(II)J"⟩ : MethodName)) hown (mvT hZ (hw _ (List.mem_of_getElem? (i := 23) rfl))) (mvT hZ (hw _ (List.mem_of_getElem? (i := 24) rfl))) (mvT hZ (hw _ (List.mem_of_getElem? (i := 25) rfl))) (mvT hZ (hw _ (List.mem_of_getElem? (i := 26) rfl))) (by decide) (backOf (W := 2) (rm5 l Z a0 hw [] (3 : Int32) (13 : Int32) h30 n0 (by decide)) hZ (hw _ (List.mem_of_getElem? (i := 26) rfl)) (hw _ (List.mem_of_getElem? (i := 25) rfl)) (by decide) (by decide)) (g := (mkF m 20 #[.val (.ref o0), .val (.int (3 : Int32)), .val (.ref b3), .val (.int (13 : Int32))] [(.int (13 : Int32)), (.int (3 : Int32)), (.int (13 : Int32)), (.ref b3)])) rfl (by rw [hml]; rfl) (argsL := [(.int (3 : Int32)), (.int (13 : Int32))]) (rest := [(.int (13 : Int32)), (.ref b3)]) (lenOf pd_0 rfl) rfl (by show 2 * 0 + _ ≤ _; exact Nat.le_of_eq rfl) (hb hby d3_20) (fun _ _ => ⟨rfl, e30, (by decide : 1 + 0 ≤ _), (by decide : 33 + 0 ≤ _)⟩)
  dsimp only [Pt.U, Pt.locs, Pt.cells, Pt.slots] at X31 l31 y31 z31 st31 hQ31
  subst l31 y31 z31
  obtain ⟨rfl, N31q, e31⟩ := hQ31
  have N31 := Fr.app N30 N31q
  obtain ⟨Lh31, X31, N31⟩ := hide X31 N31 (C := 1) (S := 33) (by decide) (by decide)
  refine Outs.of st31 ?_
  show Outs p e below s _ _ _ (T31.setTop (mkF m 23 #[.val (.ref o0), .val (.int (3 : Int32)), .val (.ref b3), .val (.int (13 : Int32))] [(.long (F_f5 (3 : Int32) (13 : Int32))), (.int (13 : Int32)), (.ref b3)]))
  refine Outs.of (U' := T31.setTop (mkF m 25 #[.val (.ref o0), .val (.int (3 : Int32)), .val (.ref b3), .val (.int (13 : Int32))] [(.long ((F_f5 (3 : Int32) (13 : Int32)) + (1 : Int64))), (.int (13 : Int32)), (.ref b3)])) (fun t k => ?_) ?_
  · refine XS.lconst X31.here hx rfl (hb hby d3_23) ?_
    refine XS.ladd X31.here hx rfl (hb hby d3_24) rfl ?_
    exact k
  obtain ⟨T32, h32, X32, e32, W32, V32, st32⟩ := puJ X31 hx hZ e31 V30 (j := (13 : Int32)) (x := ((F_f5 (3 : Int32) (13 : Int32)) + (1 : Int64))) (k := 13) rfl (by decide) (f := (mkF m 25 #[.val (.ref o0), .val (.int (3 : Int32)), .val (.ref b3), .val (.int (13 : Int32))] [(.long ((F_f5 (3 : Int32) (13 : Int32)) + (1 : Int64))), (.int (13 : Int32)), (.ref b3)])) rfl rfl (hb hby d3_25)
  replace V32 : AJ Z h32 b3 .long 33 ct3_g25m := V32
  have N32 := Fr.snoc X32 N31 g_b3
  obtain ⟨Lh32, X32, N32⟩ := hide X32 N32 (C := 1) (S := 33) (by decide) (by decide)
  refine Outs.of st32 ?_
  show Outs p e below s _ _ _ (T32.setTop (mkF m 26 #[.val (.ref o0), .val (.int (3 : Int32)), .val (.ref b3), .val (.int (13 : Int32))] []))
  refine Outs.of (U' := T32.setTop (mkF m 33 #[.val (.ref o0), .val (.int (3 : Int32)), .val (.ref b3), .val (.int (14 : Int32))] [(.int (13 : Int32)), (.ref b3)])) (fun t k => ?_) ?_
  · refine XS.iinc X32.here hx rfl (hb hby d3_26) rfl (l' := #[.val (.ref o0), .val (.int (3 : Int32)), .val (.ref b3), .val (.int (14 : Int32))]) rfl ?_
    refine XS.aloadN X32.here hx rfl (hb hby d3_29) rfl rfl ?_
    refine XS.iloadN X32.here hx rfl (hb hby d3_30) rfl ?_
    refine XS.iconst X32.here hx rfl (hb hby d3_31) ?_
    refine XS.isub X32.here hx rfl (hb hby d3_32) rfl ?_
    exact k
  refine Outs.of (ldJ X32 hx hZ e32 V32 (j := (13 : Int32)) (k := 13) rfl (by decide) (f := (mkF m 33 #[.val (.ref o0), .val (.int (3 : Int32)), .val (.ref b3), .val (.int (14 : Int32))] [(.int (13 : Int32)), (.ref b3)])) rfl rfl (hb hby d3_33)) ?_
  show Outs p e below s _ _ _ (T32.setTop (mkF m 34 #[.val (.ref o0), .val (.int (3 : Int32)), .val (.ref b3), .val (.int (14 : Int32))] [(.long (ct3_g25m 13))]))
  refine Outs.of (U' := T32.setTop (mkF m 20 #[.val (.ref o0), .val (.int (3 : Int32)), .val (.ref b3), .val (.int (14 : Int32))] [(.int (14 : Int32)), (.int (3 : Int32)), (.int (14 : Int32)), (.ref b3)])) (fun t k => ?_) ?_
  · refine X32.ldc2Long hx hown (mvT hZ (hw _ (List.mem_of_getElem? (i := 27) rfl))) (g := (mkF m 34 #[.val (.ref o0), .val (.int (3 : Int32)), .val (.ref b3), .val (.int (14 : Int32))] [(.long (ct3_g25m 13))])) rfl (hb hby d3_34) _ ?_
    refine XS.lcmp X32.here hx rfl (hb hby d3_37) rfl ?_
    refine XS.ifYes X32.here hx rfl (pc0 := 38) (pc' := 16) rfl (hb hby d3_38) rfl ((if0 _ _).trans (flt (fun q_ => (show ¬ ((2147483647 : Int64) < (ct3_g25m 13)) from (by decide +kernel)) ((lw_gt _ _).mp q_))).2.2.2) (by decide) (by decide) ?_
    refine XS.aloadN X32.here hx rfl (hb hby d3_16) rfl rfl ?_
    refine XS.iloadN X32.here hx rfl (hb hby d3_17) rfl ?_
    refine XS.iloadN X32.here hx rfl (hb hby d3_18) rfl ?_
    refine XS.iloadN X32.here hx rfl (hb hby d3_19) rfl ?_
    exact k
  obtain ⟨_, _, ⟨T33, L33, k33, n33⟩, -, X33, ⟨Lc33, hQ33, l33, y33, z33⟩, st33⟩ := Jvm.LawKit.callS X32 hx (y := (⟨"com/example/bitmend/bitmend/CodeParameters", "columns", "(II)J"⟩ : MethodName)) hown (mvT hZ (hw _ (List.mem_of_getElem? (i := 23) rfl))) (mvT hZ (hw _ (List.mem_of_getElem? (i := 24) rfl))) (mvT hZ (hw _ (List.mem_of_getElem? (i := 25) rfl))) (mvT hZ (hw _ (List.mem_of_getElem? (i := 26) rfl))) (by decide) (backOf (W := 2) (rm5 l Z a0 hw [] (3 : Int32) (14 : Int32) h32 n0 (by decide)) hZ (hw _ (List.mem_of_getElem? (i := 26) rfl)) (hw _ (List.mem_of_getElem? (i := 25) rfl)) (by decide) (by decide)) (g := (mkF m 20 #[.val (.ref o0), .val (.int (3 : Int32)), .val (.ref b3), .val (.int (14 : Int32))] [(.int (14 : Int32)), (.int (3 : Int32)), (.int (14 : Int32)), (.ref b3)])) rfl (by rw [hml]; rfl) (argsL := [(.int (3 : Int32)), (.int (14 : Int32))]) (rest := [(.int (14 : Int32)), (.ref b3)]) (lenOf pd_0 rfl) rfl (by show 2 * 0 + _ ≤ _; exact Nat.le_of_eq rfl) (hb hby d3_20) (fun _ _ => ⟨rfl, e32, (by decide : 1 + 0 ≤ _), (by decide : 33 + 0 ≤ _)⟩)
  dsimp only [Pt.U, Pt.locs, Pt.cells, Pt.slots] at X33 l33 y33 z33 st33 hQ33
  subst l33 y33 z33
  obtain ⟨rfl, N33q, e33⟩ := hQ33
  have N33 := Fr.app N32 N33q
  obtain ⟨Lh33, X33, N33⟩ := hide X33 N33 (C := 1) (S := 33) (by decide) (by decide)
  refine Outs.of st33 ?_
  show Outs p e below s _ _ _ (T33.setTop (mkF m 23 #[.val (.ref o0), .val (.int (3 : Int32)), .val (.ref b3), .val (.int (14 : Int32))] [(.long (F_f5 (3 : Int32) (14 : Int32))), (.int (14 : Int32)), (.ref b3)]))
  refine Outs.of (U' := T33.setTop (mkF m 25 #[.val (.ref o0), .val (.int (3 : Int32)), .val (.ref b3), .val (.int (14 : Int32))] [(.long ((F_f5 (3 : Int32) (14 : Int32)) + (1 : Int64))), (.int (14 : Int32)), (.ref b3)])) (fun t k => ?_) ?_
  · refine XS.lconst X33.here hx rfl (hb hby d3_23) ?_
    refine XS.ladd X33.here hx rfl (hb hby d3_24) rfl ?_
    exact k
  obtain ⟨T34, h34, X34, e34, W34, V34, st34⟩ := puJ X33 hx hZ e33 V32 (j := (14 : Int32)) (x := ((F_f5 (3 : Int32) (14 : Int32)) + (1 : Int64))) (k := 14) rfl (by decide) (f := (mkF m 25 #[.val (.ref o0), .val (.int (3 : Int32)), .val (.ref b3), .val (.int (14 : Int32))] [(.long ((F_f5 (3 : Int32) (14 : Int32)) + (1 : Int64))), (.int (14 : Int32)), (.ref b3)])) rfl rfl (hb hby d3_25)
  replace V34 : AJ Z h34 b3 .long 33 ct3_g25n := V34
  have N34 := Fr.snoc X34 N33 g_b3
  obtain ⟨Lh34, X34, N34⟩ := hide X34 N34 (C := 1) (S := 33) (by decide) (by decide)
  refine Outs.of st34 ?_
  show Outs p e below s _ _ _ (T34.setTop (mkF m 26 #[.val (.ref o0), .val (.int (3 : Int32)), .val (.ref b3), .val (.int (14 : Int32))] []))
  refine Outs.of (U' := T34.setTop (mkF m 33 #[.val (.ref o0), .val (.int (3 : Int32)), .val (.ref b3), .val (.int (15 : Int32))] [(.int (14 : Int32)), (.ref b3)])) (fun t k => ?_) ?_
  · refine XS.iinc X34.here hx rfl (hb hby d3_26) rfl (l' := #[.val (.ref o0), .val (.int (3 : Int32)), .val (.ref b3), .val (.int (15 : Int32))]) rfl ?_
    refine XS.aloadN X34.here hx rfl (hb hby d3_29) rfl rfl ?_
    refine XS.iloadN X34.here hx rfl (hb hby d3_30) rfl ?_
    refine XS.iconst X34.here hx rfl (hb hby d3_31) ?_
    refine XS.isub X34.here hx rfl (hb hby d3_32) rfl ?_
    exact k
  refine Outs.of (ldJ X34 hx hZ e34 V34 (j := (14 : Int32)) (k := 14) rfl (by decide) (f := (mkF m 33 #[.val (.ref o0), .val (.int (3 : Int32)), .val (.ref b3), .val (.int (15 : Int32))] [(.int (14 : Int32)), (.ref b3)])) rfl rfl (hb hby d3_33)) ?_
  show Outs p e below s _ _ _ (T34.setTop (mkF m 34 #[.val (.ref o0), .val (.int (3 : Int32)), .val (.ref b3), .val (.int (15 : Int32))] [(.long (ct3_g25n 14))]))
  refine Outs.of (U' := T34.setTop (mkF m 20 #[.val (.ref o0), .val (.int (3 : Int32)), .val (.ref b3), .val (.int (15 : Int32))] [(.int (15 : Int32)), (.int (3 : Int32)), (.int (15 : Int32)), (.ref b3)])) (fun t k => ?_) ?_
  · refine X34.ldc2Long hx hown (mvT hZ (hw _ (List.mem_of_getElem? (i := 27) rfl))) (g := (mkF m 34 #[.val (.ref o0), .val (.int (3 : Int32)), .val (.ref b3), .val (.int (15 : Int32))] [(.long (ct3_g25n 14))])) rfl (hb hby d3_34) _ ?_
    refine XS.lcmp X34.here hx rfl (hb hby d3_37) rfl ?_
    refine XS.ifYes X34.here hx rfl (pc0 := 38) (pc' := 16) rfl (hb hby d3_38) rfl ((if0 _ _).trans (flt (fun q_ => (show ¬ ((2147483647 : Int64) < (ct3_g25n 14)) from (by decide +kernel)) ((lw_gt _ _).mp q_))).2.2.2) (by decide) (by decide) ?_
    refine XS.aloadN X34.here hx rfl (hb hby d3_16) rfl rfl ?_
    refine XS.iloadN X34.here hx rfl (hb hby d3_17) rfl ?_
    refine XS.iloadN X34.here hx rfl (hb hby d3_18) rfl ?_
    refine XS.iloadN X34.here hx rfl (hb hby d3_19) rfl ?_
    exact k
  obtain ⟨_, _, ⟨T35, L35, k35, n35⟩, -, X35, ⟨Lc35, hQ35, l35, y35, z35⟩, st35⟩ := Jvm.LawKit.callS X34 hx (y := (⟨"com/example/bitmend/bitmend/CodeParameters", "columns", "(II)J"⟩ : MethodName)) hown (mvT hZ (hw _ (List.mem_of_getElem? (i := 23) rfl))) (mvT hZ (hw _ (List.mem_of_getElem? (i := 24) rfl))) (mvT hZ (hw _ (List.mem_of_getElem? (i := 25) rfl))) (mvT hZ (hw _ (List.mem_of_getElem? (i := 26) rfl))) (by decide) (backOf (W := 2) (rm5 l Z a0 hw [] (3 : Int32) (15 : Int32) h34 n0 (by decide)) hZ (hw _ (List.mem_of_getElem? (i := 26) rfl)) (hw _ (List.mem_of_getElem? (i := 25) rfl)) (by decide) (by decide)) (g := (mkF m 20 #[.val (.ref o0), .val (.int (3 : Int32)), .val (.ref b3), .val (.int (15 : Int32))] [(.int (15 : Int32)), (.int (3 : Int32)), (.int (15 : Int32)), (.ref b3)])) rfl (by rw [hml]; rfl) (argsL := [(.int (3 : Int32)), (.int (15 : Int32))]) (rest := [(.int (15 : Int32)), (.ref b3)]) (lenOf pd_0 rfl) rfl (by show 2 * 0 + _ ≤ _; exact Nat.le_of_eq rfl) (hb hby d3_20) (fun _ _ => ⟨rfl, e34, (by decide : 1 + 0 ≤ _), (by decide : 33 + 0 ≤ _)⟩)
  dsimp only [Pt.U, Pt.locs, Pt.cells, Pt.slots] at X35 l35 y35 z35 st35 hQ35
  subst l35 y35 z35
  obtain ⟨rfl, N35q, e35⟩ := hQ35
  have N35 := Fr.app N34 N35q
  obtain ⟨Lh35, X35, N35⟩ := hide X35 N35 (C := 1) (S := 33) (by decide) (by decide)
  refine Outs.of st35 ?_
  show Outs p e below s _ _ _ (T35.setTop (mkF m 23 #[.val (.ref o0), .val (.int (3 : Int32)), .val (.ref b3), .val (.int (15 : Int32))] [(.long (F_f5 (3 : Int32) (15 : Int32))), (.int (15 : Int32)), (.ref b3)]))
  refine Outs.of (U' := T35.setTop (mkF m 25 #[.val (.ref o0), .val (.int (3 : Int32)), .val (.ref b3), .val (.int (15 : Int32))] [(.long ((F_f5 (3 : Int32) (15 : Int32)) + (1 : Int64))), (.int (15 : Int32)), (.ref b3)])) (fun t k => ?_) ?_
  · refine XS.lconst X35.here hx rfl (hb hby d3_23) ?_
    refine XS.ladd X35.here hx rfl (hb hby d3_24) rfl ?_
    exact k
  obtain ⟨T36, h36, X36, e36, W36, V36, st36⟩ := puJ X35 hx hZ e35 V34 (j := (15 : Int32)) (x := ((F_f5 (3 : Int32) (15 : Int32)) + (1 : Int64))) (k := 15) rfl (by decide) (f := (mkF m 25 #[.val (.ref o0), .val (.int (3 : Int32)), .val (.ref b3), .val (.int (15 : Int32))] [(.long ((F_f5 (3 : Int32) (15 : Int32)) + (1 : Int64))), (.int (15 : Int32)), (.ref b3)])) rfl rfl (hb hby d3_25)
  replace V36 : AJ Z h36 b3 .long 33 ct3_g25o := V36
  have N36 := Fr.snoc X36 N35 g_b3
  obtain ⟨Lh36, X36, N36⟩ := hide X36 N36 (C := 1) (S := 33) (by decide) (by decide)
  refine Outs.of st36 ?_
  show Outs p e below s _ _ _ (T36.setTop (mkF m 26 #[.val (.ref o0), .val (.int (3 : Int32)), .val (.ref b3), .val (.int (15 : Int32))] []))
  refine Outs.of (U' := T36.setTop (mkF m 33 #[.val (.ref o0), .val (.int (3 : Int32)), .val (.ref b3), .val (.int (16 : Int32))] [(.int (15 : Int32)), (.ref b3)])) (fun t k => ?_) ?_
  · refine XS.iinc X36.here hx rfl (hb hby d3_26) rfl (l' := #[.val (.ref o0), .val (.int (3 : Int32)), .val (.ref b3), .val (.int (16 : Int32))]) rfl ?_
    refine XS.aloadN X36.here hx rfl (hb hby d3_29) rfl rfl ?_
    refine XS.iloadN X36.here hx rfl (hb hby d3_30) rfl ?_
    refine XS.iconst X36.here hx rfl (hb hby d3_31) ?_
    refine XS.isub X36.here hx rfl (hb hby d3_32) rfl ?_
    exact k
  refine Outs.of (ldJ X36 hx hZ e36 V36 (j := (15 : Int32)) (k := 15) rfl (by decide) (f := (mkF m 33 #[.val (.ref o0), .val (.int (3 : Int32)), .val (.ref b3), .val (.int (16 : Int32))] [(.int (15 : Int32)), (.ref b3)])) rfl rfl (hb hby d3_33)) ?_
  show Outs p e below s _ _ _ (T36.setTop (mkF m 34 #[.val (.ref o0), .val (.int (3 : Int32)), .val (.ref b3), .val (.int (16 : Int32))] [(.long (ct3_g25o 15))]))
  refine Outs.of (U' := T36.setTop (mkF m 20 #[.val (.ref o0), .val (.int (3 : Int32)), .val (.ref b3), .val (.int (16 : Int32))] [(.int (16 : Int32)), (.int (3 : Int32)), (.int (16 : Int32)), (.ref b3)])) (fun t k => ?_) ?_
  · refine X36.ldc2Long hx hown (mvT hZ (hw _ (List.mem_of_getElem? (i := 27) rfl))) (g := (mkF m 34 #[.val (.ref o0), .val (.int (3 : Int32)), .val (.ref b3), .val (.int (16 : Int32))] [(.long (ct3_g25o 15))])) rfl (hb hby d3_34) _ ?_
    refine XS.lcmp X36.here hx rfl (hb hby d3_37) rfl ?_
    refine XS.ifYes X36.here hx rfl (pc0 := 38) (pc' := 16) rfl (hb hby d3_38) rfl ((if0 _ _).trans (flt (fun q_ => (show ¬ ((2147483647 : Int64) < (ct3_g25o 15)) from (by decide +kernel)) ((lw_gt _ _).mp q_))).2.2.2) (by decide) (by decide) ?_
    refine XS.aloadN X36.here hx rfl (hb hby d3_16) rfl rfl ?_
    refine XS.iloadN X36.here hx rfl (hb hby d3_17) rfl ?_
    refine XS.iloadN X36.here hx rfl (hb hby d3_18) rfl ?_
    refine XS.iloadN X36.here hx rfl (hb hby d3_19) rfl ?_
    exact k
  obtain ⟨_, _, ⟨T37, L37, k37, n37⟩, -, X37, ⟨Lc37, hQ37, l37, y37, z37⟩, st37⟩ := Jvm.LawKit.callS X36 hx (y := (⟨"com/example/bitmend/bitmend/CodeParameters", "columns", "(II)J"⟩ : MethodName)) hown (mvT hZ (hw _ (List.mem_of_getElem? (i := 23) rfl))) (mvT hZ (hw _ (List.mem_of_getElem? (i := 24) rfl))) (mvT hZ (hw _ (List.mem_of_getElem? (i := 25) rfl))) (mvT hZ (hw _ (List.mem_of_getElem? (i := 26) rfl))) (by decide) (backOf (W := 2) (rm5 l Z a0 hw [] (3 : Int32) (16 : Int32) h36 n0 (by decide)) hZ (hw _ (List.mem_of_getElem? (i := 26) rfl)) (hw _ (List.mem_of_getElem? (i := 25) rfl)) (by decide) (by decide)) (g := (mkF m 20 #[.val (.ref o0), .val (.int (3 : Int32)), .val (.ref b3), .val (.int (16 : Int32))] [(.int (16 : Int32)), (.int (3 : Int32)), (.int (16 : Int32)), (.ref b3)])) rfl (by rw [hml]; rfl) (argsL := [(.int (3 : Int32)), (.int (16 : Int32))]) (rest := [(.int (16 : Int32)), (.ref b3)]) (lenOf pd_0 rfl) rfl (by show 2 * 0 + _ ≤ _; exact Nat.le_of_eq rfl) (hb hby d3_20) (fun _ _ => ⟨rfl, e36, (by decide : 1 + 0 ≤ _), (by decide : 33 + 0 ≤ _)⟩)
  dsimp only [Pt.U, Pt.locs, Pt.cells, Pt.slots] at X37 l37 y37 z37 st37 hQ37
  subst l37 y37 z37
  obtain ⟨rfl, N37q, e37⟩ := hQ37
  have N37 := Fr.app N36 N37q
  obtain ⟨Lh37, X37, N37⟩ := hide X37 N37 (C := 1) (S := 33) (by decide) (by decide)
  refine Outs.of st37 ?_
  show Outs p e below s _ _ _ (T37.setTop (mkF m 23 #[.val (.ref o0), .val (.int (3 : Int32)), .val (.ref b3), .val (.int (16 : Int32))] [(.long (F_f5 (3 : Int32) (16 : Int32))), (.int (16 : Int32)), (.ref b3)]))
  refine Outs.of (U' := T37.setTop (mkF m 25 #[.val (.ref o0), .val (.int (3 : Int32)), .val (.ref b3), .val (.int (16 : Int32))] [(.long ((F_f5 (3 : Int32) (16 : Int32)) + (1 : Int64))), (.int (16 : Int32)), (.ref b3)])) (fun t k => ?_) ?_
  · refine XS.lconst X37.here hx rfl (hb hby d3_23) ?_
    refine XS.ladd X37.here hx rfl (hb hby d3_24) rfl ?_
    exact k
  obtain ⟨T38, h38, X38, e38, W38, V38, st38⟩ := puJ X37 hx hZ e37 V36 (j := (16 : Int32)) (x := ((F_f5 (3 : Int32) (16 : Int32)) + (1 : Int64))) (k := 16) rfl (by decide) (f := (mkF m 25 #[.val (.ref o0), .val (.int (3 : Int32)), .val (.ref b3), .val (.int (16 : Int32))] [(.long ((F_f5 (3 : Int32) (16 : Int32)) + (1 : Int64))), (.int (16 : Int32)), (.ref b3)])) rfl rfl (hb hby d3_25)
  replace V38 : AJ Z h38 b3 .long 33 ct3_g25p := V38
  have N38 := Fr.snoc X38 N37 g_b3
  obtain ⟨Lh38, X38, N38⟩ := hide X38 N38 (C := 1) (S := 33) (by decide) (by decide)
  refine Outs.of st38 ?_
  show Outs p e below s _ _ _ (T38.setTop (mkF m 26 #[.val (.ref o0), .val (.int (3 : Int32)), .val (.ref b3), .val (.int (16 : Int32))] []))
  refine Outs.of (U' := T38.setTop (mkF m 33 #[.val (.ref o0), .val (.int (3 : Int32)), .val (.ref b3), .val (.int (17 : Int32))] [(.int (16 : Int32)), (.ref b3)])) (fun t k => ?_) ?_
  · refine XS.iinc X38.here hx rfl (hb hby d3_26) rfl (l' := #[.val (.ref o0), .val (.int (3 : Int32)), .val (.ref b3), .val (.int (17 : Int32))]) rfl ?_
    refine XS.aloadN X38.here hx rfl (hb hby d3_29) rfl rfl ?_
    refine XS.iloadN X38.here hx rfl (hb hby d3_30) rfl ?_
    refine XS.iconst X38.here hx rfl (hb hby d3_31) ?_
    refine XS.isub X38.here hx rfl (hb hby d3_32) rfl ?_
    exact k
  refine Outs.of (ldJ X38 hx hZ e38 V38 (j := (16 : Int32)) (k := 16) rfl (by decide) (f := (mkF m 33 #[.val (.ref o0), .val (.int (3 : Int32)), .val (.ref b3), .val (.int (17 : Int32))] [(.int (16 : Int32)), (.ref b3)])) rfl rfl (hb hby d3_33)) ?_
  show Outs p e below s _ _ _ (T38.setTop (mkF m 34 #[.val (.ref o0), .val (.int (3 : Int32)), .val (.ref b3), .val (.int (17 : Int32))] [(.long (ct3_g25p 16))]))
  refine Outs.of (U' := T38.setTop (mkF m 20 #[.val (.ref o0), .val (.int (3 : Int32)), .val (.ref b3), .val (.int (17 : Int32))] [(.int (17 : Int32)), (.int (3 : Int32)), (.int (17 : Int32)), (.ref b3)])) (fun t k => ?_) ?_
  · refine X38.ldc2Long hx hown (mvT hZ (hw _ (List.mem_of_getElem? (i := 27) rfl))) (g := (mkF m 34 #[.val (.ref o0), .val (.int (3 : Int32)), .val (.ref b3), .val (.int (17 : Int32))] [(.long (ct3_g25p 16))])) rfl (hb hby d3_34) _ ?_
    refine XS.lcmp X38.here hx rfl (hb hby d3_37) rfl ?_
    refine XS.ifYes X38.here hx rfl (pc0 := 38) (pc' := 16) rfl (hb hby d3_38) rfl ((if0 _ _).trans (flt (fun q_ => (show ¬ ((2147483647 : Int64) < (ct3_g25p 16)) from (by decide +kernel)) ((lw_gt _ _).mp q_))).2.2.2) (by decide) (by decide) ?_
    refine XS.aloadN X38.here hx rfl (hb hby d3_16) rfl rfl ?_
    refine XS.iloadN X38.here hx rfl (hb hby d3_17) rfl ?_
    refine XS.iloadN X38.here hx rfl (hb hby d3_18) rfl ?_
    refine XS.iloadN X38.here hx rfl (hb hby d3_19) rfl ?_
    exact k
  obtain ⟨_, _, ⟨T39, L39, k39, n39⟩, -, X39, ⟨Lc39, hQ39, l39, y39, z39⟩, st39⟩ := Jvm.LawKit.callS X38 hx (y := (⟨"com/example/bitmend/bitmend/CodeParameters", "columns", "(II)J"⟩ : MethodName)) hown (mvT hZ (hw _ (List.mem_of_getElem? (i := 23) rfl))) (mvT hZ (hw _ (List.mem_of_getElem? (i := 24) rfl))) (mvT hZ (hw _ (List.mem_of_getElem? (i := 25) rfl))) (mvT hZ (hw _ (List.mem_of_getElem? (i := 26) rfl))) (by decide) (backOf (W := 2) (rm5 l Z a0 hw [] (3 : Int32) (17 : Int32) h38 n0 (by decide)) hZ (hw _ (List.mem_of_getElem? (i := 26) rfl)) (hw _ (List.mem_of_getElem? (i := 25) rfl)) (by decide) (by decide)) (g := (mkF m 20 #[.val (.ref o0), .val (.int (3 : Int32)), .val (.ref b3), .val (.int (17 : Int32))] [(.int (17 : Int32)), (.int (3 : Int32)), (.int (17 : Int32)), (.ref b3)])) rfl (by rw [hml]; rfl) (argsL := [(.int (3 : Int32)), (.int (17 : Int32))]) (rest := [(.int (17 : Int32)), (.ref b3)]) (lenOf pd_0 rfl) rfl (by show 2 * 0 + _ ≤ _; exact Nat.le_of_eq rfl) (hb hby d3_20) (fun _ _ => ⟨rfl, e38, (by decide : 1 + 0 ≤ _), (by decide : 33 + 0 ≤ _)⟩)
  dsimp only [Pt.U, Pt.locs, Pt.cells, Pt.slots] at X39 l39 y39 z39 st39 hQ39
  subst l39 y39 z39
  obtain ⟨rfl, N39q, e39⟩ := hQ39
  have N39 := Fr.app N38 N39q
  obtain ⟨Lh39, X39, N39⟩ := hide X39 N39 (C := 1) (S := 33) (by decide) (by decide)
  refine Outs.of st39 ?_
  show Outs p e below s _ _ _ (T39.setTop (mkF m 23 #[.val (.ref o0), .val (.int (3 : Int32)), .val (.ref b3), .val (.int (17 : Int32))] [(.long (F_f5 (3 : Int32) (17 : Int32))), (.int (17 : Int32)), (.ref b3)]))
  refine Outs.of (U' := T39.setTop (mkF m 25 #[.val (.ref o0), .val (.int (3 : Int32)), .val (.ref b3), .val (.int (17 : Int32))] [(.long ((F_f5 (3 : Int32) (17 : Int32)) + (1 : Int64))), (.int (17 : Int32)), (.ref b3)])) (fun t k => ?_) ?_
  · refine XS.lconst X39.here hx rfl (hb hby d3_23) ?_
    refine XS.ladd X39.here hx rfl (hb hby d3_24) rfl ?_
    exact k
  obtain ⟨T40, h40, X40, e40, W40, V40, st40⟩ := puJ X39 hx hZ e39 V38 (j := (17 : Int32)) (x := ((F_f5 (3 : Int32) (17 : Int32)) + (1 : Int64))) (k := 17) rfl (by decide) (f := (mkF m 25 #[.val (.ref o0), .val (.int (3 : Int32)), .val (.ref b3), .val (.int (17 : Int32))] [(.long ((F_f5 (3 : Int32) (17 : Int32)) + (1 : Int64))), (.int (17 : Int32)), (.ref b3)])) rfl rfl (hb hby d3_25)
  replace V40 : AJ Z h40 b3 .long 33 ct3_g25q := V40
  have N40 := Fr.snoc X40 N39 g_b3
  obtain ⟨Lh40, X40, N40⟩ := hide X40 N40 (C := 1) (S := 33) (by decide) (by decide)
  refine Outs.of st40 ?_
  show Outs p e below s _ _ _ (T40.setTop (mkF m 26 #[.val (.ref o0), .val (.int (3 : Int32)), .val (.ref b3), .val (.int (17 : Int32))] []))
  refine Outs.of (U' := T40.setTop (mkF m 33 #[.val (.ref o0), .val (.int (3 : Int32)), .val (.ref b3), .val (.int (18 : Int32))] [(.int (17 : Int32)), (.ref b3)])) (fun t k => ?_) ?_
  · refine XS.iinc X40.here hx rfl (hb hby d3_26) rfl (l' := #[.val (.ref o0), .val (.int (3 : Int32)), .val (.ref b3), .val (.int (18 : Int32))]) rfl ?_
    refine XS.aloadN X40.here hx rfl (hb hby d3_29) rfl rfl ?_
    refine XS.iloadN X40.here hx rfl (hb hby d3_30) rfl ?_
    refine XS.iconst X40.here hx rfl (hb hby d3_31) ?_
    refine XS.isub X40.here hx rfl (hb hby d3_32) rfl ?_
    exact k
  refine Outs.of (ldJ X40 hx hZ e40 V40 (j := (17 : Int32)) (k := 17) rfl (by decide) (f := (mkF m 33 #[.val (.ref o0), .val (.int (3 : Int32)), .val (.ref b3), .val (.int (18 : Int32))] [(.int (17 : Int32)), (.ref b3)])) rfl rfl (hb hby d3_33)) ?_
  show Outs p e below s _ _ _ (T40.setTop (mkF m 34 #[.val (.ref o0), .val (.int (3 : Int32)), .val (.ref b3), .val (.int (18 : Int32))] [(.long (ct3_g25q 17))]))
  refine Outs.of (U' := T40.setTop (mkF m 20 #[.val (.ref o0), .val (.int (3 : Int32)), .val (.ref b3), .val (.int (18 : Int32))] [(.int (18 : Int32)), (.int (3 : Int32)), (.int (18 : Int32)), (.ref b3)])) (fun t k => ?_) ?_
  · refine X40.ldc2Long hx hown (mvT hZ (hw _ (List.mem_of_getElem? (i := 27) rfl))) (g := (mkF m 34 #[.val (.ref o0), .val (.int (3 : Int32)), .val (.ref b3), .val (.int (18 : Int32))] [(.long (ct3_g25q 17))])) rfl (hb hby d3_34) _ ?_
    refine XS.lcmp X40.here hx rfl (hb hby d3_37) rfl ?_
    refine XS.ifYes X40.here hx rfl (pc0 := 38) (pc' := 16) rfl (hb hby d3_38) rfl ((if0 _ _).trans (flt (fun q_ => (show ¬ ((2147483647 : Int64) < (ct3_g25q 17)) from (by decide +kernel)) ((lw_gt _ _).mp q_))).2.2.2) (by decide) (by decide) ?_
    refine XS.aloadN X40.here hx rfl (hb hby d3_16) rfl rfl ?_
    refine XS.iloadN X40.here hx rfl (hb hby d3_17) rfl ?_
    refine XS.iloadN X40.here hx rfl (hb hby d3_18) rfl ?_
    refine XS.iloadN X40.here hx rfl (hb hby d3_19) rfl ?_
    exact k
  obtain ⟨_, _, ⟨T41, L41, k41, n41⟩, -, X41, ⟨Lc41, hQ41, l41, y41, z41⟩, st41⟩ := Jvm.LawKit.callS X40 hx (y := (⟨"com/example/bitmend/bitmend/CodeParameters", "columns", "(II)J"⟩ : MethodName)) hown (mvT hZ (hw _ (List.mem_of_getElem? (i := 23) rfl))) (mvT hZ (hw _ (List.mem_of_getElem? (i := 24) rfl))) (mvT hZ (hw _ (List.mem_of_getElem? (i := 25) rfl))) (mvT hZ (hw _ (List.mem_of_getElem? (i := 26) rfl))) (by decide) (backOf (W := 2) (rm5 l Z a0 hw [] (3 : Int32) (18 : Int32) h40 n0 (by decide)) hZ (hw _ (List.mem_of_getElem? (i := 26) rfl)) (hw _ (List.mem_of_getElem? (i := 25) rfl)) (by decide) (by decide)) (g := (mkF m 20 #[.val (.ref o0), .val (.int (3 : Int32)), .val (.ref b3), .val (.int (18 : Int32))] [(.int (18 : Int32)), (.int (3 : Int32)), (.int (18 : Int32)), (.ref b3)])) rfl (by rw [hml]; rfl) (argsL := [(.int (3 : Int32)), (.int (18 : Int32))]) (rest := [(.int (18 : Int32)), (.ref b3)]) (lenOf pd_0 rfl) rfl (by show 2 * 0 + _ ≤ _; exact Nat.le_of_eq rfl) (hb hby d3_20) (fun _ _ => ⟨rfl, e40, (by decide : 1 + 0 ≤ _), (by decide : 33 + 0 ≤ _)⟩)
  dsimp only [Pt.U, Pt.locs, Pt.cells, Pt.slots] at X41 l41 y41 z41 st41 hQ41
  subst l41 y41 z41
  obtain ⟨rfl, N41q, e41⟩ := hQ41
  have N41 := Fr.app N40 N41q
  obtain ⟨Lh41, X41, N41⟩ := hide X41 N41 (C := 1) (S := 33) (by decide) (by decide)
  refine Outs.of st41 ?_
  show Outs p e below s _ _ _ (T41.setTop (mkF m 23 #[.val (.ref o0), .val (.int (3 : Int32)), .val (.ref b3), .val (.int (18 : Int32))] [(.long (F_f5 (3 : Int32) (18 : Int32))), (.int (18 : Int32)), (.ref b3)]))
  refine Outs.of (U' := T41.setTop (mkF m 25 #[.val (.ref o0), .val (.int (3 : Int32)), .val (.ref b3), .val (.int (18 : Int32))] [(.long ((F_f5 (3 : Int32) (18 : Int32)) + (1 : Int64))), (.int (18 : Int32)), (.ref b3)])) (fun t k => ?_) ?_
  · refine XS.lconst X41.here hx rfl (hb hby d3_23) ?_
    refine XS.ladd X41.here hx rfl (hb hby d3_24) rfl ?_
    exact k
  obtain ⟨T42, h42, X42, e42, W42, V42, st42⟩ := puJ X41 hx hZ e41 V40 (j := (18 : Int32)) (x := ((F_f5 (3 : Int32) (18 : Int32)) + (1 : Int64))) (k := 18) rfl (by decide) (f := (mkF m 25 #[.val (.ref o0), .val (.int (3 : Int32)), .val (.ref b3), .val (.int (18 : Int32))] [(.long ((F_f5 (3 : Int32) (18 : Int32)) + (1 : Int64))), (.int (18 : Int32)), (.ref b3)])) rfl rfl (hb hby d3_25)
  replace V42 : AJ Z h42 b3 .long 33 ct3_g25r := V42
  have N42 := Fr.snoc X42 N41 g_b3
  obtain ⟨Lh42, X42, N42⟩ := hide X42 N42 (C := 1) (S := 33) (by decide) (by decide)
  refine Outs.of st42 ?_
  show Outs p e below s _ _ _ (T42.setTop (mkF m 26 #[.val (.ref o0), .val (.int (3 : Int32)), .val (.ref b3), .val (.int (18 : Int32))] []))
  refine Outs.of (U' := T42.setTop (mkF m 33 #[.val (.ref o0), .val (.int (3 : Int32)), .val (.ref b3), .val (.int (19 : Int32))] [(.int (18 : Int32)), (.ref b3)])) (fun t k => ?_) ?_
  · refine XS.iinc X42.here hx rfl (hb hby d3_26) rfl (l' := #[.val (.ref o0), .val (.int (3 : Int32)), .val (.ref b3), .val (.int (19 : Int32))]) rfl ?_
    refine XS.aloadN X42.here hx rfl (hb hby d3_29) rfl rfl ?_
    refine XS.iloadN X42.here hx rfl (hb hby d3_30) rfl ?_
    refine XS.iconst X42.here hx rfl (hb hby d3_31) ?_
    refine XS.isub X42.here hx rfl (hb hby d3_32) rfl ?_
    exact k
  refine Outs.of (ldJ X42 hx hZ e42 V42 (j := (18 : Int32)) (k := 18) rfl (by decide) (f := (mkF m 33 #[.val (.ref o0), .val (.int (3 : Int32)), .val (.ref b3), .val (.int (19 : Int32))] [(.int (18 : Int32)), (.ref b3)])) rfl rfl (hb hby d3_33)) ?_
  show Outs p e below s _ _ _ (T42.setTop (mkF m 34 #[.val (.ref o0), .val (.int (3 : Int32)), .val (.ref b3), .val (.int (19 : Int32))] [(.long (ct3_g25r 18))]))
  refine Outs.of (U' := T42.setTop (mkF m 20 #[.val (.ref o0), .val (.int (3 : Int32)), .val (.ref b3), .val (.int (19 : Int32))] [(.int (19 : Int32)), (.int (3 : Int32)), (.int (19 : Int32)), (.ref b3)])) (fun t k => ?_) ?_
  · refine X42.ldc2Long hx hown (mvT hZ (hw _ (List.mem_of_getElem? (i := 27) rfl))) (g := (mkF m 34 #[.val (.ref o0), .val (.int (3 : Int32)), .val (.ref b3), .val (.int (19 : Int32))] [(.long (ct3_g25r 18))])) rfl (hb hby d3_34) _ ?_
    refine XS.lcmp X42.here hx rfl (hb hby d3_37) rfl ?_
    refine XS.ifYes X42.here hx rfl (pc0 := 38) (pc' := 16) rfl (hb hby d3_38) rfl ((if0 _ _).trans (flt (fun q_ => (show ¬ ((2147483647 : Int64) < (ct3_g25r 18)) from (by decide +kernel)) ((lw_gt _ _).mp q_))).2.2.2) (by decide) (by decide) ?_
    refine XS.aloadN X42.here hx rfl (hb hby d3_16) rfl rfl ?_
    refine XS.iloadN X42.here hx rfl (hb hby d3_17) rfl ?_
    refine XS.iloadN X42.here hx rfl (hb hby d3_18) rfl ?_
    refine XS.iloadN X42.here hx rfl (hb hby d3_19) rfl ?_
    exact k
  obtain ⟨_, _, ⟨T43, L43, k43, n43⟩, -, X43, ⟨Lc43, hQ43, l43, y43, z43⟩, st43⟩ := Jvm.LawKit.callS X42 hx (y := (⟨"com/example/bitmend/bitmend/CodeParameters", "columns", "(II)J"⟩ : MethodName)) hown (mvT hZ (hw _ (List.mem_of_getElem? (i := 23) rfl))) (mvT hZ (hw _ (List.mem_of_getElem? (i := 24) rfl))) (mvT hZ (hw _ (List.mem_of_getElem? (i := 25) rfl))) (mvT hZ (hw _ (List.mem_of_getElem? (i := 26) rfl))) (by decide) (backOf (W := 2) (rm5 l Z a0 hw [] (3 : Int32) (19 : Int32) h42 n0 (by decide)) hZ (hw _ (List.mem_of_getElem? (i := 26) rfl)) (hw _ (List.mem_of_getElem? (i := 25) rfl)) (by decide) (by decide)) (g := (mkF m 20 #[.val (.ref o0), .val (.int (3 : Int32)), .val (.ref b3), .val (.int (19 : Int32))] [(.int (19 : Int32)), (.int (3 : Int32)), (.int (19 : Int32)), (.ref b3)])) rfl (by rw [hml]; rfl) (argsL := [(.int (3 : Int32)), (.int (19 : Int32))]) (rest := [(.int (19 : Int32)), (.ref b3)]) (lenOf pd_0 rfl) rfl (by show 2 * 0 + _ ≤ _; exact Nat.le_of_eq rfl) (hb hby d3_20) (fun _ _ => ⟨rfl, e42, (by decide : 1 + 0 ≤ _), (by decide : 33 + 0 ≤ _)⟩)
  dsimp only [Pt.U, Pt.locs, Pt.cells, Pt.slots] at X43 l43 y43 z43 st43 hQ43
  subst l43 y43 z43
  obtain ⟨rfl, N43q, e43⟩ := hQ43
  have N43 := Fr.app N42 N43q
  obtain ⟨Lh43, X43, N43⟩ := hide X43 N43 (C := 1) (S := 33) (by decide) (by decide)
  refine Outs.of st43 ?_
  show Outs p e below s _ _ _ (T43.setTop (mkF m 23 #[.val (.ref o0), .val (.int (3 : Int32)), .val (.ref b3), .val (.int (19 : Int32))] [(.long (F_f5 (3 : Int32) (19 : Int32))), (.int (19 : Int32)), (.ref b3)]))
  refine Outs.of (U' := T43.setTop (mkF m 25 #[.val (.ref o0), .val (.int (3 : Int32)), .val (.ref b3), .val (.int (19 : Int32))] [(.long ((F_f5 (3 : Int32) (19 : Int32)) + (1 : Int64))), (.int (19 : Int32)), (.ref b3)])) (fun t k => ?_) ?_
  · refine XS.lconst X43.here hx rfl (hb hby d3_23) ?_
    refine XS.ladd X43.here hx rfl (hb hby d3_24) rfl ?_
    exact k
  obtain ⟨T44, h44, X44, e44, W44, V44, st44⟩ := puJ X43 hx hZ e43 V42 (j := (19 : Int32)) (x := ((F_f5 (3 : Int32) (19 : Int32)) + (1 : Int64))) (k := 19) rfl (by decide) (f := (mkF m 25 #[.val (.ref o0), .val (.int (3 : Int32)), .val (.ref b3), .val (.int (19 : Int32))] [(.long ((F_f5 (3 : Int32) (19 : Int32)) + (1 : Int64))), (.int (19 : Int32)), (.ref b3)])) rfl rfl (hb hby d3_25)
  replace V44 : AJ Z h44 b3 .long 33 ct3_g25s := V44
  have N44 := Fr.snoc X44 N43 g_b3
  obtain ⟨Lh44, X44, N44⟩ := hide X44 N44 (C := 1) (S := 33) (by decide) (by decide)
  refine Outs.of st44 ?_
  show Outs p e below s _ _ _ (T44.setTop (mkF m 26 #[.val (.ref o0), .val (.int (3 : Int32)), .val (.ref b3), .val (.int (19 : Int32))] []))
  refine Outs.of (U' := T44.setTop (mkF m 33 #[.val (.ref o0), .val (.int (3 : Int32)), .val (.ref b3), .val (.int (20 : Int32))] [(.int (19 : Int32)), (.ref b3)])) (fun t k => ?_) ?_
  · refine XS.iinc X44.here hx rfl (hb hby d3_26) rfl (l' := #[.val (.ref o0), .val (.int (3 : Int32)), .val (.ref b3), .val (.int (20 : Int32))]) rfl ?_
    refine XS.aloadN X44.here hx rfl (hb hby d3_29) rfl rfl ?_
    refine XS.iloadN X44.here hx rfl (hb hby d3_30) rfl ?_
    refine XS.iconst X44.here hx rfl (hb hby d3_31) ?_
    refine XS.isub X44.here hx rfl (hb hby d3_32) rfl ?_
    exact k
  refine Outs.of (ldJ X44 hx hZ e44 V44 (j := (19 : Int32)) (k := 19) rfl (by decide) (f := (mkF m 33 #[.val (.ref o0), .val (.int (3 : Int32)), .val (.ref b3), .val (.int (20 : Int32))] [(.int (19 : Int32)), (.ref b3)])) rfl rfl (hb hby d3_33)) ?_
  show Outs p e below s _ _ _ (T44.setTop (mkF m 34 #[.val (.ref o0), .val (.int (3 : Int32)), .val (.ref b3), .val (.int (20 : Int32))] [(.long (ct3_g25s 19))]))
  refine Outs.of (U' := T44.setTop (mkF m 20 #[.val (.ref o0), .val (.int (3 : Int32)), .val (.ref b3), .val (.int (20 : Int32))] [(.int (20 : Int32)), (.int (3 : Int32)), (.int (20 : Int32)), (.ref b3)])) (fun t k => ?_) ?_
  · refine X44.ldc2Long hx hown (mvT hZ (hw _ (List.mem_of_getElem? (i := 27) rfl))) (g := (mkF m 34 #[.val (.ref o0), .val (.int (3 : Int32)), .val (.ref b3), .val (.int (20 : Int32))] [(.long (ct3_g25s 19))])) rfl (hb hby d3_34) _ ?_
    refine XS.lcmp X44.here hx rfl (hb hby d3_37) rfl ?_
    refine XS.ifYes X44.here hx rfl (pc0 := 38) (pc' := 16) rfl (hb hby d3_38) rfl ((if0 _ _).trans (flt (fun q_ => (show ¬ ((2147483647 : Int64) < (ct3_g25s 19)) from (by decide +kernel)) ((lw_gt _ _).mp q_))).2.2.2) (by decide) (by decide) ?_
    refine XS.aloadN X44.here hx rfl (hb hby d3_16) rfl rfl ?_
    refine XS.iloadN X44.here hx rfl (hb hby d3_17) rfl ?_
    refine XS.iloadN X44.here hx rfl (hb hby d3_18) rfl ?_
    refine XS.iloadN X44.here hx rfl (hb hby d3_19) rfl ?_
    exact k
  obtain ⟨_, _, ⟨T45, L45, k45, n45⟩, -, X45, ⟨Lc45, hQ45, l45, y45, z45⟩, st45⟩ := Jvm.LawKit.callS X44 hx (y := (⟨"com/example/bitmend/bitmend/CodeParameters", "columns", "(II)J"⟩ : MethodName)) hown (mvT hZ (hw _ (List.mem_of_getElem? (i := 23) rfl))) (mvT hZ (hw _ (List.mem_of_getElem? (i := 24) rfl))) (mvT hZ (hw _ (List.mem_of_getElem? (i := 25) rfl))) (mvT hZ (hw _ (List.mem_of_getElem? (i := 26) rfl))) (by decide) (backOf (W := 2) (rm5 l Z a0 hw [] (3 : Int32) (20 : Int32) h44 n0 (by decide)) hZ (hw _ (List.mem_of_getElem? (i := 26) rfl)) (hw _ (List.mem_of_getElem? (i := 25) rfl)) (by decide) (by decide)) (g := (mkF m 20 #[.val (.ref o0), .val (.int (3 : Int32)), .val (.ref b3), .val (.int (20 : Int32))] [(.int (20 : Int32)), (.int (3 : Int32)), (.int (20 : Int32)), (.ref b3)])) rfl (by rw [hml]; rfl) (argsL := [(.int (3 : Int32)), (.int (20 : Int32))]) (rest := [(.int (20 : Int32)), (.ref b3)]) (lenOf pd_0 rfl) rfl (by show 2 * 0 + _ ≤ _; exact Nat.le_of_eq rfl) (hb hby d3_20) (fun _ _ => ⟨rfl, e44, (by decide : 1 + 0 ≤ _), (by decide : 33 + 0 ≤ _)⟩)
  dsimp only [Pt.U, Pt.locs, Pt.cells, Pt.slots] at X45 l45 y45 z45 st45 hQ45
  subst l45 y45 z45
  obtain ⟨rfl, N45q, e45⟩ := hQ45
  have N45 := Fr.app N44 N45q
  obtain ⟨Lh45, X45, N45⟩ := hide X45 N45 (C := 1) (S := 33) (by decide) (by decide)
  refine Outs.of st45 ?_
  show Outs p e below s _ _ _ (T45.setTop (mkF m 23 #[.val (.ref o0), .val (.int (3 : Int32)), .val (.ref b3), .val (.int (20 : Int32))] [(.long (F_f5 (3 : Int32) (20 : Int32))), (.int (20 : Int32)), (.ref b3)]))
  refine Outs.of (U' := T45.setTop (mkF m 25 #[.val (.ref o0), .val (.int (3 : Int32)), .val (.ref b3), .val (.int (20 : Int32))] [(.long ((F_f5 (3 : Int32) (20 : Int32)) + (1 : Int64))), (.int (20 : Int32)), (.ref b3)])) (fun t k => ?_) ?_
  · refine XS.lconst X45.here hx rfl (hb hby d3_23) ?_
    refine XS.ladd X45.here hx rfl (hb hby d3_24) rfl ?_
    exact k
  obtain ⟨T46, h46, X46, e46, W46, V46, st46⟩ := puJ X45 hx hZ e45 V44 (j := (20 : Int32)) (x := ((F_f5 (3 : Int32) (20 : Int32)) + (1 : Int64))) (k := 20) rfl (by decide) (f := (mkF m 25 #[.val (.ref o0), .val (.int (3 : Int32)), .val (.ref b3), .val (.int (20 : Int32))] [(.long ((F_f5 (3 : Int32) (20 : Int32)) + (1 : Int64))), (.int (20 : Int32)), (.ref b3)])) rfl rfl (hb hby d3_25)
  replace V46 : AJ Z h46 b3 .long 33 ct3_g25t := V46
  have N46 := Fr.snoc X46 N45 g_b3
  obtain ⟨Lh46, X46, N46⟩ := hide X46 N46 (C := 1) (S := 33) (by decide) (by decide)
  refine Outs.of st46 ?_
  show Outs p e below s _ _ _ (T46.setTop (mkF m 26 #[.val (.ref o0), .val (.int (3 : Int32)), .val (.ref b3), .val (.int (20 : Int32))] []))
  refine Outs.of (U' := T46.setTop (mkF m 33 #[.val (.ref o0), .val (.int (3 : Int32)), .val (.ref b3), .val (.int (21 : Int32))] [(.int (20 : Int32)), (.ref b3)])) (fun t k => ?_) ?_
  · refine XS.iinc X46.here hx rfl (hb hby d3_26) rfl (l' := #[.val (.ref o0), .val (.int (3 : Int32)), .val (.ref b3), .val (.int (21 : Int32))]) rfl ?_
    refine XS.aloadN X46.here hx rfl (hb hby d3_29) rfl rfl ?_
    refine XS.iloadN X46.here hx rfl (hb hby d3_30) rfl ?_
    refine XS.iconst X46.here hx rfl (hb hby d3_31) ?_
    refine XS.isub X46.here hx rfl (hb hby d3_32) rfl ?_
    exact k
  refine Outs.of (ldJ X46 hx hZ e46 V46 (j := (20 : Int32)) (k := 20) rfl (by decide) (f := (mkF m 33 #[.val (.ref o0), .val (.int (3 : Int32)), .val (.ref b3), .val (.int (21 : Int32))] [(.int (20 : Int32)), (.ref b3)])) rfl rfl (hb hby d3_33)) ?_
  show Outs p e below s _ _ _ (T46.setTop (mkF m 34 #[.val (.ref o0), .val (.int (3 : Int32)), .val (.ref b3), .val (.int (21 : Int32))] [(.long (ct3_g25t 20))]))
  refine Outs.of (U' := T46.setTop (mkF m 20 #[.val (.ref o0), .val (.int (3 : Int32)), .val (.ref b3), .val (.int (21 : Int32))] [(.int (21 : Int32)), (.int (3 : Int32)), (.int (21 : Int32)), (.ref b3)])) (fun t k => ?_) ?_
  · refine X46.ldc2Long hx hown (mvT hZ (hw _ (List.mem_of_getElem? (i := 27) rfl))) (g := (mkF m 34 #[.val (.ref o0), .val (.int (3 : Int32)), .val (.ref b3), .val (.int (21 : Int32))] [(.long (ct3_g25t 20))])) rfl (hb hby d3_34) _ ?_
    refine XS.lcmp X46.here hx rfl (hb hby d3_37) rfl ?_
    refine XS.ifYes X46.here hx rfl (pc0 := 38) (pc' := 16) rfl (hb hby d3_38) rfl ((if0 _ _).trans (flt (fun q_ => (show ¬ ((2147483647 : Int64) < (ct3_g25t 20)) from (by decide +kernel)) ((lw_gt _ _).mp q_))).2.2.2) (by decide) (by decide) ?_
    refine XS.aloadN X46.here hx rfl (hb hby d3_16) rfl rfl ?_
    refine XS.iloadN X46.here hx rfl (hb hby d3_17) rfl ?_
    refine XS.iloadN X46.here hx rfl (hb hby d3_18) rfl ?_
    refine XS.iloadN X46.here hx rfl (hb hby d3_19) rfl ?_
    exact k
  obtain ⟨_, _, ⟨T47, L47, k47, n47⟩, -, X47, ⟨Lc47, hQ47, l47, y47, z47⟩, st47⟩ := Jvm.LawKit.callS X46 hx (y := (⟨"com/example/bitmend/bitmend/CodeParameters", "columns", "(II)J"⟩ : MethodName)) hown (mvT hZ (hw _ (List.mem_of_getElem? (i := 23) rfl))) (mvT hZ (hw _ (List.mem_of_getElem? (i := 24) rfl))) (mvT hZ (hw _ (List.mem_of_getElem? (i := 25) rfl))) (mvT hZ (hw _ (List.mem_of_getElem? (i := 26) rfl))) (by decide) (backOf (W := 2) (rm5 l Z a0 hw [] (3 : Int32) (21 : Int32) h46 n0 (by decide)) hZ (hw _ (List.mem_of_getElem? (i := 26) rfl)) (hw _ (List.mem_of_getElem? (i := 25) rfl)) (by decide) (by decide)) (g := (mkF m 20 #[.val (.ref o0), .val (.int (3 : Int32)), .val (.ref b3), .val (.int (21 : Int32))] [(.int (21 : Int32)), (.int (3 : Int32)), (.int (21 : Int32)), (.ref b3)])) rfl (by rw [hml]; rfl) (argsL := [(.int (3 : Int32)), (.int (21 : Int32))]) (rest := [(.int (21 : Int32)), (.ref b3)]) (lenOf pd_0 rfl) rfl (by show 2 * 0 + _ ≤ _; exact Nat.le_of_eq rfl) (hb hby d3_20) (fun _ _ => ⟨rfl, e46, (by decide : 1 + 0 ≤ _), (by decide : 33 + 0 ≤ _)⟩)
  dsimp only [Pt.U, Pt.locs, Pt.cells, Pt.slots] at X47 l47 y47 z47 st47 hQ47
  subst l47 y47 z47
  obtain ⟨rfl, N47q, e47⟩ := hQ47
  have N47 := Fr.app N46 N47q
  obtain ⟨Lh47, X47, N47⟩ := hide X47 N47 (C := 1) (S := 33) (by decide) (by decide)
  refine Outs.of st47 ?_
  show Outs p e below s _ _ _ (T47.setTop (mkF m 23 #[.val (.ref o0), .val (.int (3 : Int32)), .val (.ref b3), .val (.int (21 : Int32))] [(.long (F_f5 (3 : Int32) (21 : Int32))), (.int (21 : Int32)), (.ref b3)]))
  refine Outs.of (U' := T47.setTop (mkF m 25 #[.val (.ref o0), .val (.int (3 : Int32)), .val (.ref b3), .val (.int (21 : Int32))] [(.long ((F_f5 (3 : Int32) (21 : Int32)) + (1 : Int64))), (.int (21 : Int32)), (.ref b3)])) (fun t k => ?_) ?_
  · refine XS.lconst X47.here hx rfl (hb hby d3_23) ?_
    refine XS.ladd X47.here hx rfl (hb hby d3_24) rfl ?_
    exact k
  obtain ⟨T48, h48, X48, e48, W48, V48, st48⟩ := puJ X47 hx hZ e47 V46 (j := (21 : Int32)) (x := ((F_f5 (3 : Int32) (21 : Int32)) + (1 : Int64))) (k := 21) rfl (by decide) (f := (mkF m 25 #[.val (.ref o0), .val (.int (3 : Int32)), .val (.ref b3), .val (.int (21 : Int32))] [(.long ((F_f5 (3 : Int32) (21 : Int32)) + (1 : Int64))), (.int (21 : Int32)), (.ref b3)])) rfl rfl (hb hby d3_25)
  replace V48 : AJ Z h48 b3 .long 33 ct3_g25u := V48
  have N48 := Fr.snoc X48 N47 g_b3
  obtain ⟨Lh48, X48, N48⟩ := hide X48 N48 (C := 1) (S := 33) (by decide) (by decide)
  refine Outs.of st48 ?_
  show Outs p e below s _ _ _ (T48.setTop (mkF m 26 #[.val (.ref o0), .val (.int (3 : Int32)), .val (.ref b3), .val (.int (21 : Int32))] []))
  refine Outs.of (U' := T48.setTop (mkF m 33 #[.val (.ref o0), .val (.int (3 : Int32)), .val (.ref b3), .val (.int (22 : Int32))] [(.int (21 : Int32)), (.ref b3)])) (fun t k => ?_) ?_
  · refine XS.iinc X48.here hx rfl (hb hby d3_26) rfl (l' := #[.val (.ref o0), .val (.int (3 : Int32)), .val (.ref b3), .val (.int (22 : Int32))]) rfl ?_
    refine XS.aloadN X48.here hx rfl (hb hby d3_29) rfl rfl ?_
    refine XS.iloadN X48.here hx rfl (hb hby d3_30) rfl ?_
    refine XS.iconst X48.here hx rfl (hb hby d3_31) ?_
    refine XS.isub X48.here hx rfl (hb hby d3_32) rfl ?_
    exact k
  refine Outs.of (ldJ X48 hx hZ e48 V48 (j := (21 : Int32)) (k := 21) rfl (by decide) (f := (mkF m 33 #[.val (.ref o0), .val (.int (3 : Int32)), .val (.ref b3), .val (.int (22 : Int32))] [(.int (21 : Int32)), (.ref b3)])) rfl rfl (hb hby d3_33)) ?_
  show Outs p e below s _ _ _ (T48.setTop (mkF m 34 #[.val (.ref o0), .val (.int (3 : Int32)), .val (.ref b3), .val (.int (22 : Int32))] [(.long (ct3_g25u 21))]))
  refine Outs.of (U' := T48.setTop (mkF m 44 #[.val (.ref o0), .val (.int (3 : Int32)), .val (.ref b3), .val (.int (22 : Int32))] [(.int (22 : Int32)), (.ref b3), (.ref o0)])) (fun t k => ?_) ?_
  · refine X48.ldc2Long hx hown (mvT hZ (hw _ (List.mem_of_getElem? (i := 27) rfl))) (g := (mkF m 34 #[.val (.ref o0), .val (.int (3 : Int32)), .val (.ref b3), .val (.int (22 : Int32))] [(.long (ct3_g25u 21))])) rfl (hb hby d3_34) _ ?_
    refine XS.lcmp X48.here hx rfl (hb hby d3_37) rfl ?_
    refine XS.ifNo X48.here hx rfl (hb hby d3_38) rfl ((if0 _ _).trans (tlt ((lw_gt _ _).mpr (show (2147483647 : Int64) < (ct3_g25u 21) from (by decide +kernel)))).2.2.2) ?_
    refine XS.aloadN X48.here hx rfl (hb hby d3_41) rfl rfl ?_
    refine XS.aloadN X48.here hx rfl (hb hby d3_42) rfl rfl ?_
    refine XS.iloadN X48.here hx rfl (hb hby d3_43) rfl ?_
    exact k
  have f49 : Exa Z h48 o0 "com/example/bitmend/bitmend/PositionalColumns" := (((((((((((((((((((((((f4.ext E3).wr W6).wr W8).wr W10).wr W12).wr W14).wr W16).wr W18).wr W20).wr W22).wr W24).wr W26).wr W28).wr W30).wr W32).wr W34).wr W36).wr W38).wr W40).wr W42).wr W44).wr W46).wr W48)
  obtain ⟨_, _, ⟨T50, L50, k50, n50⟩, -, X50, ⟨Lc50, hQ50, l50, y50, z50⟩, st50⟩ := Jvm.LawKit.callS X48 hx (y := (⟨"java/util/Arrays", "copyOf", "([JI)[J"⟩ : MethodName)) hown (mvT hZ (hw _ (List.mem_of_getElem? (i := 28) rfl))) (mvT hZ (hw _ (List.mem_of_getElem? (i := 29) rfl))) (mvT hZ (hw _ (List.mem_of_getElem? (i := 30) rfl))) (mvT hZ (hw _ (List.mem_of_getElem? (i := 31) rfl))) (by decide) (backOf (W := 1) (rmcp3 l Z a0 hw [] b3 ct3_g25u h48 n0 (Nat.le_trans (Nat.le_trans (Nat.le_trans (Nat.le_trans (Nat.le_trans (Nat.le_trans (Nat.le_trans (Nat.le_trans (Nat.le_trans (Nat.le_trans (Nat.le_trans (Nat.le_trans (Nat.le_trans (Nat.le_trans (Nat.le_trans (Nat.le_trans (Nat.le_trans (Nat.le_trans (Nat.le_trans (Nat.le_trans (Nat.le_trans (Nat.le_trans (Nat.le_trans (Nat.le_trans Z0 (Keep.of_wr W2).1) E3.1) (Keep.of_wr W6).1) (Keep.of_wr W8).1) (Keep.of_wr W10).1) (Keep.of_wr W12).1) (Keep.of_wr W14).1) (Keep.of_wr W16).1) (Keep.of_wr W18).1) (Keep.of_wr W20).1) (Keep.of_wr W22).1) (Keep.of_wr W24).1) (Keep.of_wr W26).1) (Keep.of_wr W28).1) (Keep.of_wr W30).1) (Keep.of_wr W32).1) (Keep.of_wr W34).1) (Keep.of_wr W36).1) (Keep.of_wr W38).1) (Keep.of_wr W40).1) (Keep.of_wr W42).1) (Keep.of_wr W44).1) (Keep.of_wr W46).1) (Keep.of_wr W48).1) V48) hZ (hw _ (List.mem_of_getElem? (i := 31) rfl)) (hw _ (List.mem_of_getElem? (i := 30) rfl)) (by decide) (by decide)) (g := (mkF m 44 #[.val (.ref o0), .val (.int (3 : Int32)), .val (.ref b3), .val (.int (22 : Int32))] [(.int (22 : Int32)), (.ref b3), (.ref o0)])) rfl (by rw [hml]; rfl) (argsL := [(.ref b3), (.int (22 : Int32))]) (rest := [(.ref o0)]) (lenOf pd_4 rfl) rfl (by show 2 * 0 + _ ≤ _; exact Nat.le_of_eq rfl) (hb hby d3_44) (fun _ _ => ⟨rfl, e48, (by decide : 1 + 1 ≤ _), (by decide : 33 + 22 ≤ _)⟩)
  dsimp only [Pt.U, Pt.locs, Pt.cells, Pt.slots] at X50 l50 y50 z50 st50 hQ50
  subst l50 y50 z50
  obtain ⟨b50, g_b50, hs50, rfl, N50q, K50, u50_0⟩ := hQ50
  have N50 := Fr.app N48 N50q
  have sz_b50 : h0.size ≤ b50 := Nat.le_trans (((((((((((((((((((((((((Keep.refl h0 [o0]).wr W2 (Or.inl (List.mem_of_getElem? (i := 0) rfl))).ext E3).wr W6 (Or.inr sz_b3)).wr W8 (Or.inr sz_b3)).wr W10 (Or.inr sz_b3)).wr W12 (Or.inr sz_b3)).wr W14 (Or.inr sz_b3)).wr W16 (Or.inr sz_b3)).wr W18 (Or.inr sz_b3)).wr W20 (Or.inr sz_b3)).wr W22 (Or.inr sz_b3)).wr W24 (Or.inr sz_b3)).wr W26 (Or.inr sz_b3)).wr W28 (Or.inr sz_b3)).wr W30 (Or.inr sz_b3)).wr W32 (Or.inr sz_b3)).wr W34 (Or.inr sz_b3)).wr W36 (Or.inr sz_b3)).wr W38 (Or.inr sz_b3)).wr W40 (Or.inr sz_b3)).wr W42 (Or.inr sz_b3)).wr W44 (Or.inr sz_b3)).wr W46 (Or.inr sz_b3)).wr W48 (Or.inr sz_b3)).1 hs50
  have ne_o0_b50 : o0 ≠ b50 := Nat.ne_of_lt (Nat.lt_of_lt_of_le f49.lt hs50)
  have ne_b3_b50 : b3 ≠ b50 := Nat.ne_of_lt (Nat.lt_of_lt_of_le V48.lt hs50)
  obtain ⟨Lh50, X50, N50⟩ := hide X50 N50 (C := 2) (S := 55) (by decide) (by decide)
  refine Outs.of st50 ?_
  show Outs p e below s _ _ _ (T50.setTop (mkF m 47 #[.val (.ref o0), .val (.int (3 : Int32)), .val (.ref b3), .val (.int (22 : Int32))] [(.ref b50), (.ref o0)]))
  have f52 : Exa Z T50.heap o0 "com/example/bitmend/bitmend/PositionalColumns" := (f49.keep K50)
  have f53 : Fld Z T50.heap o0 "com/example/bitmend/bitmend/PositionalColumns" "checkPositions" "[J" .null := (((((((((((((((((((((((((F_o0_checkPositions.other W2 (Or.inr (slot_ne (Or.inr (hw _ (List.mem_of_getElem? (i := 40) rfl))) (Or.inr (hw _ (List.mem_of_getElem? (i := 21) rfl))) (by decide) (t := (.array .long)) (t' := .int) (by decide) (by decide)))).ext E3).other W6 (Or.inl ne_o0_b3)).other W8 (Or.inl ne_o0_b3)).other W10 (Or.inl ne_o0_b3)).other W12 (Or.inl ne_o0_b3)).other W14 (Or.inl ne_o0_b3)).other W16 (Or.inl ne_o0_b3)).other W18 (Or.inl ne_o0_b3)).other W20 (Or.inl ne_o0_b3)).other W22 (Or.inl ne_o0_b3)).other W24 (Or.inl ne_o0_b3)).other W26 (Or.inl ne_o0_b3)).other W28 (Or.inl ne_o0_b3)).other W30 (Or.inl ne_o0_b3)).other W32 (Or.inl ne_o0_b3)).other W34 (Or.inl ne_o0_b3)).other W36 (Or.inl ne_o0_b3)).other W38 (Or.inl ne_o0_b3)).other W40 (Or.inl ne_o0_b3)).other W42 (Or.inl ne_o0_b3)).other W44 (Or.inl ne_o0_b3)).other W46 (Or.inl ne_o0_b3)).other W48 (Or.inl ne_o0_b3)).keep K50 nin0)
  obtain ⟨T51, h51, X51, e51, W51, st51⟩ := putF X50 hx hZ hown (host := "") (Or.inl (hw _ (List.mem_of_getElem? (i := 39) rfl))) Via.refl rfl f53 f52 (Or.inr ⟨(hw _ (List.mem_of_getElem? (i := 40) rfl)), rfl, hnm⟩) (hw _ (List.mem_of_getElem? (i := 12) rfl)) (ty := (.array .long)) (by decide) rfl rfl (g := (mkF m 47 #[.val (.ref o0), .val (.int (3 : Int32)), .val (.ref b3), .val (.int (22 : Int32))] [(.ref b50), (.ref o0)])) rfl rfl (hb hby d3_47)
  have F51 : Fld Z h51 o0 "com/example/bitmend/bitmend/PositionalColumns" "checkPositions" "[J" (.ref b50) := f53.same W51
  have N51 := Fr.snoc X51 N50 g_o0
  obtain ⟨Lh51, X51, N51⟩ := hide X51 N51 (C := 2) (S := 55) (by decide) (by decide)
  refine Outs.of st51 ?_
  show Outs p e below s _ _ _ (T51.setTop (mkF m 50 #[.val (.ref o0), .val (.int (3 : Int32)), .val (.ref b3), .val (.int (22 : Int32))] []))
  have f54 : Exa Z h51 o0 "com/example/bitmend/bitmend/PositionalColumns" := (f52.wr W51)
  have f55 : Fld Z h51 o0 "com/example/bitmend/bitmend/PositionalColumns" "fieldSize" "I" (.int (3 : Int32)) := (((((((((((((((((((((((((F2.ext E3).other W6 (Or.inl ne_o0_b3)).other W8 (Or.inl ne_o0_b3)).other W10 (Or.inl ne_o0_b3)).other W12 (Or.inl ne_o0_b3)).other W14 (Or.inl ne_o0_b3)).other W16 (Or.inl ne_o0_b3)).other W18 (Or.inl ne_o0_b3)).other W20 (Or.inl ne_o0_b3)).other W22 (Or.inl ne_o0_b3)).other W24 (Or.inl ne_o0_b3)).other W26 (Or.inl ne_o0_b3)).other W28 (Or.inl ne_o0_b3)).other W30 (Or.inl ne_o0_b3)).other W32 (Or.inl ne_o0_b3)).other W34 (Or.inl ne_o0_b3)).other W36 (Or.inl ne_o0_b3)).other W38 (Or.inl ne_o0_b3)).other W40 (Or.inl ne_o0_b3)).other W42 (Or.inl ne_o0_b3)).other W44 (Or.inl ne_o0_b3)).other W46 (Or.inl ne_o0_b3)).other W48 (Or.inl ne_o0_b3)).keep K50 nin0).other W51 (Or.inr (slot_ne (Or.inr (hw _ (List.mem_of_getElem? (i := 21) rfl))) (Or.inr (hw _ (List.mem_of_getElem? (i := 40) rfl))) (by decide) (t := .int) (t' := (.array .long)) (by decide) (by decide))))
  exact Outs.retV X51 hx hret (hb hby d3_50) hlk (by decide) (by decide) e51 ⟨rfl, N51, (((((((((((((((((((((((((((Keep.refl h0 [o0]).wr W2 (Or.inl (List.mem_of_getElem? (i := 0) rfl))).ext E3).wr W6 (Or.inr sz_b3)).wr W8 (Or.inr sz_b3)).wr W10 (Or.inr sz_b3)).wr W12 (Or.inr sz_b3)).wr W14 (Or.inr sz_b3)).wr W16 (Or.inr sz_b3)).wr W18 (Or.inr sz_b3)).wr W20 (Or.inr sz_b3)).wr W22 (Or.inr sz_b3)).wr W24 (Or.inr sz_b3)).wr W26 (Or.inr sz_b3)).wr W28 (Or.inr sz_b3)).wr W30 (Or.inr sz_b3)).wr W32 (Or.inr sz_b3)).wr W34 (Or.inr sz_b3)).wr W36 (Or.inr sz_b3)).wr W38 (Or.inr sz_b3)).wr W40 (Or.inr sz_b3)).wr W42 (Or.inr sz_b3)).wr W44 (Or.inr sz_b3)).wr W46 (Or.inr sz_b3)).wr W48 (Or.inr sz_b3)).trans K50 all0).wr W51 (Or.inl (List.mem_of_getElem? (i := 0) rfl))), f54, f55⟩
def cp5_g28 (g : Nat → Int64) : Nat → Int64 := (fun j_ => if j_ < 16 then g j_ else (fun _ => (0 : Int64)) j_)
def Q_cp5 (Z : State) (o0 : Addr) (g : Nat → Int64) (h0 : Heap) (n0 : Nat) (v : Option Value) (h : Heap) (L : List Loc) : Prop := ∃ b1 : Addr, n0 ≤ b1 ∧ h0.size ≤ b1 ∧ v = some (.ref b1) ∧ Fr n0 L ∧ Keep h0 h [] ∧ AJ Z h b1 .long 16 (cp5_g28 g)
set_option maxRecDepth 65536 in
set_option maxHeartbeats 40000000 in
theorem rmcp5 (l : Launch) (Z : State) (a0 : Array Value) (hw : ∀ d ∈ tables_1, d.before a0 Z = true) (ws : List Jvm.Cond) (o0 : Addr) (g : Nat → Int64) (h0 : Heap) (n0 : Nat) (Z0 : n0 ≤ h0.size) (A_o0 : AJ Z h0 o0 .long 33 g) :
    MetFree l (⟨"java/util/Arrays", "copyOf", "([JI)[J"⟩ : MethodName) (head1 (Jvm.Cond.code (⟨"java/util/Arrays", "copyOf", "([JI)[J"⟩ : MethodName) jdk_65_method_124_code 3 (some (.array .long)) :: ws) ({ frames := 1, cells := 1, slots := 16, locals := 18 } : Room)) (fun a U => a = #[(.ref o0), (.int (16 : Int32))] ∧ Z.Warmed39 U.vm ∧ U.heap = h0) (fun _ _ _ _ _ => True) (fun _ U o U' => ∃ v L, o = .returned v ∧ Q_cp5 Z o0 g h0 n0 v U'.heap L ∧ FrameEnd U o U' L ({ frames := 1, cells := 1, slots := 16, locals := 18 } : Room).cells ({ frames := 1, cells := 1, slots := 16, locals := 18 } : Room).slots) := by
  refine MetFree.of_bodySF (plainFor_of_name pn_6) hisR ?_
  intro p e s m args below meth c s₁ Bd hml0 hP hK
  obtain ⟨rfl, hZ, hh⟩ := hP
  have hx := Bd.exec
  have hby := Bd.bytes
  have hml : c.maxLocals = 3 := hml0
  have hown : s.vm.findClass "java/util/Arrays" = some m.cls := findClass_of_methodNamed Bd.named
  have hnm := (name_of_methodNamed Bd.named Bd.method).1
  have hret := Bd.returns
  have hlk : meth.locks = false := BodyLoose.notSynchronized Bd
  have X0 : Stand p l e ({ frames := 1, cells := 1, slots := 16, locals := 18 } : Room) s m #[(.ref o0), (.int (16 : Int32))] below meth c s₁ [] 0 0 := Stand.of_body Bd
  have e0 : s₁.heap = h0 := by rw [← hh, Bd.state]; rfl
  have N0 := Fr.nil n0
  show Outs p e below s (Q_cp5 Z o0 g h0 n0) _ _ _
  refine Outs.of (U' := s₁.setTop (mkF m 0 #[.val (.ref o0), .val (.int (16 : Int32)), .unset] [])) (fun t k => castTop (ef_6 m o0 (16 : Int32)) k) ?_
  refine Outs.of (U' := s₁.setTop (mkF m 2 #[.val (.ref o0), .val (.int (16 : Int32)), .unset] [(.ref o0), (.int (16 : Int32))])) (fun t k => ?_) ?_
  · refine XS.iloadN X0.here hx rfl (hb hby d6_0) rfl ?_
    refine XS.aloadN X0.here hx rfl (hb hby d6_1) rfl rfl ?_
    exact k
  refine Outs.of (alen X0 hx hZ e0 A_o0 (z := (33 : Int32)) rfl (f := (mkF m 2 #[.val (.ref o0), .val (.int (16 : Int32)), .unset] [(.ref o0), (.int (16 : Int32))])) rfl rfl (hb hby d6_2)) ?_
  show Outs p e below s _ _ _ (s₁.setTop (mkF m 3 #[.val (.ref o0), .val (.int (16 : Int32)), .unset] [(.int (33 : Int32)), (.int (16 : Int32))]))
  refine Outs.of (U' := s₁.setTop (mkF m 15 #[.val (.ref o0), .val (.int (16 : Int32)), .unset] [(.int (16 : Int32))])) (fun t k => ?_) ?_
  · refine XS.icmpYes X0.here hx rfl (pc0 := 3) (pc' := 14) rfl (hb hby d6_3) rfl (feq (show ¬ ((16 : Int32) = (33 : Int32)) from (by decide))).2 (by decide) (by decide) ?_
    refine XS.iloadN X0.here hx rfl (hb hby d6_14) rfl ?_
    exact k
  obtain ⟨T1, h1, X1, e1, E1, A1, st1⟩ := newAF X0 hx hZ (aty := .long) (hw _ (List.mem_of_getElem? (i := 22) rfl)) e0 (f := (mkF m 15 #[.val (.ref o0), .val (.int (16 : Int32)), .unset] [(.int (16 : Int32))])) rfl (hb hby d6_15) rfl (k := 16) rfl (cap := 16) (by decide) (by decide) (by decide) (by decide)
  obtain ⟨b1, g1⟩ : ∃ z, z = h0.size := ⟨_, rfl⟩
  rw [← g1] at A1 st1
  have g_b1 : n0 ≤ b1 := Nat.le_trans Z0 (Nat.le_of_eq g1.symm)
  have sz_b1 : h0.size ≤ b1 := Nat.le_trans (Keep.refl h0 []).1 (Nat.le_of_eq g1.symm)
  have ne_o0_b1 : o0 ≠ b1 := Nat.ne_of_lt (Nat.lt_of_lt_of_eq A_o0.lt g1.symm)
  have V1 : AJ Z h1 b1 .long 16 (fun _ => (0 : Int64)) := A1
  refine Outs.of st1 ?_
  show Outs p e below s _ _ _ (T1.setTop (mkF m 17 #[.val (.ref o0), .val (.int (16 : Int32)), .unset] [(.ref b1)]))
  refine Outs.of (U' := T1.setTop (mkF m 23 #[.val (.ref o0), .val (.int (16 : Int32)), .val (.ref b1)] [(.ref o0), (.int (0 : Int32)), (.ref b1), (.int (0 : Int32)), (.ref o0)])) (fun t k => ?_) ?_
  · refine XS.astoreN X1.here hx rfl (hb hby d6_17) rfl rfl (l' := #[.val (.ref o0), .val (.int (16 : Int32)), .val (.ref b1)]) rfl ?_
    refine XS.aloadN X1.here hx rfl (hb hby d6_18) rfl rfl ?_
    refine XS.iconst X1.here hx rfl (hb hby d6_19) ?_
    refine XS.aloadN X1.here hx rfl (hb hby d6_20) rfl rfl ?_
    refine XS.iconst X1.here hx rfl (hb hby d6_21) ?_
    refine XS.aloadN X1.here hx rfl (hb hby d6_22) rfl rfl ?_
    exact k
  have f2 : AJ Z h1 o0 .long 33 g := (A_o0.ext E1)
  refine Outs.of (alen X1 hx hZ e1 f2 (z := (33 : Int32)) rfl (f := (mkF m 23 #[.val (.ref o0), .val (.int (16 : Int32)), .val (.ref b1)] [(.ref o0), (.int (0 : Int32)), (.ref b1), (.int (0 : Int32)), (.ref o0)])) rfl rfl (hb hby d6_23)) ?_
  show Outs p e below s _ _ _ (T1.setTop (mkF m 24 #[.val (.ref o0), .val (.int (16 : Int32)), .val (.ref b1)] [(.int (33 : Int32)), (.int (0 : Int32)), (.ref b1), (.int (0 : Int32)), (.ref o0)]))
  refine Outs.of (U' := T1.setTop (mkF m 25 #[.val (.ref o0), .val (.int (16 : Int32)), .val (.ref b1)] [(.int (16 : Int32)), (.int (33 : Int32)), (.int (0 : Int32)), (.ref b1), (.int (0 : Int32)), (.ref o0)])) (fun t k => ?_) ?_
  · refine XS.iloadN X1.here hx rfl (hb hby d6_24) rfl ?_
    exact k
  obtain ⟨_, _, ⟨T3, L3, k3, n3⟩, -, X3, ⟨Lc3, hQ3, l3, y3, z3⟩, st3⟩ := Jvm.LawKit.callS X1 hx (y := (⟨"java/lang/Math", "min", "(II)I"⟩ : MethodName)) hown (mvT hZ (hw _ (List.mem_of_getElem? (i := 32) rfl))) (mvT hZ (hw _ (List.mem_of_getElem? (i := 33) rfl))) (mvT hZ (hw _ (List.mem_of_getElem? (i := 8) rfl))) (mvT hZ (hw _ (List.mem_of_getElem? (i := 34) rfl))) (by decide) (backOf (W := 4) (rm7 l Z a0 hw [] (33 : Int32) (16 : Int32) h1 n0 ) hZ (hw _ (List.mem_of_getElem? (i := 34) rfl)) (hw _ (List.mem_of_getElem? (i := 8) rfl)) (by decide) (by decide)) (g := (mkF m 25 #[.val (.ref o0), .val (.int (16 : Int32)), .val (.ref b1)] [(.int (16 : Int32)), (.int (33 : Int32)), (.int (0 : Int32)), (.ref b1), (.int (0 : Int32)), (.ref o0)])) rfl (by rw [hml]; rfl) (argsL := [(.int (33 : Int32)), (.int (16 : Int32))]) (rest := [(.int (0 : Int32)), (.ref b1), (.int (0 : Int32)), (.ref o0)]) (lenOf pd_5 rfl) rfl (by show 2 * 0 + _ ≤ _; exact Nat.le_of_eq rfl) (hb hby d6_25) (fun _ _ => ⟨rfl, e1, (by decide : 1 + 0 ≤ _), (by decide : 16 + 0 ≤ _)⟩)
  dsimp only [Pt.U, Pt.locs, Pt.cells, Pt.slots] at X3 l3 y3 z3 st3 hQ3
  subst l3 y3 z3
  obtain ⟨rfl, N3q, e3⟩ := hQ3
  have N3 := Fr.app N0 N3q
  obtain ⟨Lh3, X3, N3⟩ := hide X3 N3 (C := 1) (S := 16) (by decide) (by decide)
  refine Outs.of st3 ?_
  show Outs p e below s _ _ _ (T3.setTop (mkF m 28 #[.val (.ref o0), .val (.int (16 : Int32)), .val (.ref b1)] [(.int (16 : Int32)), (.int (0 : Int32)), (.ref b1), (.int (0 : Int32)), (.ref o0)]))
  obtain ⟨T4, h4, Lc4, X4, e4, N4, K4, V4, st4⟩ := cpJ X3 hx hZ hown (hw _ (List.mem_of_getElem? (i := 35) rfl)) (hw _ (List.mem_of_getElem? (i := 38) rfl)) (hw _ (List.mem_of_getElem? (i := 36) rfl)) (hw _ (List.mem_of_getElem? (i := 37) rfl)) e3 f2 V1 (nn := (16 : Int32)) (k := 16) rfl (by decide) (by decide) N3 g_b1 (f := (mkF m 28 #[.val (.ref o0), .val (.int (16 : Int32)), .val (.ref b1)] [(.int (16 : Int32)), (.int (0 : Int32)), (.ref b1), (.int (0 : Int32)), (.ref o0)])) rfl (by rw [hml]; rfl) rfl (hb hby d6_28) (by decide) (W := 0) (by show 2 * 0 + _ ≤ _; exact Nat.le_of_eq rfl) (by decide)
  replace V4 : AJ Z h4 b1 .long 16 (cp5_g28 g) := V4
  obtain ⟨Lh4, X4, N4⟩ := hide X4 N4 (C := 1) (S := 16) (by decide) (by decide)
  refine Outs.of st4 ?_
  show Outs p e below s _ _ _ (T4.setTop (mkF m 31 #[.val (.ref o0), .val (.int (16 : Int32)), .val (.ref b1)] []))
  refine Outs.of (U' := T4.setTop (mkF m 32 #[.val (.ref o0), .val (.int (16 : Int32)), .val (.ref b1)] [(.ref b1)])) (fun t k => ?_) ?_
  · refine XS.aloadN X4.here hx rfl (hb hby d6_31) rfl rfl ?_
    exact k
  exact Outs.retA (w := (.ref b1)) X4 hx hret rfl rfl rfl (hb hby d6_32) hlk (by decide) (by decide) e4 ⟨b1, g_b1, sz_b1, rfl, N4, (((Keep.refl h0 []).ext E1).trans K4 (allS (Or.inr sz_b1) all0)), V4⟩
def ct5_g25  : Nat → Int64 := (upv (fun _ => (0 : Int64)) 0 ((F_f5 (5 : Int32) (0 : Int32)) + (1 : Int64)))
def ct5_g25a  : Nat → Int64 := (upv ct5_g25 1 ((F_f5 (5 : Int32) (1 : Int32)) + (1 : Int64)))
def ct5_g25b  : Nat → Int64 := (upv ct5_g25a 2 ((F_f5 (5 : Int32) (2 : Int32)) + (1 : Int64)))
def ct5_g25c  : Nat → Int64 := (upv ct5_g25b 3 ((F_f5 (5 : Int32) (3 : Int32)) + (1 : Int64)))
def ct5_g25d  : Nat → Int64 := (upv ct5_g25c 4 ((F_f5 (5 : Int32) (4 : Int32)) + (1 : Int64)))
def ct5_g25e  : Nat → Int64 := (upv ct5_g25d 5 ((F_f5 (5 : Int32) (5 : Int32)) + (1 : Int64)))
def ct5_g25f  : Nat → Int64 := (upv ct5_g25e 6 ((F_f5 (5 : Int32) (6 : Int32)) + (1 : Int64)))
def ct5_g25g  : Nat → Int64 := (upv ct5_g25f 7 ((F_f5 (5 : Int32) (7 : Int32)) + (1 : Int64)))
def ct5_g25h  : Nat → Int64 := (upv ct5_g25g 8 ((F_f5 (5 : Int32) (8 : Int32)) + (1 : Int64)))
def ct5_g25i  : Nat → Int64 := (upv ct5_g25h 9 ((F_f5 (5 : Int32) (9 : Int32)) + (1 : Int64)))
def ct5_g25j  : Nat → Int64 := (upv ct5_g25i 10 ((F_f5 (5 : Int32) (10 : Int32)) + (1 : Int64)))
def ct5_g25k  : Nat → Int64 := (upv ct5_g25j 11 ((F_f5 (5 : Int32) (11 : Int32)) + (1 : Int64)))
def ct5_g25l  : Nat → Int64 := (upv ct5_g25k 12 ((F_f5 (5 : Int32) (12 : Int32)) + (1 : Int64)))
def ct5_g25m  : Nat → Int64 := (upv ct5_g25l 13 ((F_f5 (5 : Int32) (13 : Int32)) + (1 : Int64)))
def ct5_g25n  : Nat → Int64 := (upv ct5_g25m 14 ((F_f5 (5 : Int32) (14 : Int32)) + (1 : Int64)))
def ct5_g25o  : Nat → Int64 := (upv ct5_g25n 15 ((F_f5 (5 : Int32) (15 : Int32)) + (1 : Int64)))
def Q_ct5 (Z : State) (o0 : Addr) (h0 : Heap) (n0 : Nat) (v : Option Value) (h : Heap) (L : List Loc) : Prop := v = none ∧ Fr n0 L ∧ Keep h0 h [o0] ∧ Exa Z h o0 "com/example/bitmend/bitmend/PositionalColumns" ∧ Fld Z h o0 "com/example/bitmend/bitmend/PositionalColumns" "fieldSize" "I" (.int (5 : Int32))
set_option maxRecDepth 65536 in
set_option maxHeartbeats 40000000 in
theorem rmct5 (l : Launch) (Z : State) (a0 : Array Value) (hw : ∀ d ∈ tables_1, d.before a0 Z = true) (ws : List Jvm.Cond) (o0 : Addr)  (h0 : Heap) (n0 : Nat) (Z0 : n0 ≤ h0.size) (E_o0 : Exa Z h0 o0 "com/example/bitmend/bitmend/PositionalColumns") (g_o0 : n0 ≤ o0) (F_o0_fieldSize : Fld Z h0 o0 "com/example/bitmend/bitmend/PositionalColumns" "fieldSize" "I" (.int (0 : Int32))) (F_o0_checkPositions : Fld Z h0 o0 "com/example/bitmend/bitmend/PositionalColumns" "checkPositions" "[J" .null) :
    MetFree l (⟨"com/example/bitmend/bitmend/PositionalColumns", "<init>", "(I)V"⟩ : MethodName) (head1 (Jvm.Cond.code (⟨"com/example/bitmend/bitmend/PositionalColumns", "<init>", "(I)V"⟩ : MethodName) prog_34_method_1_code 4 none :: ws) ({ frames := 2, cells := 2, slots := 49, locals := 33 } : Room)) (fun a U => a = #[(.ref o0), (.int (5 : Int32))] ∧ Z.Warmed39 U.vm ∧ U.heap = h0) (fun _ _ _ _ _ => True) (fun _ U o U' => ∃ v L, o = .returned v ∧ Q_ct5 Z o0 h0 n0 v U'.heap L ∧ FrameEnd U o U' L ({ frames := 2, cells := 2, slots := 49, locals := 33 } : Room).cells ({ frames := 2, cells := 2, slots := 49, locals := 33 } : Room).slots) := by
  refine MetFree.of_bodySF (plainFor_of_name pn_3) hisR ?_
  intro p e s m args below meth c s₁ Bd hml0 hP hK
  obtain ⟨rfl, hZ, hh⟩ := hP
  have hx := Bd.exec
  have hby := Bd.bytes
  have hml : c.maxLocals = 4 := hml0
  have hown : s.vm.findClass "com/example/bitmend/bitmend/PositionalColumns" = some m.cls := findClass_of_methodNamed Bd.named
  have hnm := (name_of_methodNamed Bd.named Bd.method).1
  have hret := Bd.returns
  have hlk : meth.locks = false := BodyLoose.notSynchronized Bd
  have X0 : Stand p l e ({ frames := 2, cells := 2, slots := 49, locals := 33 } : Room) s m #[(.ref o0), (.int (5 : Int32))] below meth c s₁ [] 0 0 := Stand.of_body Bd
  have e0 : s₁.heap = h0 := by rw [← hh, Bd.state]; rfl
  have N0 := Fr.nil n0
  show Outs p e below s (Q_ct5 Z o0 h0 n0) _ _ _
  refine Outs.of (U' := s₁.setTop (mkF m 0 #[.val (.ref o0), .val (.int (5 : Int32)), .unset, .unset] [])) (fun t k => castTop (ef_3 m o0 (5 : Int32)) k) ?_
  refine Outs.of (U' := s₁.setTop (mkF m 1 #[.val (.ref o0), .val (.int (5 : Int32)), .unset, .unset] [(.ref o0)])) (fun t k => ?_) ?_
  · refine XS.aloadN X0.here hx rfl (hb hby d3_0) rfl rfl ?_
    exact k
  obtain ⟨T1, X1, e1, st1⟩ := initO X0 hx hZ hown (hw _ (List.mem_of_getElem? (i := 17) rfl)) (hw _ (List.mem_of_getElem? (i := 18) rfl)) (hw _ (List.mem_of_getElem? (i := 19) rfl)) e0 (g := (mkF m 1 #[.val (.ref o0), .val (.int (5 : Int32)), .unset, .unset] [(.ref o0)])) rfl (by rw [hml]; rfl) rfl (hb hby d3_1) (by decide) (W := 0) (by show 2 * 0 + _ ≤ _; exact Nat.le_of_eq rfl) (by decide)
  refine Outs.of st1 ?_
  show Outs p e below s _ _ _ (T1.setTop (mkF m 4 #[.val (.ref o0), .val (.int (5 : Int32)), .unset, .unset] []))
  refine Outs.of (U' := T1.setTop (mkF m 6 #[.val (.ref o0), .val (.int (5 : Int32)), .unset, .unset] [(.int (5 : Int32)), (.ref o0)])) (fun t k => ?_) ?_
  · refine XS.aloadN X1.here hx rfl (hb hby d3_4) rfl rfl ?_
    refine XS.iloadN X1.here hx rfl (hb hby d3_5) rfl ?_
    exact k
  obtain ⟨T2, h2, X2, e2, W2, st2⟩ := putF X1 hx hZ hown (host := "") (Or.inl (hw _ (List.mem_of_getElem? (i := 20) rfl))) Via.refl e1 F_o0_fieldSize E_o0 (Or.inr ⟨(hw _ (List.mem_of_getElem? (i := 21) rfl)), rfl, hnm⟩) (hw _ (List.mem_of_getElem? (i := 12) rfl)) (ty := .int) (by decide) rfl rfl (g := (mkF m 6 #[.val (.ref o0), .val (.int (5 : Int32)), .unset, .unset] [(.int (5 : Int32)), (.ref o0)])) rfl rfl (hb hby d3_6)
  have F2 : Fld Z h2 o0 "com/example/bitmend/bitmend/PositionalColumns" "fieldSize" "I" (.int (5 : Int32)) := F_o0_fieldSize.same W2
  have N2 := Fr.snoc X2 N0 g_o0
  obtain ⟨Lh2, X2, N2⟩ := hide X2 N2 (C := 0) (S := 0) (by decide) (by decide)
  refine Outs.of st2 ?_
  show Outs p e below s _ _ _ (T2.setTop (mkF m 9 #[.val (.ref o0), .val (.int (5 : Int32)), .unset, .unset] []))
  refine Outs.of (U' := T2.setTop (mkF m 11 #[.val (.ref o0), .val (.int (5 : Int32)), .unset, .unset] [(.int (33 : Int32))])) (fun t k => ?_) ?_
  · refine XS.bipush X2.here hx rfl (hb hby d3_9) ?_
    exact k
  have f4 : Exa Z h2 o0 "com/example/bitmend/bitmend/PositionalColumns" := (E_o0.wr W2)
  obtain ⟨T3, h3, X3, e3, E3, A3, st3⟩ := newAF X2 hx hZ (aty := .long) (hw _ (List.mem_of_getElem? (i := 22) rfl)) e2 (f := (mkF m 11 #[.val (.ref o0), .val (.int (5 : Int32)), .unset, .unset] [(.int (33 : Int32))])) rfl (hb hby d3_11) rfl (k := 33) rfl (cap := 33) (by decide) (by decide) (by decide) (by decide)
  obtain ⟨b3, g3⟩ : ∃ z, z = h2.size := ⟨_, rfl⟩
  rw [← g3] at A3 st3
  have g_b3 : n0 ≤ b3 := Nat.le_trans (Nat.le_trans Z0 (Keep.of_wr W2).1) (Nat.le_of_eq g3.symm)
  have sz_b3 : h0.size ≤ b3 := Nat.le_trans ((Keep.refl h0 [o0]).wr W2 (Or.inl (List.mem_of_getElem? (i := 0) rfl))).1 (Nat.le_of_eq g3.symm)
  have ne_o0_b3 : o0 ≠ b3 := Nat.ne_of_lt (Nat.lt_of_lt_of_eq f4.lt g3.symm)
  have V3 : AJ Z h3 b3 .long 33 (fun _ => (0 : Int64)) := A3
  refine Outs.of st3 ?_
  show Outs p e below s _ _ _ (T3.setTop (mkF m 13 #[.val (.ref o0), .val (.int (5 : Int32)), .unset, .unset] [(.ref b3)]))
  refine Outs.of (U' := T3.setTop (mkF m 20 #[.val (.ref o0), .val (.int (5 : Int32)), .val (.ref b3), .val (.int (0 : Int32))] [(.int (0 : Int32)), (.int (5 : Int32)), (.int (0 : Int32)), (.ref b3)])) (fun t k => ?_) ?_
  · refine XS.astoreN X3.here hx rfl (hb hby d3_13) rfl rfl (l' := #[.val (.ref o0), .val (.int (5 : Int32)), .val (.ref b3), .unset]) rfl ?_
    refine XS.iconst X3.here hx rfl (hb hby d3_14) ?_
    refine XS.istoreN X3.here hx rfl (hb hby d3_15) rfl (l' := #[.val (.ref o0), .val (.int (5 : Int32)), .val (.ref b3), .val (.int (0 : Int32))]) rfl ?_
    refine XS.aloadN X3.here hx rfl (hb hby d3_16) rfl rfl ?_
    refine XS.iloadN X3.here hx rfl (hb hby d3_17) rfl ?_
    refine XS.iloadN X3.here hx rfl (hb hby d3_18) rfl ?_
    refine XS.iloadN X3.here hx rfl (hb hby d3_19) rfl ?_
    exact k
  obtain ⟨_, _, ⟨T5, L5, k5, n5⟩, -, X5, ⟨Lc5, hQ5, l5, y5, z5⟩, st5⟩ := Jvm.LawKit.callS X3 hx (y := (⟨"com/example/bitmend/bitmend/CodeParameters", "columns", "(II)J"⟩ : MethodName)) hown (mvT hZ (hw _ (List.mem_of_getElem? (i := 23) rfl))) (mvT hZ (hw _ (List.mem_of_getElem? (i := 24) rfl))) (mvT hZ (hw _ (List.mem_of_getElem? (i := 25) rfl))) (mvT hZ (hw _ (List.mem_of_getElem? (i := 26) rfl))) (by decide) (backOf (W := 2) (rm5 l Z a0 hw [] (5 : Int32) (0 : Int32) h3 n0 (by decide)) hZ (hw _ (List.mem_of_getElem? (i := 26) rfl)) (hw _ (List.mem_of_getElem? (i := 25) rfl)) (by decide) (by decide)) (g := (mkF m 20 #[.val (.ref o0), .val (.int (5 : Int32)), .val (.ref b3), .val (.int (0 : Int32))] [(.int (0 : Int32)), (.int (5 : Int32)), (.int (0 : Int32)), (.ref b3)])) rfl (by rw [hml]; rfl) (argsL := [(.int (5 : Int32)), (.int (0 : Int32))]) (rest := [(.int (0 : Int32)), (.ref b3)]) (lenOf pd_0 rfl) rfl (by show 2 * 0 + _ ≤ _; exact Nat.le_of_eq rfl) (hb hby d3_20) (fun _ _ => ⟨rfl, e3, (by decide : 1 + 0 ≤ _), (by decide : 33 + 0 ≤ _)⟩)
  dsimp only [Pt.U, Pt.locs, Pt.cells, Pt.slots] at X5 l5 y5 z5 st5 hQ5
  subst l5 y5 z5
  obtain ⟨rfl, N5q, e5⟩ := hQ5
  have N5 := Fr.app N2 N5q
  obtain ⟨Lh5, X5, N5⟩ := hide X5 N5 (C := 1) (S := 33) (by decide) (by decide)
  refine Outs.of st5 ?_
  show Outs p e below s _ _ _ (T5.setTop (mkF m 23 #[.val (.ref o0), .val (.int (5 : Int32)), .val (.ref b3), .val (.int (0 : Int32))] [(.long (F_f5 (5 : Int32) (0 : Int32))), (.int (0 : Int32)), (.ref b3)]))
  refine Outs.of (U' := T5.setTop (mkF m 25 #[.val (.ref o0), .val (.int (5 : Int32)), .val (.ref b3), .val (.int (0 : Int32))] [(.long ((F_f5 (5 : Int32) (0 : Int32)) + (1 : Int64))), (.int (0 : Int32)), (.ref b3)])) (fun t k => ?_) ?_
  · refine XS.lconst X5.here hx rfl (hb hby d3_23) ?_
    refine XS.ladd X5.here hx rfl (hb hby d3_24) rfl ?_
    exact k
  obtain ⟨T6, h6, X6, e6, W6, V6, st6⟩ := puJ X5 hx hZ e5 V3 (j := (0 : Int32)) (x := ((F_f5 (5 : Int32) (0 : Int32)) + (1 : Int64))) (k := 0) rfl (by decide) (f := (mkF m 25 #[.val (.ref o0), .val (.int (5 : Int32)), .val (.ref b3), .val (.int (0 : Int32))] [(.long ((F_f5 (5 : Int32) (0 : Int32)) + (1 : Int64))), (.int (0 : Int32)), (.ref b3)])) rfl rfl (hb hby d3_25)
  replace V6 : AJ Z h6 b3 .long 33 ct5_g25 := V6
  have N6 := Fr.snoc X6 N5 g_b3
  obtain ⟨Lh6, X6, N6⟩ := hide X6 N6 (C := 1) (S := 33) (by decide) (by decide)
  refine Outs.of st6 ?_
  show Outs p e below s _ _ _ (T6.setTop (mkF m 26 #[.val (.ref o0), .val (.int (5 : Int32)), .val (.ref b3), .val (.int (0 : Int32))] []))
  refine Outs.of (U' := T6.setTop (mkF m 33 #[.val (.ref o0), .val (.int (5 : Int32)), .val (.ref b3), .val (.int (1 : Int32))] [(.int (0 : Int32)), (.ref b3)])) (fun t k => ?_) ?_
  · refine XS.iinc X6.here hx rfl (hb hby d3_26) rfl (l' := #[.val (.ref o0), .val (.int (5 : Int32)), .val (.ref b3), .val (.int (1 : Int32))]) rfl ?_
    refine XS.aloadN X6.here hx rfl (hb hby d3_29) rfl rfl ?_
    refine XS.iloadN X6.here hx rfl (hb hby d3_30) rfl ?_
    refine XS.iconst X6.here hx rfl (hb hby d3_31) ?_
    refine XS.isub X6.here hx rfl (hb hby d3_32) rfl ?_
    exact k
  refine Outs.of (ldJ X6 hx hZ e6 V6 (j := (0 : Int32)) (k := 0) rfl (by decide) (f := (mkF m 33 #[.val (.ref o0), .val (.int (5 : Int32)), .val (.ref b3), .val (.int (1 : Int32))] [(.int (0 : Int32)), (.ref b3)])) rfl rfl (hb hby d3_33)) ?_
  show Outs p e below s _ _ _ (T6.setTop (mkF m 34 #[.val (.ref o0), .val (.int (5 : Int32)), .val (.ref b3), .val (.int (1 : Int32))] [(.long (ct5_g25 0))]))
  refine Outs.of (U' := T6.setTop (mkF m 20 #[.val (.ref o0), .val (.int (5 : Int32)), .val (.ref b3), .val (.int (1 : Int32))] [(.int (1 : Int32)), (.int (5 : Int32)), (.int (1 : Int32)), (.ref b3)])) (fun t k => ?_) ?_
  · refine X6.ldc2Long hx hown (mvT hZ (hw _ (List.mem_of_getElem? (i := 27) rfl))) (g := (mkF m 34 #[.val (.ref o0), .val (.int (5 : Int32)), .val (.ref b3), .val (.int (1 : Int32))] [(.long (ct5_g25 0))])) rfl (hb hby d3_34) _ ?_
    refine XS.lcmp X6.here hx rfl (hb hby d3_37) rfl ?_
    refine XS.ifYes X6.here hx rfl (pc0 := 38) (pc' := 16) rfl (hb hby d3_38) rfl ((if0 _ _).trans (flt (fun q_ => (show ¬ ((2147483647 : Int64) < (ct5_g25 0)) from (by decide +kernel)) ((lw_gt _ _).mp q_))).2.2.2) (by decide) (by decide) ?_
    refine XS.aloadN X6.here hx rfl (hb hby d3_16) rfl rfl ?_
    refine XS.iloadN X6.here hx rfl (hb hby d3_17) rfl ?_
    refine XS.iloadN X6.here hx rfl (hb hby d3_18) rfl ?_
    refine XS.iloadN X6.here hx rfl (hb hby d3_19) rfl ?_
    exact k
  obtain ⟨_, _, ⟨T7, L7, k7, n7⟩, -, X7, ⟨Lc7, hQ7, l7, y7, z7⟩, st7⟩ := Jvm.LawKit.callS X6 hx (y := (⟨"com/example/bitmend/bitmend/CodeParameters", "columns", "(II)J"⟩ : MethodName)) hown (mvT hZ (hw _ (List.mem_of_getElem? (i := 23) rfl))) (mvT hZ (hw _ (List.mem_of_getElem? (i := 24) rfl))) (mvT hZ (hw _ (List.mem_of_getElem? (i := 25) rfl))) (mvT hZ (hw _ (List.mem_of_getElem? (i := 26) rfl))) (by decide) (backOf (W := 2) (rm5 l Z a0 hw [] (5 : Int32) (1 : Int32) h6 n0 (by decide)) hZ (hw _ (List.mem_of_getElem? (i := 26) rfl)) (hw _ (List.mem_of_getElem? (i := 25) rfl)) (by decide) (by decide)) (g := (mkF m 20 #[.val (.ref o0), .val (.int (5 : Int32)), .val (.ref b3), .val (.int (1 : Int32))] [(.int (1 : Int32)), (.int (5 : Int32)), (.int (1 : Int32)), (.ref b3)])) rfl (by rw [hml]; rfl) (argsL := [(.int (5 : Int32)), (.int (1 : Int32))]) (rest := [(.int (1 : Int32)), (.ref b3)]) (lenOf pd_0 rfl) rfl (by show 2 * 0 + _ ≤ _; exact Nat.le_of_eq rfl) (hb hby d3_20) (fun _ _ => ⟨rfl, e6, (by decide : 1 + 0 ≤ _), (by decide : 33 + 0 ≤ _)⟩)
  dsimp only [Pt.U, Pt.locs, Pt.cells, Pt.slots] at X7 l7 y7 z7 st7 hQ7
  subst l7 y7 z7
  obtain ⟨rfl, N7q, e7⟩ := hQ7
  have N7 := Fr.app N6 N7q
  obtain ⟨Lh7, X7, N7⟩ := hide X7 N7 (C := 1) (S := 33) (by decide) (by decide)
  refine Outs.of st7 ?_
  show Outs p e below s _ _ _ (T7.setTop (mkF m 23 #[.val (.ref o0), .val (.int (5 : Int32)), .val (.ref b3), .val (.int (1 : Int32))] [(.long (F_f5 (5 : Int32) (1 : Int32))), (.int (1 : Int32)), (.ref b3)]))
  refine Outs.of (U' := T7.setTop (mkF m 25 #[.val (.ref o0), .val (.int (5 : Int32)), .val (.ref b3), .val (.int (1 : Int32))] [(.long ((F_f5 (5 : Int32) (1 : Int32)) + (1 : Int64))), (.int (1 : Int32)), (.ref b3)])) (fun t k => ?_) ?_
  · refine XS.lconst X7.here hx rfl (hb hby d3_23) ?_
    refine XS.ladd X7.here hx rfl (hb hby d3_24) rfl ?_
    exact k
  obtain ⟨T8, h8, X8, e8, W8, V8, st8⟩ := puJ X7 hx hZ e7 V6 (j := (1 : Int32)) (x := ((F_f5 (5 : Int32) (1 : Int32)) + (1 : Int64))) (k := 1) rfl (by decide) (f := (mkF m 25 #[.val (.ref o0), .val (.int (5 : Int32)), .val (.ref b3), .val (.int (1 : Int32))] [(.long ((F_f5 (5 : Int32) (1 : Int32)) + (1 : Int64))), (.int (1 : Int32)), (.ref b3)])) rfl rfl (hb hby d3_25)
  replace V8 : AJ Z h8 b3 .long 33 ct5_g25a := V8
  have N8 := Fr.snoc X8 N7 g_b3
  obtain ⟨Lh8, X8, N8⟩ := hide X8 N8 (C := 1) (S := 33) (by decide) (by decide)
  refine Outs.of st8 ?_
  show Outs p e below s _ _ _ (T8.setTop (mkF m 26 #[.val (.ref o0), .val (.int (5 : Int32)), .val (.ref b3), .val (.int (1 : Int32))] []))
  refine Outs.of (U' := T8.setTop (mkF m 33 #[.val (.ref o0), .val (.int (5 : Int32)), .val (.ref b3), .val (.int (2 : Int32))] [(.int (1 : Int32)), (.ref b3)])) (fun t k => ?_) ?_
  · refine XS.iinc X8.here hx rfl (hb hby d3_26) rfl (l' := #[.val (.ref o0), .val (.int (5 : Int32)), .val (.ref b3), .val (.int (2 : Int32))]) rfl ?_
    refine XS.aloadN X8.here hx rfl (hb hby d3_29) rfl rfl ?_
    refine XS.iloadN X8.here hx rfl (hb hby d3_30) rfl ?_
    refine XS.iconst X8.here hx rfl (hb hby d3_31) ?_
    refine XS.isub X8.here hx rfl (hb hby d3_32) rfl ?_
    exact k
  refine Outs.of (ldJ X8 hx hZ e8 V8 (j := (1 : Int32)) (k := 1) rfl (by decide) (f := (mkF m 33 #[.val (.ref o0), .val (.int (5 : Int32)), .val (.ref b3), .val (.int (2 : Int32))] [(.int (1 : Int32)), (.ref b3)])) rfl rfl (hb hby d3_33)) ?_
  show Outs p e below s _ _ _ (T8.setTop (mkF m 34 #[.val (.ref o0), .val (.int (5 : Int32)), .val (.ref b3), .val (.int (2 : Int32))] [(.long (ct5_g25a 1))]))
  refine Outs.of (U' := T8.setTop (mkF m 20 #[.val (.ref o0), .val (.int (5 : Int32)), .val (.ref b3), .val (.int (2 : Int32))] [(.int (2 : Int32)), (.int (5 : Int32)), (.int (2 : Int32)), (.ref b3)])) (fun t k => ?_) ?_
  · refine X8.ldc2Long hx hown (mvT hZ (hw _ (List.mem_of_getElem? (i := 27) rfl))) (g := (mkF m 34 #[.val (.ref o0), .val (.int (5 : Int32)), .val (.ref b3), .val (.int (2 : Int32))] [(.long (ct5_g25a 1))])) rfl (hb hby d3_34) _ ?_
    refine XS.lcmp X8.here hx rfl (hb hby d3_37) rfl ?_
    refine XS.ifYes X8.here hx rfl (pc0 := 38) (pc' := 16) rfl (hb hby d3_38) rfl ((if0 _ _).trans (flt (fun q_ => (show ¬ ((2147483647 : Int64) < (ct5_g25a 1)) from (by decide +kernel)) ((lw_gt _ _).mp q_))).2.2.2) (by decide) (by decide) ?_
    refine XS.aloadN X8.here hx rfl (hb hby d3_16) rfl rfl ?_
    refine XS.iloadN X8.here hx rfl (hb hby d3_17) rfl ?_
    refine XS.iloadN X8.here hx rfl (hb hby d3_18) rfl ?_
    refine XS.iloadN X8.here hx rfl (hb hby d3_19) rfl ?_
    exact k
  obtain ⟨_, _, ⟨T9, L9, k9, n9⟩, -, X9, ⟨Lc9, hQ9, l9, y9, z9⟩, st9⟩ := Jvm.LawKit.callS X8 hx (y := (⟨"com/example/bitmend/bitmend/CodeParameters", "columns", "(II)J"⟩ : MethodName)) hown (mvT hZ (hw _ (List.mem_of_getElem? (i := 23) rfl))) (mvT hZ (hw _ (List.mem_of_getElem? (i := 24) rfl))) (mvT hZ (hw _ (List.mem_of_getElem? (i := 25) rfl))) (mvT hZ (hw _ (List.mem_of_getElem? (i := 26) rfl))) (by decide) (backOf (W := 2) (rm5 l Z a0 hw [] (5 : Int32) (2 : Int32) h8 n0 (by decide)) hZ (hw _ (List.mem_of_getElem? (i := 26) rfl)) (hw _ (List.mem_of_getElem? (i := 25) rfl)) (by decide) (by decide)) (g := (mkF m 20 #[.val (.ref o0), .val (.int (5 : Int32)), .val (.ref b3), .val (.int (2 : Int32))] [(.int (2 : Int32)), (.int (5 : Int32)), (.int (2 : Int32)), (.ref b3)])) rfl (by rw [hml]; rfl) (argsL := [(.int (5 : Int32)), (.int (2 : Int32))]) (rest := [(.int (2 : Int32)), (.ref b3)]) (lenOf pd_0 rfl) rfl (by show 2 * 0 + _ ≤ _; exact Nat.le_of_eq rfl) (hb hby d3_20) (fun _ _ => ⟨rfl, e8, (by decide : 1 + 0 ≤ _), (by decide : 33 + 0 ≤ _)⟩)
  dsimp only [Pt.U, Pt.locs, Pt.cells, Pt.slots] at X9 l9 y9 z9 st9 hQ9
  subst l9 y9 z9
  obtain ⟨rfl, N9q, e9⟩ := hQ9
  have N9 := Fr.app N8 N9q
  obtain ⟨Lh9, X9, N9⟩ := hide X9 N9 (C := 1) (S := 33) (by decide) (by decide)
  refine Outs.of st9 ?_
  show Outs p e below s _ _ _ (T9.setTop (mkF m 23 #[.val (.ref o0), .val (.int (5 : Int32)), .val (.ref b3), .val (.int (2 : Int32))] [(.long (F_f5 (5 : Int32) (2 : Int32))), (.int (2 : Int32)), (.ref b3)]))
  refine Outs.of (U' := T9.setTop (mkF m 25 #[.val (.ref o0), .val (.int (5 : Int32)), .val (.ref b3), .val (.int (2 : Int32))] [(.long ((F_f5 (5 : Int32) (2 : Int32)) + (1 : Int64))), (.int (2 : Int32)), (.ref b3)])) (fun t k => ?_) ?_
  · refine XS.lconst X9.here hx rfl (hb hby d3_23) ?_
    refine XS.ladd X9.here hx rfl (hb hby d3_24) rfl ?_
    exact k
  obtain ⟨T10, h10, X10, e10, W10, V10, st10⟩ := puJ X9 hx hZ e9 V8 (j := (2 : Int32)) (x := ((F_f5 (5 : Int32) (2 : Int32)) + (1 : Int64))) (k := 2) rfl (by decide) (f := (mkF m 25 #[.val (.ref o0), .val (.int (5 : Int32)), .val (.ref b3), .val (.int (2 : Int32))] [(.long ((F_f5 (5 : Int32) (2 : Int32)) + (1 : Int64))), (.int (2 : Int32)), (.ref b3)])) rfl rfl (hb hby d3_25)
  replace V10 : AJ Z h10 b3 .long 33 ct5_g25b := V10
  have N10 := Fr.snoc X10 N9 g_b3
  obtain ⟨Lh10, X10, N10⟩ := hide X10 N10 (C := 1) (S := 33) (by decide) (by decide)
  refine Outs.of st10 ?_
  show Outs p e below s _ _ _ (T10.setTop (mkF m 26 #[.val (.ref o0), .val (.int (5 : Int32)), .val (.ref b3), .val (.int (2 : Int32))] []))
  refine Outs.of (U' := T10.setTop (mkF m 33 #[.val (.ref o0), .val (.int (5 : Int32)), .val (.ref b3), .val (.int (3 : Int32))] [(.int (2 : Int32)), (.ref b3)])) (fun t k => ?_) ?_
  · refine XS.iinc X10.here hx rfl (hb hby d3_26) rfl (l' := #[.val (.ref o0), .val (.int (5 : Int32)), .val (.ref b3), .val (.int (3 : Int32))]) rfl ?_
    refine XS.aloadN X10.here hx rfl (hb hby d3_29) rfl rfl ?_
    refine XS.iloadN X10.here hx rfl (hb hby d3_30) rfl ?_
    refine XS.iconst X10.here hx rfl (hb hby d3_31) ?_
    refine XS.isub X10.here hx rfl (hb hby d3_32) rfl ?_
    exact k
  refine Outs.of (ldJ X10 hx hZ e10 V10 (j := (2 : Int32)) (k := 2) rfl (by decide) (f := (mkF m 33 #[.val (.ref o0), .val (.int (5 : Int32)), .val (.ref b3), .val (.int (3 : Int32))] [(.int (2 : Int32)), (.ref b3)])) rfl rfl (hb hby d3_33)) ?_
  show Outs p e below s _ _ _ (T10.setTop (mkF m 34 #[.val (.ref o0), .val (.int (5 : Int32)), .val (.ref b3), .val (.int (3 : Int32))] [(.long (ct5_g25b 2))]))
  refine Outs.of (U' := T10.setTop (mkF m 20 #[.val (.ref o0), .val (.int (5 : Int32)), .val (.ref b3), .val (.int (3 : Int32))] [(.int (3 : Int32)), (.int (5 : Int32)), (.int (3 : Int32)), (.ref b3)])) (fun t k => ?_) ?_
  · refine X10.ldc2Long hx hown (mvT hZ (hw _ (List.mem_of_getElem? (i := 27) rfl))) (g := (mkF m 34 #[.val (.ref o0), .val (.int (5 : Int32)), .val (.ref b3), .val (.int (3 : Int32))] [(.long (ct5_g25b 2))])) rfl (hb hby d3_34) _ ?_
    refine XS.lcmp X10.here hx rfl (hb hby d3_37) rfl ?_
    refine XS.ifYes X10.here hx rfl (pc0 := 38) (pc' := 16) rfl (hb hby d3_38) rfl ((if0 _ _).trans (flt (fun q_ => (show ¬ ((2147483647 : Int64) < (ct5_g25b 2)) from (by decide +kernel)) ((lw_gt _ _).mp q_))).2.2.2) (by decide) (by decide) ?_
    refine XS.aloadN X10.here hx rfl (hb hby d3_16) rfl rfl ?_
    refine XS.iloadN X10.here hx rfl (hb hby d3_17) rfl ?_
    refine XS.iloadN X10.here hx rfl (hb hby d3_18) rfl ?_
    refine XS.iloadN X10.here hx rfl (hb hby d3_19) rfl ?_
    exact k
  obtain ⟨_, _, ⟨T11, L11, k11, n11⟩, -, X11, ⟨Lc11, hQ11, l11, y11, z11⟩, st11⟩ := Jvm.LawKit.callS X10 hx (y := (⟨"com/example/bitmend/bitmend/CodeParameters", "columns", "(II)J"⟩ : MethodName)) hown (mvT hZ (hw _ (List.mem_of_getElem? (i := 23) rfl))) (mvT hZ (hw _ (List.mem_of_getElem? (i := 24) rfl))) (mvT hZ (hw _ (List.mem_of_getElem? (i := 25) rfl))) (mvT hZ (hw _ (List.mem_of_getElem? (i := 26) rfl))) (by decide) (backOf (W := 2) (rm5 l Z a0 hw [] (5 : Int32) (3 : Int32) h10 n0 (by decide)) hZ (hw _ (List.mem_of_getElem? (i := 26) rfl)) (hw _ (List.mem_of_getElem? (i := 25) rfl)) (by decide) (by decide)) (g := (mkF m 20 #[.val (.ref o0), .val (.int (5 : Int32)), .val (.ref b3), .val (.int (3 : Int32))] [(.int (3 : Int32)), (.int (5 : Int32)), (.int (3 : Int32)), (.ref b3)])) rfl (by rw [hml]; rfl) (argsL := [(.int (5 : Int32)), (.int (3 : Int32))]) (rest := [(.int (3 : Int32)), (.ref b3)]) (lenOf pd_0 rfl) rfl (by show 2 * 0 + _ ≤ _; exact Nat.le_of_eq rfl) (hb hby d3_20) (fun _ _ => ⟨rfl, e10, (by decide : 1 + 0 ≤ _), (by decide : 33 + 0 ≤ _)⟩)
  dsimp only [Pt.U, Pt.locs, Pt.cells, Pt.slots] at X11 l11 y11 z11 st11 hQ11
  subst l11 y11 z11
  obtain ⟨rfl, N11q, e11⟩ := hQ11
  have N11 := Fr.app N10 N11q
  obtain ⟨Lh11, X11, N11⟩ := hide X11 N11 (C := 1) (S := 33) (by decide) (by decide)
  refine Outs.of st11 ?_
  show Outs p e below s _ _ _ (T11.setTop (mkF m 23 #[.val (.ref o0), .val (.int (5 : Int32)), .val (.ref b3), .val (.int (3 : Int32))] [(.long (F_f5 (5 : Int32) (3 : Int32))), (.int (3 : Int32)), (.ref b3)]))
  refine Outs.of (U' := T11.setTop (mkF m 25 #[.val (.ref o0), .val (.int (5 : Int32)), .val (.ref b3), .val (.int (3 : Int32))] [(.long ((F_f5 (5 : Int32) (3 : Int32)) + (1 : Int64))), (.int (3 : Int32)), (.ref b3)])) (fun t k => ?_) ?_
  · refine XS.lconst X11.here hx rfl (hb hby d3_23) ?_
    refine XS.ladd X11.here hx rfl (hb hby d3_24) rfl ?_
    exact k
  obtain ⟨T12, h12, X12, e12, W12, V12, st12⟩ := puJ X11 hx hZ e11 V10 (j := (3 : Int32)) (x := ((F_f5 (5 : Int32) (3 : Int32)) + (1 : Int64))) (k := 3) rfl (by decide) (f := (mkF m 25 #[.val (.ref o0), .val (.int (5 : Int32)), .val (.ref b3), .val (.int (3 : Int32))] [(.long ((F_f5 (5 : Int32) (3 : Int32)) + (1 : Int64))), (.int (3 : Int32)), (.ref b3)])) rfl rfl (hb hby d3_25)
  replace V12 : AJ Z h12 b3 .long 33 ct5_g25c := V12
  have N12 := Fr.snoc X12 N11 g_b3
  obtain ⟨Lh12, X12, N12⟩ := hide X12 N12 (C := 1) (S := 33) (by decide) (by decide)
  refine Outs.of st12 ?_
  show Outs p e below s _ _ _ (T12.setTop (mkF m 26 #[.val (.ref o0), .val (.int (5 : Int32)), .val (.ref b3), .val (.int (3 : Int32))] []))
  refine Outs.of (U' := T12.setTop (mkF m 33 #[.val (.ref o0), .val (.int (5 : Int32)), .val (.ref b3), .val (.int (4 : Int32))] [(.int (3 : Int32)), (.ref b3)])) (fun t k => ?_) ?_
  · refine XS.iinc X12.here hx rfl (hb hby d3_26) rfl (l' := #[.val (.ref o0), .val (.int (5 : Int32)), .val (.ref b3), .val (.int (4 : Int32))]) rfl ?_
    refine XS.aloadN X12.here hx rfl (hb hby d3_29) rfl rfl ?_
    refine XS.iloadN X12.here hx rfl (hb hby d3_30) rfl ?_
    refine XS.iconst X12.here hx rfl (hb hby d3_31) ?_
    refine XS.isub X12.here hx rfl (hb hby d3_32) rfl ?_
    exact k
  refine Outs.of (ldJ X12 hx hZ e12 V12 (j := (3 : Int32)) (k := 3) rfl (by decide) (f := (mkF m 33 #[.val (.ref o0), .val (.int (5 : Int32)), .val (.ref b3), .val (.int (4 : Int32))] [(.int (3 : Int32)), (.ref b3)])) rfl rfl (hb hby d3_33)) ?_
  show Outs p e below s _ _ _ (T12.setTop (mkF m 34 #[.val (.ref o0), .val (.int (5 : Int32)), .val (.ref b3), .val (.int (4 : Int32))] [(.long (ct5_g25c 3))]))
  refine Outs.of (U' := T12.setTop (mkF m 20 #[.val (.ref o0), .val (.int (5 : Int32)), .val (.ref b3), .val (.int (4 : Int32))] [(.int (4 : Int32)), (.int (5 : Int32)), (.int (4 : Int32)), (.ref b3)])) (fun t k => ?_) ?_
  · refine X12.ldc2Long hx hown (mvT hZ (hw _ (List.mem_of_getElem? (i := 27) rfl))) (g := (mkF m 34 #[.val (.ref o0), .val (.int (5 : Int32)), .val (.ref b3), .val (.int (4 : Int32))] [(.long (ct5_g25c 3))])) rfl (hb hby d3_34) _ ?_
    refine XS.lcmp X12.here hx rfl (hb hby d3_37) rfl ?_
    refine XS.ifYes X12.here hx rfl (pc0 := 38) (pc' := 16) rfl (hb hby d3_38) rfl ((if0 _ _).trans (flt (fun q_ => (show ¬ ((2147483647 : Int64) < (ct5_g25c 3)) from (by decide +kernel)) ((lw_gt _ _).mp q_))).2.2.2) (by decide) (by decide) ?_
    refine XS.aloadN X12.here hx rfl (hb hby d3_16) rfl rfl ?_
    refine XS.iloadN X12.here hx rfl (hb hby d3_17) rfl ?_
    refine XS.iloadN X12.here hx rfl (hb hby d3_18) rfl ?_
    refine XS.iloadN X12.here hx rfl (hb hby d3_19) rfl ?_
    exact k
  obtain ⟨_, _, ⟨T13, L13, k13, n13⟩, -, X13, ⟨Lc13, hQ13, l13, y13, z13⟩, st13⟩ := Jvm.LawKit.callS X12 hx (y := (⟨"com/example/bitmend/bitmend/CodeParameters", "columns", "(II)J"⟩ : MethodName)) hown (mvT hZ (hw _ (List.mem_of_getElem? (i := 23) rfl))) (mvT hZ (hw _ (List.mem_of_getElem? (i := 24) rfl))) (mvT hZ (hw _ (List.mem_of_getElem? (i := 25) rfl))) (mvT hZ (hw _ (List.mem_of_getElem? (i := 26) rfl))) (by decide) (backOf (W := 2) (rm5 l Z a0 hw [] (5 : Int32) (4 : Int32) h12 n0 (by decide)) hZ (hw _ (List.mem_of_getElem? (i := 26) rfl)) (hw _ (List.mem_of_getElem? (i := 25) rfl)) (by decide) (by decide)) (g := (mkF m 20 #[.val (.ref o0), .val (.int (5 : Int32)), .val (.ref b3), .val (.int (4 : Int32))] [(.int (4 : Int32)), (.int (5 : Int32)), (.int (4 : Int32)), (.ref b3)])) rfl (by rw [hml]; rfl) (argsL := [(.int (5 : Int32)), (.int (4 : Int32))]) (rest := [(.int (4 : Int32)), (.ref b3)]) (lenOf pd_0 rfl) rfl (by show 2 * 0 + _ ≤ _; exact Nat.le_of_eq rfl) (hb hby d3_20) (fun _ _ => ⟨rfl, e12, (by decide : 1 + 0 ≤ _), (by decide : 33 + 0 ≤ _)⟩)
  dsimp only [Pt.U, Pt.locs, Pt.cells, Pt.slots] at X13 l13 y13 z13 st13 hQ13
  subst l13 y13 z13
  obtain ⟨rfl, N13q, e13⟩ := hQ13
  have N13 := Fr.app N12 N13q
  obtain ⟨Lh13, X13, N13⟩ := hide X13 N13 (C := 1) (S := 33) (by decide) (by decide)
  refine Outs.of st13 ?_
  show Outs p e below s _ _ _ (T13.setTop (mkF m 23 #[.val (.ref o0), .val (.int (5 : Int32)), .val (.ref b3), .val (.int (4 : Int32))] [(.long (F_f5 (5 : Int32) (4 : Int32))), (.int (4 : Int32)), (.ref b3)]))
  refine Outs.of (U' := T13.setTop (mkF m 25 #[.val (.ref o0), .val (.int (5 : Int32)), .val (.ref b3), .val (.int (4 : Int32))] [(.long ((F_f5 (5 : Int32) (4 : Int32)) + (1 : Int64))), (.int (4 : Int32)), (.ref b3)])) (fun t k => ?_) ?_
  · refine XS.lconst X13.here hx rfl (hb hby d3_23) ?_
    refine XS.ladd X13.here hx rfl (hb hby d3_24) rfl ?_
    exact k
  obtain ⟨T14, h14, X14, e14, W14, V14, st14⟩ := puJ X13 hx hZ e13 V12 (j := (4 : Int32)) (x := ((F_f5 (5 : Int32) (4 : Int32)) + (1 : Int64))) (k := 4) rfl (by decide) (f := (mkF m 25 #[.val (.ref o0), .val (.int (5 : Int32)), .val (.ref b3), .val (.int (4 : Int32))] [(.long ((F_f5 (5 : Int32) (4 : Int32)) + (1 : Int64))), (.int (4 : Int32)), (.ref b3)])) rfl rfl (hb hby d3_25)
  replace V14 : AJ Z h14 b3 .long 33 ct5_g25d := V14
  have N14 := Fr.snoc X14 N13 g_b3
  obtain ⟨Lh14, X14, N14⟩ := hide X14 N14 (C := 1) (S := 33) (by decide) (by decide)
  refine Outs.of st14 ?_
  show Outs p e below s _ _ _ (T14.setTop (mkF m 26 #[.val (.ref o0), .val (.int (5 : Int32)), .val (.ref b3), .val (.int (4 : Int32))] []))
  refine Outs.of (U' := T14.setTop (mkF m 33 #[.val (.ref o0), .val (.int (5 : Int32)), .val (.ref b3), .val (.int (5 : Int32))] [(.int (4 : Int32)), (.ref b3)])) (fun t k => ?_) ?_
  · refine XS.iinc X14.here hx rfl (hb hby d3_26) rfl (l' := #[.val (.ref o0), .val (.int (5 : Int32)), .val (.ref b3), .val (.int (5 : Int32))]) rfl ?_
    refine XS.aloadN X14.here hx rfl (hb hby d3_29) rfl rfl ?_
    refine XS.iloadN X14.here hx rfl (hb hby d3_30) rfl ?_
    refine XS.iconst X14.here hx rfl (hb hby d3_31) ?_
    refine XS.isub X14.here hx rfl (hb hby d3_32) rfl ?_
    exact k
  refine Outs.of (ldJ X14 hx hZ e14 V14 (j := (4 : Int32)) (k := 4) rfl (by decide) (f := (mkF m 33 #[.val (.ref o0), .val (.int (5 : Int32)), .val (.ref b3), .val (.int (5 : Int32))] [(.int (4 : Int32)), (.ref b3)])) rfl rfl (hb hby d3_33)) ?_
  show Outs p e below s _ _ _ (T14.setTop (mkF m 34 #[.val (.ref o0), .val (.int (5 : Int32)), .val (.ref b3), .val (.int (5 : Int32))] [(.long (ct5_g25d 4))]))
  refine Outs.of (U' := T14.setTop (mkF m 20 #[.val (.ref o0), .val (.int (5 : Int32)), .val (.ref b3), .val (.int (5 : Int32))] [(.int (5 : Int32)), (.int (5 : Int32)), (.int (5 : Int32)), (.ref b3)])) (fun t k => ?_) ?_
  · refine X14.ldc2Long hx hown (mvT hZ (hw _ (List.mem_of_getElem? (i := 27) rfl))) (g := (mkF m 34 #[.val (.ref o0), .val (.int (5 : Int32)), .val (.ref b3), .val (.int (5 : Int32))] [(.long (ct5_g25d 4))])) rfl (hb hby d3_34) _ ?_
    refine XS.lcmp X14.here hx rfl (hb hby d3_37) rfl ?_
    refine XS.ifYes X14.here hx rfl (pc0 := 38) (pc' := 16) rfl (hb hby d3_38) rfl ((if0 _ _).trans (flt (fun q_ => (show ¬ ((2147483647 : Int64) < (ct5_g25d 4)) from (by decide +kernel)) ((lw_gt _ _).mp q_))).2.2.2) (by decide) (by decide) ?_
    refine XS.aloadN X14.here hx rfl (hb hby d3_16) rfl rfl ?_
    refine XS.iloadN X14.here hx rfl (hb hby d3_17) rfl ?_
    refine XS.iloadN X14.here hx rfl (hb hby d3_18) rfl ?_
    refine XS.iloadN X14.here hx rfl (hb hby d3_19) rfl ?_
    exact k
  obtain ⟨_, _, ⟨T15, L15, k15, n15⟩, -, X15, ⟨Lc15, hQ15, l15, y15, z15⟩, st15⟩ := Jvm.LawKit.callS X14 hx (y := (⟨"com/example/bitmend/bitmend/CodeParameters", "columns", "(II)J"⟩ : MethodName)) hown (mvT hZ (hw _ (List.mem_of_getElem? (i := 23) rfl))) (mvT hZ (hw _ (List.mem_of_getElem? (i := 24) rfl))) (mvT hZ (hw _ (List.mem_of_getElem? (i := 25) rfl))) (mvT hZ (hw _ (List.mem_of_getElem? (i := 26) rfl))) (by decide) (backOf (W := 2) (rm5 l Z a0 hw [] (5 : Int32) (5 : Int32) h14 n0 (by decide)) hZ (hw _ (List.mem_of_getElem? (i := 26) rfl)) (hw _ (List.mem_of_getElem? (i := 25) rfl)) (by decide) (by decide)) (g := (mkF m 20 #[.val (.ref o0), .val (.int (5 : Int32)), .val (.ref b3), .val (.int (5 : Int32))] [(.int (5 : Int32)), (.int (5 : Int32)), (.int (5 : Int32)), (.ref b3)])) rfl (by rw [hml]; rfl) (argsL := [(.int (5 : Int32)), (.int (5 : Int32))]) (rest := [(.int (5 : Int32)), (.ref b3)]) (lenOf pd_0 rfl) rfl (by show 2 * 0 + _ ≤ _; exact Nat.le_of_eq rfl) (hb hby d3_20) (fun _ _ => ⟨rfl, e14, (by decide : 1 + 0 ≤ _), (by decide : 33 + 0 ≤ _)⟩)
  dsimp only [Pt.U, Pt.locs, Pt.cells, Pt.slots] at X15 l15 y15 z15 st15 hQ15
  subst l15 y15 z15
  obtain ⟨rfl, N15q, e15⟩ := hQ15
  have N15 := Fr.app N14 N15q
  obtain ⟨Lh15, X15, N15⟩ := hide X15 N15 (C := 1) (S := 33) (by decide) (by decide)
  refine Outs.of st15 ?_
  show Outs p e below s _ _ _ (T15.setTop (mkF m 23 #[.val (.ref o0), .val (.int (5 : Int32)), .val (.ref b3), .val (.int (5 : Int32))] [(.long (F_f5 (5 : Int32) (5 : Int32))), (.int (5 : Int32)), (.ref b3)]))
  refine Outs.of (U' := T15.setTop (mkF m 25 #[.val (.ref o0), .val (.int (5 : Int32)), .val (.ref b3), .val (.int (5 : Int32))] [(.long ((F_f5 (5 : Int32) (5 : Int32)) + (1 : Int64))), (.int (5 : Int32)), (.ref b3)])) (fun t k => ?_) ?_
  · refine XS.lconst X15.here hx rfl (hb hby d3_23) ?_
    refine XS.ladd X15.here hx rfl (hb hby d3_24) rfl ?_
    exact k
  obtain ⟨T16, h16, X16, e16, W16, V16, st16⟩ := puJ X15 hx hZ e15 V14 (j := (5 : Int32)) (x := ((F_f5 (5 : Int32) (5 : Int32)) + (1 : Int64))) (k := 5) rfl (by decide) (f := (mkF m 25 #[.val (.ref o0), .val (.int (5 : Int32)), .val (.ref b3), .val (.int (5 : Int32))] [(.long ((F_f5 (5 : Int32) (5 : Int32)) + (1 : Int64))), (.int (5 : Int32)), (.ref b3)])) rfl rfl (hb hby d3_25)
  replace V16 : AJ Z h16 b3 .long 33 ct5_g25e := V16
  have N16 := Fr.snoc X16 N15 g_b3
  obtain ⟨Lh16, X16, N16⟩ := hide X16 N16 (C := 1) (S := 33) (by decide) (by decide)
  refine Outs.of st16 ?_
  show Outs p e below s _ _ _ (T16.setTop (mkF m 26 #[.val (.ref o0), .val (.int (5 : Int32)), .val (.ref b3), .val (.int (5 : Int32))] []))
  refine Outs.of (U' := T16.setTop (mkF m 33 #[.val (.ref o0), .val (.int (5 : Int32)), .val (.ref b3), .val (.int (6 : Int32))] [(.int (5 : Int32)), (.ref b3)])) (fun t k => ?_) ?_
  · refine XS.iinc X16.here hx rfl (hb hby d3_26) rfl (l' := #[.val (.ref o0), .val (.int (5 : Int32)), .val (.ref b3), .val (.int (6 : Int32))]) rfl ?_
    refine XS.aloadN X16.here hx rfl (hb hby d3_29) rfl rfl ?_
    refine XS.iloadN X16.here hx rfl (hb hby d3_30) rfl ?_
    refine XS.iconst X16.here hx rfl (hb hby d3_31) ?_
    refine XS.isub X16.here hx rfl (hb hby d3_32) rfl ?_
    exact k
  refine Outs.of (ldJ X16 hx hZ e16 V16 (j := (5 : Int32)) (k := 5) rfl (by decide) (f := (mkF m 33 #[.val (.ref o0), .val (.int (5 : Int32)), .val (.ref b3), .val (.int (6 : Int32))] [(.int (5 : Int32)), (.ref b3)])) rfl rfl (hb hby d3_33)) ?_
  show Outs p e below s _ _ _ (T16.setTop (mkF m 34 #[.val (.ref o0), .val (.int (5 : Int32)), .val (.ref b3), .val (.int (6 : Int32))] [(.long (ct5_g25e 5))]))
  refine Outs.of (U' := T16.setTop (mkF m 20 #[.val (.ref o0), .val (.int (5 : Int32)), .val (.ref b3), .val (.int (6 : Int32))] [(.int (6 : Int32)), (.int (5 : Int32)), (.int (6 : Int32)), (.ref b3)])) (fun t k => ?_) ?_
  · refine X16.ldc2Long hx hown (mvT hZ (hw _ (List.mem_of_getElem? (i := 27) rfl))) (g := (mkF m 34 #[.val (.ref o0), .val (.int (5 : Int32)), .val (.ref b3), .val (.int (6 : Int32))] [(.long (ct5_g25e 5))])) rfl (hb hby d3_34) _ ?_
    refine XS.lcmp X16.here hx rfl (hb hby d3_37) rfl ?_
    refine XS.ifYes X16.here hx rfl (pc0 := 38) (pc' := 16) rfl (hb hby d3_38) rfl ((if0 _ _).trans (flt (fun q_ => (show ¬ ((2147483647 : Int64) < (ct5_g25e 5)) from (by decide +kernel)) ((lw_gt _ _).mp q_))).2.2.2) (by decide) (by decide) ?_
    refine XS.aloadN X16.here hx rfl (hb hby d3_16) rfl rfl ?_
    refine XS.iloadN X16.here hx rfl (hb hby d3_17) rfl ?_
    refine XS.iloadN X16.here hx rfl (hb hby d3_18) rfl ?_
    refine XS.iloadN X16.here hx rfl (hb hby d3_19) rfl ?_
    exact k
  obtain ⟨_, _, ⟨T17, L17, k17, n17⟩, -, X17, ⟨Lc17, hQ17, l17, y17, z17⟩, st17⟩ := Jvm.LawKit.callS X16 hx (y := (⟨"com/example/bitmend/bitmend/CodeParameters", "columns", "(II)J"⟩ : MethodName)) hown (mvT hZ (hw _ (List.mem_of_getElem? (i := 23) rfl))) (mvT hZ (hw _ (List.mem_of_getElem? (i := 24) rfl))) (mvT hZ (hw _ (List.mem_of_getElem? (i := 25) rfl))) (mvT hZ (hw _ (List.mem_of_getElem? (i := 26) rfl))) (by decide) (backOf (W := 2) (rm5 l Z a0 hw [] (5 : Int32) (6 : Int32) h16 n0 (by decide)) hZ (hw _ (List.mem_of_getElem? (i := 26) rfl)) (hw _ (List.mem_of_getElem? (i := 25) rfl)) (by decide) (by decide)) (g := (mkF m 20 #[.val (.ref o0), .val (.int (5 : Int32)), .val (.ref b3), .val (.int (6 : Int32))] [(.int (6 : Int32)), (.int (5 : Int32)), (.int (6 : Int32)), (.ref b3)])) rfl (by rw [hml]; rfl) (argsL := [(.int (5 : Int32)), (.int (6 : Int32))]) (rest := [(.int (6 : Int32)), (.ref b3)]) (lenOf pd_0 rfl) rfl (by show 2 * 0 + _ ≤ _; exact Nat.le_of_eq rfl) (hb hby d3_20) (fun _ _ => ⟨rfl, e16, (by decide : 1 + 0 ≤ _), (by decide : 33 + 0 ≤ _)⟩)
  dsimp only [Pt.U, Pt.locs, Pt.cells, Pt.slots] at X17 l17 y17 z17 st17 hQ17
  subst l17 y17 z17
  obtain ⟨rfl, N17q, e17⟩ := hQ17
  have N17 := Fr.app N16 N17q
  obtain ⟨Lh17, X17, N17⟩ := hide X17 N17 (C := 1) (S := 33) (by decide) (by decide)
  refine Outs.of st17 ?_
  show Outs p e below s _ _ _ (T17.setTop (mkF m 23 #[.val (.ref o0), .val (.int (5 : Int32)), .val (.ref b3), .val (.int (6 : Int32))] [(.long (F_f5 (5 : Int32) (6 : Int32))), (.int (6 : Int32)), (.ref b3)]))
  refine Outs.of (U' := T17.setTop (mkF m 25 #[.val (.ref o0), .val (.int (5 : Int32)), .val (.ref b3), .val (.int (6 : Int32))] [(.long ((F_f5 (5 : Int32) (6 : Int32)) + (1 : Int64))), (.int (6 : Int32)), (.ref b3)])) (fun t k => ?_) ?_
  · refine XS.lconst X17.here hx rfl (hb hby d3_23) ?_
    refine XS.ladd X17.here hx rfl (hb hby d3_24) rfl ?_
    exact k
  obtain ⟨T18, h18, X18, e18, W18, V18, st18⟩ := puJ X17 hx hZ e17 V16 (j := (6 : Int32)) (x := ((F_f5 (5 : Int32) (6 : Int32)) + (1 : Int64))) (k := 6) rfl (by decide) (f := (mkF m 25 #[.val (.ref o0), .val (.int (5 : Int32)), .val (.ref b3), .val (.int (6 : Int32))] [(.long ((F_f5 (5 : Int32) (6 : Int32)) + (1 : Int64))), (.int (6 : Int32)), (.ref b3)])) rfl rfl (hb hby d3_25)
  replace V18 : AJ Z h18 b3 .long 33 ct5_g25f := V18
  have N18 := Fr.snoc X18 N17 g_b3
  obtain ⟨Lh18, X18, N18⟩ := hide X18 N18 (C := 1) (S := 33) (by decide) (by decide)
  refine Outs.of st18 ?_
  show Outs p e below s _ _ _ (T18.setTop (mkF m 26 #[.val (.ref o0), .val (.int (5 : Int32)), .val (.ref b3), .val (.int (6 : Int32))] []))
  refine Outs.of (U' := T18.setTop (mkF m 33 #[.val (.ref o0), .val (.int (5 : Int32)), .val (.ref b3), .val (.int (7 : Int32))] [(.int (6 : Int32)), (.ref b3)])) (fun t k => ?_) ?_
  · refine XS.iinc X18.here hx rfl (hb hby d3_26) rfl (l' := #[.val (.ref o0), .val (.int (5 : Int32)), .val (.ref b3), .val (.int (7 : Int32))]) rfl ?_
    refine XS.aloadN X18.here hx rfl (hb hby d3_29) rfl rfl ?_
    refine XS.iloadN X18.here hx rfl (hb hby d3_30) rfl ?_
    refine XS.iconst X18.here hx rfl (hb hby d3_31) ?_
    refine XS.isub X18.here hx rfl (hb hby d3_32) rfl ?_
    exact k
  refine Outs.of (ldJ X18 hx hZ e18 V18 (j := (6 : Int32)) (k := 6) rfl (by decide) (f := (mkF m 33 #[.val (.ref o0), .val (.int (5 : Int32)), .val (.ref b3), .val (.int (7 : Int32))] [(.int (6 : Int32)), (.ref b3)])) rfl rfl (hb hby d3_33)) ?_
  show Outs p e below s _ _ _ (T18.setTop (mkF m 34 #[.val (.ref o0), .val (.int (5 : Int32)), .val (.ref b3), .val (.int (7 : Int32))] [(.long (ct5_g25f 6))]))
  refine Outs.of (U' := T18.setTop (mkF m 20 #[.val (.ref o0), .val (.int (5 : Int32)), .val (.ref b3), .val (.int (7 : Int32))] [(.int (7 : Int32)), (.int (5 : Int32)), (.int (7 : Int32)), (.ref b3)])) (fun t k => ?_) ?_
  · refine X18.ldc2Long hx hown (mvT hZ (hw _ (List.mem_of_getElem? (i := 27) rfl))) (g := (mkF m 34 #[.val (.ref o0), .val (.int (5 : Int32)), .val (.ref b3), .val (.int (7 : Int32))] [(.long (ct5_g25f 6))])) rfl (hb hby d3_34) _ ?_
    refine XS.lcmp X18.here hx rfl (hb hby d3_37) rfl ?_
    refine XS.ifYes X18.here hx rfl (pc0 := 38) (pc' := 16) rfl (hb hby d3_38) rfl ((if0 _ _).trans (flt (fun q_ => (show ¬ ((2147483647 : Int64) < (ct5_g25f 6)) from (by decide +kernel)) ((lw_gt _ _).mp q_))).2.2.2) (by decide) (by decide) ?_
    refine XS.aloadN X18.here hx rfl (hb hby d3_16) rfl rfl ?_
    refine XS.iloadN X18.here hx rfl (hb hby d3_17) rfl ?_
    refine XS.iloadN X18.here hx rfl (hb hby d3_18) rfl ?_
    refine XS.iloadN X18.here hx rfl (hb hby d3_19) rfl ?_
    exact k
  obtain ⟨_, _, ⟨T19, L19, k19, n19⟩, -, X19, ⟨Lc19, hQ19, l19, y19, z19⟩, st19⟩ := Jvm.LawKit.callS X18 hx (y := (⟨"com/example/bitmend/bitmend/CodeParameters", "columns", "(II)J"⟩ : MethodName)) hown (mvT hZ (hw _ (List.mem_of_getElem? (i := 23) rfl))) (mvT hZ (hw _ (List.mem_of_getElem? (i := 24) rfl))) (mvT hZ (hw _ (List.mem_of_getElem? (i := 25) rfl))) (mvT hZ (hw _ (List.mem_of_getElem? (i := 26) rfl))) (by decide) (backOf (W := 2) (rm5 l Z a0 hw [] (5 : Int32) (7 : Int32) h18 n0 (by decide)) hZ (hw _ (List.mem_of_getElem? (i := 26) rfl)) (hw _ (List.mem_of_getElem? (i := 25) rfl)) (by decide) (by decide)) (g := (mkF m 20 #[.val (.ref o0), .val (.int (5 : Int32)), .val (.ref b3), .val (.int (7 : Int32))] [(.int (7 : Int32)), (.int (5 : Int32)), (.int (7 : Int32)), (.ref b3)])) rfl (by rw [hml]; rfl) (argsL := [(.int (5 : Int32)), (.int (7 : Int32))]) (rest := [(.int (7 : Int32)), (.ref b3)]) (lenOf pd_0 rfl) rfl (by show 2 * 0 + _ ≤ _; exact Nat.le_of_eq rfl) (hb hby d3_20) (fun _ _ => ⟨rfl, e18, (by decide : 1 + 0 ≤ _), (by decide : 33 + 0 ≤ _)⟩)
  dsimp only [Pt.U, Pt.locs, Pt.cells, Pt.slots] at X19 l19 y19 z19 st19 hQ19
  subst l19 y19 z19
  obtain ⟨rfl, N19q, e19⟩ := hQ19
  have N19 := Fr.app N18 N19q
  obtain ⟨Lh19, X19, N19⟩ := hide X19 N19 (C := 1) (S := 33) (by decide) (by decide)
  refine Outs.of st19 ?_
  show Outs p e below s _ _ _ (T19.setTop (mkF m 23 #[.val (.ref o0), .val (.int (5 : Int32)), .val (.ref b3), .val (.int (7 : Int32))] [(.long (F_f5 (5 : Int32) (7 : Int32))), (.int (7 : Int32)), (.ref b3)]))
  refine Outs.of (U' := T19.setTop (mkF m 25 #[.val (.ref o0), .val (.int (5 : Int32)), .val (.ref b3), .val (.int (7 : Int32))] [(.long ((F_f5 (5 : Int32) (7 : Int32)) + (1 : Int64))), (.int (7 : Int32)), (.ref b3)])) (fun t k => ?_) ?_
  · refine XS.lconst X19.here hx rfl (hb hby d3_23) ?_
    refine XS.ladd X19.here hx rfl (hb hby d3_24) rfl ?_
    exact k
  obtain ⟨T20, h20, X20, e20, W20, V20, st20⟩ := puJ X19 hx hZ e19 V18 (j := (7 : Int32)) (x := ((F_f5 (5 : Int32) (7 : Int32)) + (1 : Int64))) (k := 7) rfl (by decide) (f := (mkF m 25 #[.val (.ref o0), .val (.int (5 : Int32)), .val (.ref b3), .val (.int (7 : Int32))] [(.long ((F_f5 (5 : Int32) (7 : Int32)) + (1 : Int64))), (.int (7 : Int32)), (.ref b3)])) rfl rfl (hb hby d3_25)
  replace V20 : AJ Z h20 b3 .long 33 ct5_g25g := V20
  have N20 := Fr.snoc X20 N19 g_b3
  obtain ⟨Lh20, X20, N20⟩ := hide X20 N20 (C := 1) (S := 33) (by decide) (by decide)
  refine Outs.of st20 ?_
  show Outs p e below s _ _ _ (T20.setTop (mkF m 26 #[.val (.ref o0), .val (.int (5 : Int32)), .val (.ref b3), .val (.int (7 : Int32))] []))
  refine Outs.of (U' := T20.setTop (mkF m 33 #[.val (.ref o0), .val (.int (5 : Int32)), .val (.ref b3), .val (.int (8 : Int32))] [(.int (7 : Int32)), (.ref b3)])) (fun t k => ?_) ?_
  · refine XS.iinc X20.here hx rfl (hb hby d3_26) rfl (l' := #[.val (.ref o0), .val (.int (5 : Int32)), .val (.ref b3), .val (.int (8 : Int32))]) rfl ?_
    refine XS.aloadN X20.here hx rfl (hb hby d3_29) rfl rfl ?_
    refine XS.iloadN X20.here hx rfl (hb hby d3_30) rfl ?_
    refine XS.iconst X20.here hx rfl (hb hby d3_31) ?_
    refine XS.isub X20.here hx rfl (hb hby d3_32) rfl ?_
    exact k
  refine Outs.of (ldJ X20 hx hZ e20 V20 (j := (7 : Int32)) (k := 7) rfl (by decide) (f := (mkF m 33 #[.val (.ref o0), .val (.int (5 : Int32)), .val (.ref b3), .val (.int (8 : Int32))] [(.int (7 : Int32)), (.ref b3)])) rfl rfl (hb hby d3_33)) ?_
  show Outs p e below s _ _ _ (T20.setTop (mkF m 34 #[.val (.ref o0), .val (.int (5 : Int32)), .val (.ref b3), .val (.int (8 : Int32))] [(.long (ct5_g25g 7))]))
  refine Outs.of (U' := T20.setTop (mkF m 20 #[.val (.ref o0), .val (.int (5 : Int32)), .val (.ref b3), .val (.int (8 : Int32))] [(.int (8 : Int32)), (.int (5 : Int32)), (.int (8 : Int32)), (.ref b3)])) (fun t k => ?_) ?_
  · refine X20.ldc2Long hx hown (mvT hZ (hw _ (List.mem_of_getElem? (i := 27) rfl))) (g := (mkF m 34 #[.val (.ref o0), .val (.int (5 : Int32)), .val (.ref b3), .val (.int (8 : Int32))] [(.long (ct5_g25g 7))])) rfl (hb hby d3_34) _ ?_
    refine XS.lcmp X20.here hx rfl (hb hby d3_37) rfl ?_
    refine XS.ifYes X20.here hx rfl (pc0 := 38) (pc' := 16) rfl (hb hby d3_38) rfl ((if0 _ _).trans (flt (fun q_ => (show ¬ ((2147483647 : Int64) < (ct5_g25g 7)) from (by decide +kernel)) ((lw_gt _ _).mp q_))).2.2.2) (by decide) (by decide) ?_
    refine XS.aloadN X20.here hx rfl (hb hby d3_16) rfl rfl ?_
    refine XS.iloadN X20.here hx rfl (hb hby d3_17) rfl ?_
    refine XS.iloadN X20.here hx rfl (hb hby d3_18) rfl ?_
    refine XS.iloadN X20.here hx rfl (hb hby d3_19) rfl ?_
    exact k
  obtain ⟨_, _, ⟨T21, L21, k21, n21⟩, -, X21, ⟨Lc21, hQ21, l21, y21, z21⟩, st21⟩ := Jvm.LawKit.callS X20 hx (y := (⟨"com/example/bitmend/bitmend/CodeParameters", "columns", "(II)J"⟩ : MethodName)) hown (mvT hZ (hw _ (List.mem_of_getElem? (i := 23) rfl))) (mvT hZ (hw _ (List.mem_of_getElem? (i := 24) rfl))) (mvT hZ (hw _ (List.mem_of_getElem? (i := 25) rfl))) (mvT hZ (hw _ (List.mem_of_getElem? (i := 26) rfl))) (by decide) (backOf (W := 2) (rm5 l Z a0 hw [] (5 : Int32) (8 : Int32) h20 n0 (by decide)) hZ (hw _ (List.mem_of_getElem? (i := 26) rfl)) (hw _ (List.mem_of_getElem? (i := 25) rfl)) (by decide) (by decide)) (g := (mkF m 20 #[.val (.ref o0), .val (.int (5 : Int32)), .val (.ref b3), .val (.int (8 : Int32))] [(.int (8 : Int32)), (.int (5 : Int32)), (.int (8 : Int32)), (.ref b3)])) rfl (by rw [hml]; rfl) (argsL := [(.int (5 : Int32)), (.int (8 : Int32))]) (rest := [(.int (8 : Int32)), (.ref b3)]) (lenOf pd_0 rfl) rfl (by show 2 * 0 + _ ≤ _; exact Nat.le_of_eq rfl) (hb hby d3_20) (fun _ _ => ⟨rfl, e20, (by decide : 1 + 0 ≤ _), (by decide : 33 + 0 ≤ _)⟩)
  dsimp only [Pt.U, Pt.locs, Pt.cells, Pt.slots] at X21 l21 y21 z21 st21 hQ21
  subst l21 y21 z21
  obtain ⟨rfl, N21q, e21⟩ := hQ21
  have N21 := Fr.app N20 N21q
  obtain ⟨Lh21, X21, N21⟩ := hide X21 N21 (C := 1) (S := 33) (by decide) (by decide)
  refine Outs.of st21 ?_
  show Outs p e below s _ _ _ (T21.setTop (mkF m 23 #[.val (.ref o0), .val (.int (5 : Int32)), .val (.ref b3), .val (.int (8 : Int32))] [(.long (F_f5 (5 : Int32) (8 : Int32))), (.int (8 : Int32)), (.ref b3)]))
  refine Outs.of (U' := T21.setTop (mkF m 25 #[.val (.ref o0), .val (.int (5 : Int32)), .val (.ref b3), .val (.int (8 : Int32))] [(.long ((F_f5 (5 : Int32) (8 : Int32)) + (1 : Int64))), (.int (8 : Int32)), (.ref b3)])) (fun t k => ?_) ?_
  · refine XS.lconst X21.here hx rfl (hb hby d3_23) ?_
    refine XS.ladd X21.here hx rfl (hb hby d3_24) rfl ?_
    exact k
  obtain ⟨T22, h22, X22, e22, W22, V22, st22⟩ := puJ X21 hx hZ e21 V20 (j := (8 : Int32)) (x := ((F_f5 (5 : Int32) (8 : Int32)) + (1 : Int64))) (k := 8) rfl (by decide) (f := (mkF m 25 #[.val (.ref o0), .val (.int (5 : Int32)), .val (.ref b3), .val (.int (8 : Int32))] [(.long ((F_f5 (5 : Int32) (8 : Int32)) + (1 : Int64))), (.int (8 : Int32)), (.ref b3)])) rfl rfl (hb hby d3_25)
  replace V22 : AJ Z h22 b3 .long 33 ct5_g25h := V22
  have N22 := Fr.snoc X22 N21 g_b3
  obtain ⟨Lh22, X22, N22⟩ := hide X22 N22 (C := 1) (S := 33) (by decide) (by decide)
  refine Outs.of st22 ?_
  show Outs p e below s _ _ _ (T22.setTop (mkF m 26 #[.val (.ref o0), .val (.int (5 : Int32)), .val (.ref b3), .val (.int (8 : Int32))] []))
  refine Outs.of (U' := T22.setTop (mkF m 33 #[.val (.ref o0), .val (.int (5 : Int32)), .val (.ref b3), .val (.int (9 : Int32))] [(.int (8 : Int32)), (.ref b3)])) (fun t k => ?_) ?_
  · refine XS.iinc X22.here hx rfl (hb hby d3_26) rfl (l' := #[.val (.ref o0), .val (.int (5 : Int32)), .val (.ref b3), .val (.int (9 : Int32))]) rfl ?_
    refine XS.aloadN X22.here hx rfl (hb hby d3_29) rfl rfl ?_
    refine XS.iloadN X22.here hx rfl (hb hby d3_30) rfl ?_
    refine XS.iconst X22.here hx rfl (hb hby d3_31) ?_
    refine XS.isub X22.here hx rfl (hb hby d3_32) rfl ?_
    exact k
  refine Outs.of (ldJ X22 hx hZ e22 V22 (j := (8 : Int32)) (k := 8) rfl (by decide) (f := (mkF m 33 #[.val (.ref o0), .val (.int (5 : Int32)), .val (.ref b3), .val (.int (9 : Int32))] [(.int (8 : Int32)), (.ref b3)])) rfl rfl (hb hby d3_33)) ?_
  show Outs p e below s _ _ _ (T22.setTop (mkF m 34 #[.val (.ref o0), .val (.int (5 : Int32)), .val (.ref b3), .val (.int (9 : Int32))] [(.long (ct5_g25h 8))]))
  refine Outs.of (U' := T22.setTop (mkF m 20 #[.val (.ref o0), .val (.int (5 : Int32)), .val (.ref b3), .val (.int (9 : Int32))] [(.int (9 : Int32)), (.int (5 : Int32)), (.int (9 : Int32)), (.ref b3)])) (fun t k => ?_) ?_
  · refine X22.ldc2Long hx hown (mvT hZ (hw _ (List.mem_of_getElem? (i := 27) rfl))) (g := (mkF m 34 #[.val (.ref o0), .val (.int (5 : Int32)), .val (.ref b3), .val (.int (9 : Int32))] [(.long (ct5_g25h 8))])) rfl (hb hby d3_34) _ ?_
    refine XS.lcmp X22.here hx rfl (hb hby d3_37) rfl ?_
    refine XS.ifYes X22.here hx rfl (pc0 := 38) (pc' := 16) rfl (hb hby d3_38) rfl ((if0 _ _).trans (flt (fun q_ => (show ¬ ((2147483647 : Int64) < (ct5_g25h 8)) from (by decide +kernel)) ((lw_gt _ _).mp q_))).2.2.2) (by decide) (by decide) ?_
    refine XS.aloadN X22.here hx rfl (hb hby d3_16) rfl rfl ?_
    refine XS.iloadN X22.here hx rfl (hb hby d3_17) rfl ?_
    refine XS.iloadN X22.here hx rfl (hb hby d3_18) rfl ?_
    refine XS.iloadN X22.here hx rfl (hb hby d3_19) rfl ?_
    exact k
  obtain ⟨_, _, ⟨T23, L23, k23, n23⟩, -, X23, ⟨Lc23, hQ23, l23, y23, z23⟩, st23⟩ := Jvm.LawKit.callS X22 hx (y := (⟨"com/example/bitmend/bitmend/CodeParameters", "columns", "(II)J"⟩ : MethodName)) hown (mvT hZ (hw _ (List.mem_of_getElem? (i := 23) rfl))) (mvT hZ (hw _ (List.mem_of_getElem? (i := 24) rfl))) (mvT hZ (hw _ (List.mem_of_getElem? (i := 25) rfl))) (mvT hZ (hw _ (List.mem_of_getElem? (i := 26) rfl))) (by decide) (backOf (W := 2) (rm5 l Z a0 hw [] (5 : Int32) (9 : Int32) h22 n0 (by decide)) hZ (hw _ (List.mem_of_getElem? (i := 26) rfl)) (hw _ (List.mem_of_getElem? (i := 25) rfl)) (by decide) (by decide)) (g := (mkF m 20 #[.val (.ref o0), .val (.int (5 : Int32)), .val (.ref b3), .val (.int (9 : Int32))] [(.int (9 : Int32)), (.int (5 : Int32)), (.int (9 : Int32)), (.ref b3)])) rfl (by rw [hml]; rfl) (argsL := [(.int (5 : Int32)), (.int (9 : Int32))]) (rest := [(.int (9 : Int32)), (.ref b3)]) (lenOf pd_0 rfl) rfl (by show 2 * 0 + _ ≤ _; exact Nat.le_of_eq rfl) (hb hby d3_20) (fun _ _ => ⟨rfl, e22, (by decide : 1 + 0 ≤ _), (by decide : 33 + 0 ≤ _)⟩)
  dsimp only [Pt.U, Pt.locs, Pt.cells, Pt.slots] at X23 l23 y23 z23 st23 hQ23
  subst l23 y23 z23
  obtain ⟨rfl, N23q, e23⟩ := hQ23
  have N23 := Fr.app N22 N23q
  obtain ⟨Lh23, X23, N23⟩ := hide X23 N23 (C := 1) (S := 33) (by decide) (by decide)
  refine Outs.of st23 ?_
  show Outs p e below s _ _ _ (T23.setTop (mkF m 23 #[.val (.ref o0), .val (.int (5 : Int32)), .val (.ref b3), .val (.int (9 : Int32))] [(.long (F_f5 (5 : Int32) (9 : Int32))), (.int (9 : Int32)), (.ref b3)]))
  refine Outs.of (U' := T23.setTop (mkF m 25 #[.val (.ref o0), .val (.int (5 : Int32)), .val (.ref b3), .val (.int (9 : Int32))] [(.long ((F_f5 (5 : Int32) (9 : Int32)) + (1 : Int64))), (.int (9 : Int32)), (.ref b3)])) (fun t k => ?_) ?_
  · refine XS.lconst X23.here hx rfl (hb hby d3_23) ?_
    refine XS.ladd X23.here hx rfl (hb hby d3_24) rfl ?_
    exact k
  obtain ⟨T24, h24, X24, e24, W24, V24, st24⟩ := puJ X23 hx hZ e23 V22 (j := (9 : Int32)) (x := ((F_f5 (5 : Int32) (9 : Int32)) + (1 : Int64))) (k := 9) rfl (by decide) (f := (mkF m 25 #[.val (.ref o0), .val (.int (5 : Int32)), .val (.ref b3), .val (.int (9 : Int32))] [(.long ((F_f5 (5 : Int32) (9 : Int32)) + (1 : Int64))), (.int (9 : Int32)), (.ref b3)])) rfl rfl (hb hby d3_25)
  replace V24 : AJ Z h24 b3 .long 33 ct5_g25i := V24
  have N24 := Fr.snoc X24 N23 g_b3
  obtain ⟨Lh24, X24, N24⟩ := hide X24 N24 (C := 1) (S := 33) (by decide) (by decide)
  refine Outs.of st24 ?_
  show Outs p e below s _ _ _ (T24.setTop (mkF m 26 #[.val (.ref o0), .val (.int (5 : Int32)), .val (.ref b3), .val (.int (9 : Int32))] []))
  refine Outs.of (U' := T24.setTop (mkF m 33 #[.val (.ref o0), .val (.int (5 : Int32)), .val (.ref b3), .val (.int (10 : Int32))] [(.int (9 : Int32)), (.ref b3)])) (fun t k => ?_) ?_
  · refine XS.iinc X24.here hx rfl (hb hby d3_26) rfl (l' := #[.val (.ref o0), .val (.int (5 : Int32)), .val (.ref b3), .val (.int (10 : Int32))]) rfl ?_
    refine XS.aloadN X24.here hx rfl (hb hby d3_29) rfl rfl ?_
    refine XS.iloadN X24.here hx rfl (hb hby d3_30) rfl ?_
    refine XS.iconst X24.here hx rfl (hb hby d3_31) ?_
    refine XS.isub X24.here hx rfl (hb hby d3_32) rfl ?_
    exact k
  refine Outs.of (ldJ X24 hx hZ e24 V24 (j := (9 : Int32)) (k := 9) rfl (by decide) (f := (mkF m 33 #[.val (.ref o0), .val (.int (5 : Int32)), .val (.ref b3), .val (.int (10 : Int32))] [(.int (9 : Int32)), (.ref b3)])) rfl rfl (hb hby d3_33)) ?_
  show Outs p e below s _ _ _ (T24.setTop (mkF m 34 #[.val (.ref o0), .val (.int (5 : Int32)), .val (.ref b3), .val (.int (10 : Int32))] [(.long (ct5_g25i 9))]))
  refine Outs.of (U' := T24.setTop (mkF m 20 #[.val (.ref o0), .val (.int (5 : Int32)), .val (.ref b3), .val (.int (10 : Int32))] [(.int (10 : Int32)), (.int (5 : Int32)), (.int (10 : Int32)), (.ref b3)])) (fun t k => ?_) ?_
  · refine X24.ldc2Long hx hown (mvT hZ (hw _ (List.mem_of_getElem? (i := 27) rfl))) (g := (mkF m 34 #[.val (.ref o0), .val (.int (5 : Int32)), .val (.ref b3), .val (.int (10 : Int32))] [(.long (ct5_g25i 9))])) rfl (hb hby d3_34) _ ?_
    refine XS.lcmp X24.here hx rfl (hb hby d3_37) rfl ?_
    refine XS.ifYes X24.here hx rfl (pc0 := 38) (pc' := 16) rfl (hb hby d3_38) rfl ((if0 _ _).trans (flt (fun q_ => (show ¬ ((2147483647 : Int64) < (ct5_g25i 9)) from (by decide +kernel)) ((lw_gt _ _).mp q_))).2.2.2) (by decide) (by decide) ?_
    refine XS.aloadN X24.here hx rfl (hb hby d3_16) rfl rfl ?_
    refine XS.iloadN X24.here hx rfl (hb hby d3_17) rfl ?_
    refine XS.iloadN X24.here hx rfl (hb hby d3_18) rfl ?_
    refine XS.iloadN X24.here hx rfl (hb hby d3_19) rfl ?_
    exact k
  obtain ⟨_, _, ⟨T25, L25, k25, n25⟩, -, X25, ⟨Lc25, hQ25, l25, y25, z25⟩, st25⟩ := Jvm.LawKit.callS X24 hx (y := (⟨"com/example/bitmend/bitmend/CodeParameters", "columns", "(II)J"⟩ : MethodName)) hown (mvT hZ (hw _ (List.mem_of_getElem? (i := 23) rfl))) (mvT hZ (hw _ (List.mem_of_getElem? (i := 24) rfl))) (mvT hZ (hw _ (List.mem_of_getElem? (i := 25) rfl))) (mvT hZ (hw _ (List.mem_of_getElem? (i := 26) rfl))) (by decide) (backOf (W := 2) (rm5 l Z a0 hw [] (5 : Int32) (10 : Int32) h24 n0 (by decide)) hZ (hw _ (List.mem_of_getElem? (i := 26) rfl)) (hw _ (List.mem_of_getElem? (i := 25) rfl)) (by decide) (by decide)) (g := (mkF m 20 #[.val (.ref o0), .val (.int (5 : Int32)), .val (.ref b3), .val (.int (10 : Int32))] [(.int (10 : Int32)), (.int (5 : Int32)), (.int (10 : Int32)), (.ref b3)])) rfl (by rw [hml]; rfl) (argsL := [(.int (5 : Int32)), (.int (10 : Int32))]) (rest := [(.int (10 : Int32)), (.ref b3)]) (lenOf pd_0 rfl) rfl (by show 2 * 0 + _ ≤ _; exact Nat.le_of_eq rfl) (hb hby d3_20) (fun _ _ => ⟨rfl, e24, (by decide : 1 + 0 ≤ _), (by decide : 33 + 0 ≤ _)⟩)
  dsimp only [Pt.U, Pt.locs, Pt.cells, Pt.slots] at X25 l25 y25 z25 st25 hQ25
  subst l25 y25 z25
  obtain ⟨rfl, N25q, e25⟩ := hQ25
  have N25 := Fr.app N24 N25q
  obtain ⟨Lh25, X25, N25⟩ := hide X25 N25 (C := 1) (S := 33) (by decide) (by decide)
  refine Outs.of st25 ?_
  show Outs p e below s _ _ _ (T25.setTop (mkF m 23 #[.val (.ref o0), .val (.int (5 : Int32)), .val (.ref b3), .val (.int (10 : Int32))] [(.long (F_f5 (5 : Int32) (10 : Int32))), (.int (10 : Int32)), (.ref b3)]))
  refine Outs.of (U' := T25.setTop (mkF m 25 #[.val (.ref o0), .val (.int (5 : Int32)), .val (.ref b3), .val (.int (10 : Int32))] [(.long ((F_f5 (5 : Int32) (10 : Int32)) + (1 : Int64))), (.int (10 : Int32)), (.ref b3)])) (fun t k => ?_) ?_
  · refine XS.lconst X25.here hx rfl (hb hby d3_23) ?_
    refine XS.ladd X25.here hx rfl (hb hby d3_24) rfl ?_
    exact k
  obtain ⟨T26, h26, X26, e26, W26, V26, st26⟩ := puJ X25 hx hZ e25 V24 (j := (10 : Int32)) (x := ((F_f5 (5 : Int32) (10 : Int32)) + (1 : Int64))) (k := 10) rfl (by decide) (f := (mkF m 25 #[.val (.ref o0), .val (.int (5 : Int32)), .val (.ref b3), .val (.int (10 : Int32))] [(.long ((F_f5 (5 : Int32) (10 : Int32)) + (1 : Int64))), (.int (10 : Int32)), (.ref b3)])) rfl rfl (hb hby d3_25)
  replace V26 : AJ Z h26 b3 .long 33 ct5_g25j := V26
  have N26 := Fr.snoc X26 N25 g_b3
  obtain ⟨Lh26, X26, N26⟩ := hide X26 N26 (C := 1) (S := 33) (by decide) (by decide)
  refine Outs.of st26 ?_
  show Outs p e below s _ _ _ (T26.setTop (mkF m 26 #[.val (.ref o0), .val (.int (5 : Int32)), .val (.ref b3), .val (.int (10 : Int32))] []))
  refine Outs.of (U' := T26.setTop (mkF m 33 #[.val (.ref o0), .val (.int (5 : Int32)), .val (.ref b3), .val (.int (11 : Int32))] [(.int (10 : Int32)), (.ref b3)])) (fun t k => ?_) ?_
  · refine XS.iinc X26.here hx rfl (hb hby d3_26) rfl (l' := #[.val (.ref o0), .val (.int (5 : Int32)), .val (.ref b3), .val (.int (11 : Int32))]) rfl ?_
    refine XS.aloadN X26.here hx rfl (hb hby d3_29) rfl rfl ?_
    refine XS.iloadN X26.here hx rfl (hb hby d3_30) rfl ?_
    refine XS.iconst X26.here hx rfl (hb hby d3_31) ?_
    refine XS.isub X26.here hx rfl (hb hby d3_32) rfl ?_
    exact k
  refine Outs.of (ldJ X26 hx hZ e26 V26 (j := (10 : Int32)) (k := 10) rfl (by decide) (f := (mkF m 33 #[.val (.ref o0), .val (.int (5 : Int32)), .val (.ref b3), .val (.int (11 : Int32))] [(.int (10 : Int32)), (.ref b3)])) rfl rfl (hb hby d3_33)) ?_
  show Outs p e below s _ _ _ (T26.setTop (mkF m 34 #[.val (.ref o0), .val (.int (5 : Int32)), .val (.ref b3), .val (.int (11 : Int32))] [(.long (ct5_g25j 10))]))
  refine Outs.of (U' := T26.setTop (mkF m 20 #[.val (.ref o0), .val (.int (5 : Int32)), .val (.ref b3), .val (.int (11 : Int32))] [(.int (11 : Int32)), (.int (5 : Int32)), (.int (11 : Int32)), (.ref b3)])) (fun t k => ?_) ?_
  · refine X26.ldc2Long hx hown (mvT hZ (hw _ (List.mem_of_getElem? (i := 27) rfl))) (g := (mkF m 34 #[.val (.ref o0), .val (.int (5 : Int32)), .val (.ref b3), .val (.int (11 : Int32))] [(.long (ct5_g25j 10))])) rfl (hb hby d3_34) _ ?_
    refine XS.lcmp X26.here hx rfl (hb hby d3_37) rfl ?_
    refine XS.ifYes X26.here hx rfl (pc0 := 38) (pc' := 16) rfl (hb hby d3_38) rfl ((if0 _ _).trans (flt (fun q_ => (show ¬ ((2147483647 : Int64) < (ct5_g25j 10)) from (by decide +kernel)) ((lw_gt _ _).mp q_))).2.2.2) (by decide) (by decide) ?_
    refine XS.aloadN X26.here hx rfl (hb hby d3_16) rfl rfl ?_
    refine XS.iloadN X26.here hx rfl (hb hby d3_17) rfl ?_
    refine XS.iloadN X26.here hx rfl (hb hby d3_18) rfl ?_
    refine XS.iloadN X26.here hx rfl (hb hby d3_19) rfl ?_
    exact k
  obtain ⟨_, _, ⟨T27, L27, k27, n27⟩, -, X27, ⟨Lc27, hQ27, l27, y27, z27⟩, st27⟩ := Jvm.LawKit.callS X26 hx (y := (⟨"com/example/bitmend/bitmend/CodeParameters", "columns", "(II)J"⟩ : MethodName)) hown (mvT hZ (hw _ (List.mem_of_getElem? (i := 23) rfl))) (mvT hZ (hw _ (List.mem_of_getElem? (i := 24) rfl))) (mvT hZ (hw _ (List.mem_of_getElem? (i := 25) rfl))) (mvT hZ (hw _ (List.mem_of_getElem? (i := 26) rfl))) (by decide) (backOf (W := 2) (rm5 l Z a0 hw [] (5 : Int32) (11 : Int32) h26 n0 (by decide)) hZ (hw _ (List.mem_of_getElem? (i := 26) rfl)) (hw _ (List.mem_of_getElem? (i := 25) rfl)) (by decide) (by decide)) (g := (mkF m 20 #[.val (.ref o0), .val (.int (5 : Int32)), .val (.ref b3), .val (.int (11 : Int32))] [(.int (11 : Int32)), (.int (5 : Int32)), (.int (11 : Int32)), (.ref b3)])) rfl (by rw [hml]; rfl) (argsL := [(.int (5 : Int32)), (.int (11 : Int32))]) (rest := [(.int (11 : Int32)), (.ref b3)]) (lenOf pd_0 rfl) rfl (by show 2 * 0 + _ ≤ _; exact Nat.le_of_eq rfl) (hb hby d3_20) (fun _ _ => ⟨rfl, e26, (by decide : 1 + 0 ≤ _), (by decide : 33 + 0 ≤ _)⟩)
  dsimp only [Pt.U, Pt.locs, Pt.cells, Pt.slots] at X27 l27 y27 z27 st27 hQ27
  subst l27 y27 z27
  obtain ⟨rfl, N27q, e27⟩ := hQ27
  have N27 := Fr.app N26 N27q
  obtain ⟨Lh27, X27, N27⟩ := hide X27 N27 (C := 1) (S := 33) (by decide) (by decide)
  refine Outs.of st27 ?_
  show Outs p e below s _ _ _ (T27.setTop (mkF m 23 #[.val (.ref o0), .val (.int (5 : Int32)), .val (.ref b3), .val (.int (11 : Int32))] [(.long (F_f5 (5 : Int32) (11 : Int32))), (.int (11 : Int32)), (.ref b3)]))
  refine Outs.of (U' := T27.setTop (mkF m 25 #[.val (.ref o0), .val (.int (5 : Int32)), .val (.ref b3), .val (.int (11 : Int32))] [(.long ((F_f5 (5 : Int32) (11 : Int32)) + (1 : Int64))), (.int (11 : Int32)), (.ref b3)])) (fun t k => ?_) ?_
  · refine XS.lconst X27.here hx rfl (hb hby d3_23) ?_
    refine XS.ladd X27.here hx rfl (hb hby d3_24) rfl ?_
    exact k
  obtain ⟨T28, h28, X28, e28, W28, V28, st28⟩ := puJ X27 hx hZ e27 V26 (j := (11 : Int32)) (x := ((F_f5 (5 : Int32) (11 : Int32)) + (1 : Int64))) (k := 11) rfl (by decide) (f := (mkF m 25 #[.val (.ref o0), .val (.int (5 : Int32)), .val (.ref b3), .val (.int (11 : Int32))] [(.long ((F_f5 (5 : Int32) (11 : Int32)) + (1 : Int64))), (.int (11 : Int32)), (.ref b3)])) rfl rfl (hb hby d3_25)
  replace V28 : AJ Z h28 b3 .long 33 ct5_g25k := V28
  have N28 := Fr.snoc X28 N27 g_b3
  obtain ⟨Lh28, X28, N28⟩ := hide X28 N28 (C := 1) (S := 33) (by decide) (by decide)
  refine Outs.of st28 ?_
  show Outs p e below s _ _ _ (T28.setTop (mkF m 26 #[.val (.ref o0), .val (.int (5 : Int32)), .val (.ref b3), .val (.int (11 : Int32))] []))
  refine Outs.of (U' := T28.setTop (mkF m 33 #[.val (.ref o0), .val (.int (5 : Int32)), .val (.ref b3), .val (.int (12 : Int32))] [(.int (11 : Int32)), (.ref b3)])) (fun t k => ?_) ?_
  · refine XS.iinc X28.here hx rfl (hb hby d3_26) rfl (l' := #[.val (.ref o0), .val (.int (5 : Int32)), .val (.ref b3), .val (.int (12 : Int32))]) rfl ?_
    refine XS.aloadN X28.here hx rfl (hb hby d3_29) rfl rfl ?_
    refine XS.iloadN X28.here hx rfl (hb hby d3_30) rfl ?_
    refine XS.iconst X28.here hx rfl (hb hby d3_31) ?_
    refine XS.isub X28.here hx rfl (hb hby d3_32) rfl ?_
    exact k
  refine Outs.of (ldJ X28 hx hZ e28 V28 (j := (11 : Int32)) (k := 11) rfl (by decide) (f := (mkF m 33 #[.val (.ref o0), .val (.int (5 : Int32)), .val (.ref b3), .val (.int (12 : Int32))] [(.int (11 : Int32)), (.ref b3)])) rfl rfl (hb hby d3_33)) ?_
  show Outs p e below s _ _ _ (T28.setTop (mkF m 34 #[.val (.ref o0), .val (.int (5 : Int32)), .val (.ref b3), .val (.int (12 : Int32))] [(.long (ct5_g25k 11))]))
  refine Outs.of (U' := T28.setTop (mkF m 20 #[.val (.ref o0), .val (.int (5 : Int32)), .val (.ref b3), .val (.int (12 : Int32))] [(.int (12 : Int32)), (.int (5 : Int32)), (.int (12 : Int32)), (.ref b3)])) (fun t k => ?_) ?_
  · refine X28.ldc2Long hx hown (mvT hZ (hw _ (List.mem_of_getElem? (i := 27) rfl))) (g := (mkF m 34 #[.val (.ref o0), .val (.int (5 : Int32)), .val (.ref b3), .val (.int (12 : Int32))] [(.long (ct5_g25k 11))])) rfl (hb hby d3_34) _ ?_
    refine XS.lcmp X28.here hx rfl (hb hby d3_37) rfl ?_
    refine XS.ifYes X28.here hx rfl (pc0 := 38) (pc' := 16) rfl (hb hby d3_38) rfl ((if0 _ _).trans (flt (fun q_ => (show ¬ ((2147483647 : Int64) < (ct5_g25k 11)) from (by decide +kernel)) ((lw_gt _ _).mp q_))).2.2.2) (by decide) (by decide) ?_
    refine XS.aloadN X28.here hx rfl (hb hby d3_16) rfl rfl ?_
    refine XS.iloadN X28.here hx rfl (hb hby d3_17) rfl ?_
    refine XS.iloadN X28.here hx rfl (hb hby d3_18) rfl ?_
    refine XS.iloadN X28.here hx rfl (hb hby d3_19) rfl ?_
    exact k
  obtain ⟨_, _, ⟨T29, L29, k29, n29⟩, -, X29, ⟨Lc29, hQ29, l29, y29, z29⟩, st29⟩ := Jvm.LawKit.callS X28 hx (y := (⟨"com/example/bitmend/bitmend/CodeParameters", "columns", "(II)J"⟩ : MethodName)) hown (mvT hZ (hw _ (List.mem_of_getElem? (i := 23) rfl))) (mvT hZ (hw _ (List.mem_of_getElem? (i := 24) rfl))) (mvT hZ (hw _ (List.mem_of_getElem? (i := 25) rfl))) (mvT hZ (hw _ (List.mem_of_getElem? (i := 26) rfl))) (by decide) (backOf (W := 2) (rm5 l Z a0 hw [] (5 : Int32) (12 : Int32) h28 n0 (by decide)) hZ (hw _ (List.mem_of_getElem? (i := 26) rfl)) (hw _ (List.mem_of_getElem? (i := 25) rfl)) (by decide) (by decide)) (g := (mkF m 20 #[.val (.ref o0), .val (.int (5 : Int32)), .val (.ref b3), .val (.int (12 : Int32))] [(.int (12 : Int32)), (.int (5 : Int32)), (.int (12 : Int32)), (.ref b3)])) rfl (by rw [hml]; rfl) (argsL := [(.int (5 : Int32)), (.int (12 : Int32))]) (rest := [(.int (12 : Int32)), (.ref b3)]) (lenOf pd_0 rfl) rfl (by show 2 * 0 + _ ≤ _; exact Nat.le_of_eq rfl) (hb hby d3_20) (fun _ _ => ⟨rfl, e28, (by decide : 1 + 0 ≤ _), (by decide : 33 + 0 ≤ _)⟩)
  dsimp only [Pt.U, Pt.locs, Pt.cells, Pt.slots] at X29 l29 y29 z29 st29 hQ29
  subst l29 y29 z29
  obtain ⟨rfl, N29q, e29⟩ := hQ29
  have N29 := Fr.app N28 N29q
  obtain ⟨Lh29, X29, N29⟩ := hide X29 N29 (C := 1) (S := 33) (by decide) (by decide)
  refine Outs.of st29 ?_
  show Outs p e below s _ _ _ (T29.setTop (mkF m 23 #[.val (.ref o0), .val (.int (5 : Int32)), .val (.ref b3), .val (.int (12 : Int32))] [(.long (F_f5 (5 : Int32) (12 : Int32))), (.int (12 : Int32)), (.ref b3)]))
  refine Outs.of (U' := T29.setTop (mkF m 25 #[.val (.ref o0), .val (.int (5 : Int32)), .val (.ref b3), .val (.int (12 : Int32))] [(.long ((F_f5 (5 : Int32) (12 : Int32)) + (1 : Int64))), (.int (12 : Int32)), (.ref b3)])) (fun t k => ?_) ?_
  · refine XS.lconst X29.here hx rfl (hb hby d3_23) ?_
    refine XS.ladd X29.here hx rfl (hb hby d3_24) rfl ?_
    exact k
  obtain ⟨T30, h30, X30, e30, W30, V30, st30⟩ := puJ X29 hx hZ e29 V28 (j := (12 : Int32)) (x := ((F_f5 (5 : Int32) (12 : Int32)) + (1 : Int64))) (k := 12) rfl (by decide) (f := (mkF m 25 #[.val (.ref o0), .val (.int (5 : Int32)), .val (.ref b3), .val (.int (12 : Int32))] [(.long ((F_f5 (5 : Int32) (12 : Int32)) + (1 : Int64))), (.int (12 : Int32)), (.ref b3)])) rfl rfl (hb hby d3_25)
  replace V30 : AJ Z h30 b3 .long 33 ct5_g25l := V30
  have N30 := Fr.snoc X30 N29 g_b3
  obtain ⟨Lh30, X30, N30⟩ := hide X30 N30 (C := 1) (S := 33) (by decide) (by decide)
  refine Outs.of st30 ?_
  show Outs p e below s _ _ _ (T30.setTop (mkF m 26 #[.val (.ref o0), .val (.int (5 : Int32)), .val (.ref b3), .val (.int (12 : Int32))] []))
  refine Outs.of (U' := T30.setTop (mkF m 33 #[.val (.ref o0), .val (.int (5 : Int32)), .val (.ref b3), .val (.int (13 : Int32))] [(.int (12 : Int32)), (.ref b3)])) (fun t k => ?_) ?_
  · refine XS.iinc X30.here hx rfl (hb hby d3_26) rfl (l' := #[.val (.ref o0), .val (.int (5 : Int32)), .val (.ref b3), .val (.int (13 : Int32))]) rfl ?_
    refine XS.aloadN X30.here hx rfl (hb hby d3_29) rfl rfl ?_
    refine XS.iloadN X30.here hx rfl (hb hby d3_30) rfl ?_
    refine XS.iconst X30.here hx rfl (hb hby d3_31) ?_
    refine XS.isub X30.here hx rfl (hb hby d3_32) rfl ?_
    exact k
  refine Outs.of (ldJ X30 hx hZ e30 V30 (j := (12 : Int32)) (k := 12) rfl (by decide) (f := (mkF m 33 #[.val (.ref o0), .val (.int (5 : Int32)), .val (.ref b3), .val (.int (13 : Int32))] [(.int (12 : Int32)), (.ref b3)])) rfl rfl (hb hby d3_33)) ?_
  show Outs p e below s _ _ _ (T30.setTop (mkF m 34 #[.val (.ref o0), .val (.int (5 : Int32)), .val (.ref b3), .val (.int (13 : Int32))] [(.long (ct5_g25l 12))]))
  refine Outs.of (U' := T30.setTop (mkF m 20 #[.val (.ref o0), .val (.int (5 : Int32)), .val (.ref b3), .val (.int (13 : Int32))] [(.int (13 : Int32)), (.int (5 : Int32)), (.int (13 : Int32)), (.ref b3)])) (fun t k => ?_) ?_
  · refine X30.ldc2Long hx hown (mvT hZ (hw _ (List.mem_of_getElem? (i := 27) rfl))) (g := (mkF m 34 #[.val (.ref o0), .val (.int (5 : Int32)), .val (.ref b3), .val (.int (13 : Int32))] [(.long (ct5_g25l 12))])) rfl (hb hby d3_34) _ ?_
    refine XS.lcmp X30.here hx rfl (hb hby d3_37) rfl ?_
    refine XS.ifYes X30.here hx rfl (pc0 := 38) (pc' := 16) rfl (hb hby d3_38) rfl ((if0 _ _).trans (flt (fun q_ => (show ¬ ((2147483647 : Int64) < (ct5_g25l 12)) from (by decide +kernel)) ((lw_gt _ _).mp q_))).2.2.2) (by decide) (by decide) ?_
    refine XS.aloadN X30.here hx rfl (hb hby d3_16) rfl rfl ?_
    refine XS.iloadN X30.here hx rfl (hb hby d3_17) rfl ?_
    refine XS.iloadN X30.here hx rfl (hb hby d3_18) rfl ?_
    refine XS.iloadN X30.here hx rfl (hb hby d3_19) rfl ?_
    exact k
  obtain ⟨_, _, ⟨T31, L31, k31, n31⟩, -, X31, ⟨Lc31, hQ31, l31, y31, z31⟩, st31⟩ := Jvm.LawKit.callS X30 hx (y := (⟨"com/example/bitmend/bitmend/CodeParameters", "columns", "(II)J"⟩ : MethodName)) hown (mvT hZ (hw _ (List.mem_of_getElem? (i := 23) rfl))) (mvT hZ (hw _ (List.mem_of_getElem? (i := 24) rfl))) (mvT hZ (hw _ (List.mem_of_getElem? (i := 25) rfl))) (mvT hZ (hw _ (List.mem_of_getElem? (i := 26) rfl))) (by decide) (backOf (W := 2) (rm5 l Z a0 hw [] (5 : Int32) (13 : Int32) h30 n0 (by decide)) hZ (hw _ (List.mem_of_getElem? (i := 26) rfl)) (hw _ (List.mem_of_getElem? (i := 25) rfl)) (by decide) (by decide)) (g := (mkF m 20 #[.val (.ref o0), .val (.int (5 : Int32)), .val (.ref b3), .val (.int (13 : Int32))] [(.int (13 : Int32)), (.int (5 : Int32)), (.int (13 : Int32)), (.ref b3)])) rfl (by rw [hml]; rfl) (argsL := [(.int (5 : Int32)), (.int (13 : Int32))]) (rest := [(.int (13 : Int32)), (.ref b3)]) (lenOf pd_0 rfl) rfl (by show 2 * 0 + _ ≤ _; exact Nat.le_of_eq rfl) (hb hby d3_20) (fun _ _ => ⟨rfl, e30, (by decide : 1 + 0 ≤ _), (by decide : 33 + 0 ≤ _)⟩)
  dsimp only [Pt.U, Pt.locs, Pt.cells, Pt.slots] at X31 l31 y31 z31 st31 hQ31
  subst l31 y31 z31
  obtain ⟨rfl, N31q, e31⟩ := hQ31
  have N31 := Fr.app N30 N31q
  obtain ⟨Lh31, X31, N31⟩ := hide X31 N31 (C := 1) (S := 33) (by decide) (by decide)
  refine Outs.of st31 ?_
  show Outs p e below s _ _ _ (T31.setTop (mkF m 23 #[.val (.ref o0), .val (.int (5 : Int32)), .val (.ref b3), .val (.int (13 : Int32))] [(.long (F_f5 (5 : Int32) (13 : Int32))), (.int (13 : Int32)), (.ref b3)]))
  refine Outs.of (U' := T31.setTop (mkF m 25 #[.val (.ref o0), .val (.int (5 : Int32)), .val (.ref b3), .val (.int (13 : Int32))] [(.long ((F_f5 (5 : Int32) (13 : Int32)) + (1 : Int64))), (.int (13 : Int32)), (.ref b3)])) (fun t k => ?_) ?_
  · refine XS.lconst X31.here hx rfl (hb hby d3_23) ?_
    refine XS.ladd X31.here hx rfl (hb hby d3_24) rfl ?_
    exact k
  obtain ⟨T32, h32, X32, e32, W32, V32, st32⟩ := puJ X31 hx hZ e31 V30 (j := (13 : Int32)) (x := ((F_f5 (5 : Int32) (13 : Int32)) + (1 : Int64))) (k := 13) rfl (by decide) (f := (mkF m 25 #[.val (.ref o0), .val (.int (5 : Int32)), .val (.ref b3), .val (.int (13 : Int32))] [(.long ((F_f5 (5 : Int32) (13 : Int32)) + (1 : Int64))), (.int (13 : Int32)), (.ref b3)])) rfl rfl (hb hby d3_25)
  replace V32 : AJ Z h32 b3 .long 33 ct5_g25m := V32
  have N32 := Fr.snoc X32 N31 g_b3
  obtain ⟨Lh32, X32, N32⟩ := hide X32 N32 (C := 1) (S := 33) (by decide) (by decide)
  refine Outs.of st32 ?_
  show Outs p e below s _ _ _ (T32.setTop (mkF m 26 #[.val (.ref o0), .val (.int (5 : Int32)), .val (.ref b3), .val (.int (13 : Int32))] []))
  refine Outs.of (U' := T32.setTop (mkF m 33 #[.val (.ref o0), .val (.int (5 : Int32)), .val (.ref b3), .val (.int (14 : Int32))] [(.int (13 : Int32)), (.ref b3)])) (fun t k => ?_) ?_
  · refine XS.iinc X32.here hx rfl (hb hby d3_26) rfl (l' := #[.val (.ref o0), .val (.int (5 : Int32)), .val (.ref b3), .val (.int (14 : Int32))]) rfl ?_
    refine XS.aloadN X32.here hx rfl (hb hby d3_29) rfl rfl ?_
    refine XS.iloadN X32.here hx rfl (hb hby d3_30) rfl ?_
    refine XS.iconst X32.here hx rfl (hb hby d3_31) ?_
    refine XS.isub X32.here hx rfl (hb hby d3_32) rfl ?_
    exact k
  refine Outs.of (ldJ X32 hx hZ e32 V32 (j := (13 : Int32)) (k := 13) rfl (by decide) (f := (mkF m 33 #[.val (.ref o0), .val (.int (5 : Int32)), .val (.ref b3), .val (.int (14 : Int32))] [(.int (13 : Int32)), (.ref b3)])) rfl rfl (hb hby d3_33)) ?_
  show Outs p e below s _ _ _ (T32.setTop (mkF m 34 #[.val (.ref o0), .val (.int (5 : Int32)), .val (.ref b3), .val (.int (14 : Int32))] [(.long (ct5_g25m 13))]))
  refine Outs.of (U' := T32.setTop (mkF m 20 #[.val (.ref o0), .val (.int (5 : Int32)), .val (.ref b3), .val (.int (14 : Int32))] [(.int (14 : Int32)), (.int (5 : Int32)), (.int (14 : Int32)), (.ref b3)])) (fun t k => ?_) ?_
  · refine X32.ldc2Long hx hown (mvT hZ (hw _ (List.mem_of_getElem? (i := 27) rfl))) (g := (mkF m 34 #[.val (.ref o0), .val (.int (5 : Int32)), .val (.ref b3), .val (.int (14 : Int32))] [(.long (ct5_g25m 13))])) rfl (hb hby d3_34) _ ?_
    refine XS.lcmp X32.here hx rfl (hb hby d3_37) rfl ?_
    refine XS.ifYes X32.here hx rfl (pc0 := 38) (pc' := 16) rfl (hb hby d3_38) rfl ((if0 _ _).trans (flt (fun q_ => (show ¬ ((2147483647 : Int64) < (ct5_g25m 13)) from (by decide +kernel)) ((lw_gt _ _).mp q_))).2.2.2) (by decide) (by decide) ?_
    refine XS.aloadN X32.here hx rfl (hb hby d3_16) rfl rfl ?_
    refine XS.iloadN X32.here hx rfl (hb hby d3_17) rfl ?_
    refine XS.iloadN X32.here hx rfl (hb hby d3_18) rfl ?_
    refine XS.iloadN X32.here hx rfl (hb hby d3_19) rfl ?_
    exact k
  obtain ⟨_, _, ⟨T33, L33, k33, n33⟩, -, X33, ⟨Lc33, hQ33, l33, y33, z33⟩, st33⟩ := Jvm.LawKit.callS X32 hx (y := (⟨"com/example/bitmend/bitmend/CodeParameters", "columns", "(II)J"⟩ : MethodName)) hown (mvT hZ (hw _ (List.mem_of_getElem? (i := 23) rfl))) (mvT hZ (hw _ (List.mem_of_getElem? (i := 24) rfl))) (mvT hZ (hw _ (List.mem_of_getElem? (i := 25) rfl))) (mvT hZ (hw _ (List.mem_of_getElem? (i := 26) rfl))) (by decide) (backOf (W := 2) (rm5 l Z a0 hw [] (5 : Int32) (14 : Int32) h32 n0 (by decide)) hZ (hw _ (List.mem_of_getElem? (i := 26) rfl)) (hw _ (List.mem_of_getElem? (i := 25) rfl)) (by decide) (by decide)) (g := (mkF m 20 #[.val (.ref o0), .val (.int (5 : Int32)), .val (.ref b3), .val (.int (14 : Int32))] [(.int (14 : Int32)), (.int (5 : Int32)), (.int (14 : Int32)), (.ref b3)])) rfl (by rw [hml]; rfl) (argsL := [(.int (5 : Int32)), (.int (14 : Int32))]) (rest := [(.int (14 : Int32)), (.ref b3)]) (lenOf pd_0 rfl) rfl (by show 2 * 0 + _ ≤ _; exact Nat.le_of_eq rfl) (hb hby d3_20) (fun _ _ => ⟨rfl, e32, (by decide : 1 + 0 ≤ _), (by decide : 33 + 0 ≤ _)⟩)
  dsimp only [Pt.U, Pt.locs, Pt.cells, Pt.slots] at X33 l33 y33 z33 st33 hQ33
  subst l33 y33 z33
  obtain ⟨rfl, N33q, e33⟩ := hQ33
  have N33 := Fr.app N32 N33q
  obtain ⟨Lh33, X33, N33⟩ := hide X33 N33 (C := 1) (S := 33) (by decide) (by decide)
  refine Outs.of st33 ?_
  show Outs p e below s _ _ _ (T33.setTop (mkF m 23 #[.val (.ref o0), .val (.int (5 : Int32)), .val (.ref b3), .val (.int (14 : Int32))] [(.long (F_f5 (5 : Int32) (14 : Int32))), (.int (14 : Int32)), (.ref b3)]))
  refine Outs.of (U' := T33.setTop (mkF m 25 #[.val (.ref o0), .val (.int (5 : Int32)), .val (.ref b3), .val (.int (14 : Int32))] [(.long ((F_f5 (5 : Int32) (14 : Int32)) + (1 : Int64))), (.int (14 : Int32)), (.ref b3)])) (fun t k => ?_) ?_
  · refine XS.lconst X33.here hx rfl (hb hby d3_23) ?_
    refine XS.ladd X33.here hx rfl (hb hby d3_24) rfl ?_
    exact k
  obtain ⟨T34, h34, X34, e34, W34, V34, st34⟩ := puJ X33 hx hZ e33 V32 (j := (14 : Int32)) (x := ((F_f5 (5 : Int32) (14 : Int32)) + (1 : Int64))) (k := 14) rfl (by decide) (f := (mkF m 25 #[.val (.ref o0), .val (.int (5 : Int32)), .val (.ref b3), .val (.int (14 : Int32))] [(.long ((F_f5 (5 : Int32) (14 : Int32)) + (1 : Int64))), (.int (14 : Int32)), (.ref b3)])) rfl rfl (hb hby d3_25)
  replace V34 : AJ Z h34 b3 .long 33 ct5_g25n := V34
  have N34 := Fr.snoc X34 N33 g_b3
  obtain ⟨Lh34, X34, N34⟩ := hide X34 N34 (C := 1) (S := 33) (by decide) (by decide)
  refine Outs.of st34 ?_
  show Outs p e below s _ _ _ (T34.setTop (mkF m 26 #[.val (.ref o0), .val (.int (5 : Int32)), .val (.ref b3), .val (.int (14 : Int32))] []))
  refine Outs.of (U' := T34.setTop (mkF m 33 #[.val (.ref o0), .val (.int (5 : Int32)), .val (.ref b3), .val (.int (15 : Int32))] [(.int (14 : Int32)), (.ref b3)])) (fun t k => ?_) ?_
  · refine XS.iinc X34.here hx rfl (hb hby d3_26) rfl (l' := #[.val (.ref o0), .val (.int (5 : Int32)), .val (.ref b3), .val (.int (15 : Int32))]) rfl ?_
    refine XS.aloadN X34.here hx rfl (hb hby d3_29) rfl rfl ?_
    refine XS.iloadN X34.here hx rfl (hb hby d3_30) rfl ?_
    refine XS.iconst X34.here hx rfl (hb hby d3_31) ?_
    refine XS.isub X34.here hx rfl (hb hby d3_32) rfl ?_
    exact k
  refine Outs.of (ldJ X34 hx hZ e34 V34 (j := (14 : Int32)) (k := 14) rfl (by decide) (f := (mkF m 33 #[.val (.ref o0), .val (.int (5 : Int32)), .val (.ref b3), .val (.int (15 : Int32))] [(.int (14 : Int32)), (.ref b3)])) rfl rfl (hb hby d3_33)) ?_
  show Outs p e below s _ _ _ (T34.setTop (mkF m 34 #[.val (.ref o0), .val (.int (5 : Int32)), .val (.ref b3), .val (.int (15 : Int32))] [(.long (ct5_g25n 14))]))
  refine Outs.of (U' := T34.setTop (mkF m 20 #[.val (.ref o0), .val (.int (5 : Int32)), .val (.ref b3), .val (.int (15 : Int32))] [(.int (15 : Int32)), (.int (5 : Int32)), (.int (15 : Int32)), (.ref b3)])) (fun t k => ?_) ?_
  · refine X34.ldc2Long hx hown (mvT hZ (hw _ (List.mem_of_getElem? (i := 27) rfl))) (g := (mkF m 34 #[.val (.ref o0), .val (.int (5 : Int32)), .val (.ref b3), .val (.int (15 : Int32))] [(.long (ct5_g25n 14))])) rfl (hb hby d3_34) _ ?_
    refine XS.lcmp X34.here hx rfl (hb hby d3_37) rfl ?_
    refine XS.ifYes X34.here hx rfl (pc0 := 38) (pc' := 16) rfl (hb hby d3_38) rfl ((if0 _ _).trans (flt (fun q_ => (show ¬ ((2147483647 : Int64) < (ct5_g25n 14)) from (by decide +kernel)) ((lw_gt _ _).mp q_))).2.2.2) (by decide) (by decide) ?_
    refine XS.aloadN X34.here hx rfl (hb hby d3_16) rfl rfl ?_
    refine XS.iloadN X34.here hx rfl (hb hby d3_17) rfl ?_
    refine XS.iloadN X34.here hx rfl (hb hby d3_18) rfl ?_
    refine XS.iloadN X34.here hx rfl (hb hby d3_19) rfl ?_
    exact k
  obtain ⟨_, _, ⟨T35, L35, k35, n35⟩, -, X35, ⟨Lc35, hQ35, l35, y35, z35⟩, st35⟩ := Jvm.LawKit.callS X34 hx (y := (⟨"com/example/bitmend/bitmend/CodeParameters", "columns", "(II)J"⟩ : MethodName)) hown (mvT hZ (hw _ (List.mem_of_getElem? (i := 23) rfl))) (mvT hZ (hw _ (List.mem_of_getElem? (i := 24) rfl))) (mvT hZ (hw _ (List.mem_of_getElem? (i := 25) rfl))) (mvT hZ (hw _ (List.mem_of_getElem? (i := 26) rfl))) (by decide) (backOf (W := 2) (rm5 l Z a0 hw [] (5 : Int32) (15 : Int32) h34 n0 (by decide)) hZ (hw _ (List.mem_of_getElem? (i := 26) rfl)) (hw _ (List.mem_of_getElem? (i := 25) rfl)) (by decide) (by decide)) (g := (mkF m 20 #[.val (.ref o0), .val (.int (5 : Int32)), .val (.ref b3), .val (.int (15 : Int32))] [(.int (15 : Int32)), (.int (5 : Int32)), (.int (15 : Int32)), (.ref b3)])) rfl (by rw [hml]; rfl) (argsL := [(.int (5 : Int32)), (.int (15 : Int32))]) (rest := [(.int (15 : Int32)), (.ref b3)]) (lenOf pd_0 rfl) rfl (by show 2 * 0 + _ ≤ _; exact Nat.le_of_eq rfl) (hb hby d3_20) (fun _ _ => ⟨rfl, e34, (by decide : 1 + 0 ≤ _), (by decide : 33 + 0 ≤ _)⟩)
  dsimp only [Pt.U, Pt.locs, Pt.cells, Pt.slots] at X35 l35 y35 z35 st35 hQ35
  subst l35 y35 z35
  obtain ⟨rfl, N35q, e35⟩ := hQ35
  have N35 := Fr.app N34 N35q
  obtain ⟨Lh35, X35, N35⟩ := hide X35 N35 (C := 1) (S := 33) (by decide) (by decide)
  refine Outs.of st35 ?_
  show Outs p e below s _ _ _ (T35.setTop (mkF m 23 #[.val (.ref o0), .val (.int (5 : Int32)), .val (.ref b3), .val (.int (15 : Int32))] [(.long (F_f5 (5 : Int32) (15 : Int32))), (.int (15 : Int32)), (.ref b3)]))
  refine Outs.of (U' := T35.setTop (mkF m 25 #[.val (.ref o0), .val (.int (5 : Int32)), .val (.ref b3), .val (.int (15 : Int32))] [(.long ((F_f5 (5 : Int32) (15 : Int32)) + (1 : Int64))), (.int (15 : Int32)), (.ref b3)])) (fun t k => ?_) ?_
  · refine XS.lconst X35.here hx rfl (hb hby d3_23) ?_
    refine XS.ladd X35.here hx rfl (hb hby d3_24) rfl ?_
    exact k
  obtain ⟨T36, h36, X36, e36, W36, V36, st36⟩ := puJ X35 hx hZ e35 V34 (j := (15 : Int32)) (x := ((F_f5 (5 : Int32) (15 : Int32)) + (1 : Int64))) (k := 15) rfl (by decide) (f := (mkF m 25 #[.val (.ref o0), .val (.int (5 : Int32)), .val (.ref b3), .val (.int (15 : Int32))] [(.long ((F_f5 (5 : Int32) (15 : Int32)) + (1 : Int64))), (.int (15 : Int32)), (.ref b3)])) rfl rfl (hb hby d3_25)
  replace V36 : AJ Z h36 b3 .long 33 ct5_g25o := V36
  have N36 := Fr.snoc X36 N35 g_b3
  obtain ⟨Lh36, X36, N36⟩ := hide X36 N36 (C := 1) (S := 33) (by decide) (by decide)
  refine Outs.of st36 ?_
  show Outs p e below s _ _ _ (T36.setTop (mkF m 26 #[.val (.ref o0), .val (.int (5 : Int32)), .val (.ref b3), .val (.int (15 : Int32))] []))
  refine Outs.of (U' := T36.setTop (mkF m 33 #[.val (.ref o0), .val (.int (5 : Int32)), .val (.ref b3), .val (.int (16 : Int32))] [(.int (15 : Int32)), (.ref b3)])) (fun t k => ?_) ?_
  · refine XS.iinc X36.here hx rfl (hb hby d3_26) rfl (l' := #[.val (.ref o0), .val (.int (5 : Int32)), .val (.ref b3), .val (.int (16 : Int32))]) rfl ?_
    refine XS.aloadN X36.here hx rfl (hb hby d3_29) rfl rfl ?_
    refine XS.iloadN X36.here hx rfl (hb hby d3_30) rfl ?_
    refine XS.iconst X36.here hx rfl (hb hby d3_31) ?_
    refine XS.isub X36.here hx rfl (hb hby d3_32) rfl ?_
    exact k
  refine Outs.of (ldJ X36 hx hZ e36 V36 (j := (15 : Int32)) (k := 15) rfl (by decide) (f := (mkF m 33 #[.val (.ref o0), .val (.int (5 : Int32)), .val (.ref b3), .val (.int (16 : Int32))] [(.int (15 : Int32)), (.ref b3)])) rfl rfl (hb hby d3_33)) ?_
  show Outs p e below s _ _ _ (T36.setTop (mkF m 34 #[.val (.ref o0), .val (.int (5 : Int32)), .val (.ref b3), .val (.int (16 : Int32))] [(.long (ct5_g25o 15))]))
  refine Outs.of (U' := T36.setTop (mkF m 44 #[.val (.ref o0), .val (.int (5 : Int32)), .val (.ref b3), .val (.int (16 : Int32))] [(.int (16 : Int32)), (.ref b3), (.ref o0)])) (fun t k => ?_) ?_
  · refine X36.ldc2Long hx hown (mvT hZ (hw _ (List.mem_of_getElem? (i := 27) rfl))) (g := (mkF m 34 #[.val (.ref o0), .val (.int (5 : Int32)), .val (.ref b3), .val (.int (16 : Int32))] [(.long (ct5_g25o 15))])) rfl (hb hby d3_34) _ ?_
    refine XS.lcmp X36.here hx rfl (hb hby d3_37) rfl ?_
    refine XS.ifNo X36.here hx rfl (hb hby d3_38) rfl ((if0 _ _).trans (tlt ((lw_gt _ _).mpr (show (2147483647 : Int64) < (ct5_g25o 15) from (by decide +kernel)))).2.2.2) ?_
    refine XS.aloadN X36.here hx rfl (hb hby d3_41) rfl rfl ?_
    refine XS.aloadN X36.here hx rfl (hb hby d3_42) rfl rfl ?_
    refine XS.iloadN X36.here hx rfl (hb hby d3_43) rfl ?_
    exact k
  have f37 : Exa Z h36 o0 "com/example/bitmend/bitmend/PositionalColumns" := (((((((((((((((((f4.ext E3).wr W6).wr W8).wr W10).wr W12).wr W14).wr W16).wr W18).wr W20).wr W22).wr W24).wr W26).wr W28).wr W30).wr W32).wr W34).wr W36)
  obtain ⟨_, _, ⟨T38, L38, k38, n38⟩, -, X38, ⟨Lc38, hQ38, l38, y38, z38⟩, st38⟩ := Jvm.LawKit.callS X36 hx (y := (⟨"java/util/Arrays", "copyOf", "([JI)[J"⟩ : MethodName)) hown (mvT hZ (hw _ (List.mem_of_getElem? (i := 28) rfl))) (mvT hZ (hw _ (List.mem_of_getElem? (i := 29) rfl))) (mvT hZ (hw _ (List.mem_of_getElem? (i := 30) rfl))) (mvT hZ (hw _ (List.mem_of_getElem? (i := 31) rfl))) (by decide) (backOf (W := 1) (rmcp5 l Z a0 hw [] b3 ct5_g25o h36 n0 (Nat.le_trans (Nat.le_trans (Nat.le_trans (Nat.le_trans (Nat.le_trans (Nat.le_trans (Nat.le_trans (Nat.le_trans (Nat.le_trans (Nat.le_trans (Nat.le_trans (Nat.le_trans (Nat.le_trans (Nat.le_trans (Nat.le_trans (Nat.le_trans (Nat.le_trans (Nat.le_trans Z0 (Keep.of_wr W2).1) E3.1) (Keep.of_wr W6).1) (Keep.of_wr W8).1) (Keep.of_wr W10).1) (Keep.of_wr W12).1) (Keep.of_wr W14).1) (Keep.of_wr W16).1) (Keep.of_wr W18).1) (Keep.of_wr W20).1) (Keep.of_wr W22).1) (Keep.of_wr W24).1) (Keep.of_wr W26).1) (Keep.of_wr W28).1) (Keep.of_wr W30).1) (Keep.of_wr W32).1) (Keep.of_wr W34).1) (Keep.of_wr W36).1) V36) hZ (hw _ (List.mem_of_getElem? (i := 31) rfl)) (hw _ (List.mem_of_getElem? (i := 30) rfl)) (by decide) (by decide)) (g := (mkF m 44 #[.val (.ref o0), .val (.int (5 : Int32)), .val (.ref b3), .val (.int (16 : Int32))] [(.int (16 : Int32)), (.ref b3), (.ref o0)])) rfl (by rw [hml]; rfl) (argsL := [(.ref b3), (.int (16 : Int32))]) (rest := [(.ref o0)]) (lenOf pd_4 rfl) rfl (by show 2 * 0 + _ ≤ _; exact Nat.le_of_eq rfl) (hb hby d3_44) (fun _ _ => ⟨rfl, e36, (by decide : 1 + 1 ≤ _), (by decide : 33 + 16 ≤ _)⟩)
  dsimp only [Pt.U, Pt.locs, Pt.cells, Pt.slots] at X38 l38 y38 z38 st38 hQ38
  subst l38 y38 z38
  obtain ⟨b38, g_b38, hs38, rfl, N38q, K38, u38_0⟩ := hQ38
  have N38 := Fr.app N36 N38q
  have sz_b38 : h0.size ≤ b38 := Nat.le_trans (((((((((((((((((((Keep.refl h0 [o0]).wr W2 (Or.inl (List.mem_of_getElem? (i := 0) rfl))).ext E3).wr W6 (Or.inr sz_b3)).wr W8 (Or.inr sz_b3)).wr W10 (Or.inr sz_b3)).wr W12 (Or.inr sz_b3)).wr W14 (Or.inr sz_b3)).wr W16 (Or.inr sz_b3)).wr W18 (Or.inr sz_b3)).wr W20 (Or.inr sz_b3)).wr W22 (Or.inr sz_b3)).wr W24 (Or.inr sz_b3)).wr W26 (Or.inr sz_b3)).wr W28 (Or.inr sz_b3)).wr W30 (Or.inr sz_b3)).wr W32 (Or.inr sz_b3)).wr W34 (Or.inr sz_b3)).wr W36 (Or.inr sz_b3)).1 hs38
  have ne_o0_b38 : o0 ≠ b38 := Nat.ne_of_lt (Nat.lt_of_lt_of_le f37.lt hs38)
  have ne_b3_b38 : b3 ≠ b38 := Nat.ne_of_lt (Nat.lt_of_lt_of_le V36.lt hs38)
  obtain ⟨Lh38, X38, N38⟩ := hide X38 N38 (C := 2) (S := 49) (by decide) (by decide)
  refine Outs.of st38 ?_
  show Outs p e below s _ _ _ (T38.setTop (mkF m 47 #[.val (.ref o0), .val (.int (5 : Int32)), .val (.ref b3), .val (.int (16 : Int32))] [(.ref b38), (.ref o0)]))
  have f40 : Exa Z T38.heap o0 "com/example/bitmend/bitmend/PositionalColumns" := (f37.keep K38)
  have f41 : Fld Z T38.heap o0 "com/example/bitmend/bitmend/PositionalColumns" "checkPositions" "[J" .null := (((((((((((((((((((F_o0_checkPositions.other W2 (Or.inr (slot_ne (Or.inr (hw _ (List.mem_of_getElem? (i := 40) rfl))) (Or.inr (hw _ (List.mem_of_getElem? (i := 21) rfl))) (by decide) (t := (.array .long)) (t' := .int) (by decide) (by decide)))).ext E3).other W6 (Or.inl ne_o0_b3)).other W8 (Or.inl ne_o0_b3)).other W10 (Or.inl ne_o0_b3)).other W12 (Or.inl ne_o0_b3)).other W14 (Or.inl ne_o0_b3)).other W16 (Or.inl ne_o0_b3)).other W18 (Or.inl ne_o0_b3)).other W20 (Or.inl ne_o0_b3)).other W22 (Or.inl ne_o0_b3)).other W24 (Or.inl ne_o0_b3)).other W26 (Or.inl ne_o0_b3)).other W28 (Or.inl ne_o0_b3)).other W30 (Or.inl ne_o0_b3)).other W32 (Or.inl ne_o0_b3)).other W34 (Or.inl ne_o0_b3)).other W36 (Or.inl ne_o0_b3)).keep K38 nin0)
  obtain ⟨T39, h39, X39, e39, W39, st39⟩ := putF X38 hx hZ hown (host := "") (Or.inl (hw _ (List.mem_of_getElem? (i := 39) rfl))) Via.refl rfl f41 f40 (Or.inr ⟨(hw _ (List.mem_of_getElem? (i := 40) rfl)), rfl, hnm⟩) (hw _ (List.mem_of_getElem? (i := 12) rfl)) (ty := (.array .long)) (by decide) rfl rfl (g := (mkF m 47 #[.val (.ref o0), .val (.int (5 : Int32)), .val (.ref b3), .val (.int (16 : Int32))] [(.ref b38), (.ref o0)])) rfl rfl (hb hby d3_47)
  have F39 : Fld Z h39 o0 "com/example/bitmend/bitmend/PositionalColumns" "checkPositions" "[J" (.ref b38) := f41.same W39
  have N39 := Fr.snoc X39 N38 g_o0
  obtain ⟨Lh39, X39, N39⟩ := hide X39 N39 (C := 2) (S := 49) (by decide) (by decide)
  refine Outs.of st39 ?_
  show Outs p e below s _ _ _ (T39.setTop (mkF m 50 #[.val (.ref o0), .val (.int (5 : Int32)), .val (.ref b3), .val (.int (16 : Int32))] []))
  have f42 : Exa Z h39 o0 "com/example/bitmend/bitmend/PositionalColumns" := (f40.wr W39)
  have f43 : Fld Z h39 o0 "com/example/bitmend/bitmend/PositionalColumns" "fieldSize" "I" (.int (5 : Int32)) := (((((((((((((((((((F2.ext E3).other W6 (Or.inl ne_o0_b3)).other W8 (Or.inl ne_o0_b3)).other W10 (Or.inl ne_o0_b3)).other W12 (Or.inl ne_o0_b3)).other W14 (Or.inl ne_o0_b3)).other W16 (Or.inl ne_o0_b3)).other W18 (Or.inl ne_o0_b3)).other W20 (Or.inl ne_o0_b3)).other W22 (Or.inl ne_o0_b3)).other W24 (Or.inl ne_o0_b3)).other W26 (Or.inl ne_o0_b3)).other W28 (Or.inl ne_o0_b3)).other W30 (Or.inl ne_o0_b3)).other W32 (Or.inl ne_o0_b3)).other W34 (Or.inl ne_o0_b3)).other W36 (Or.inl ne_o0_b3)).keep K38 nin0).other W39 (Or.inr (slot_ne (Or.inr (hw _ (List.mem_of_getElem? (i := 21) rfl))) (Or.inr (hw _ (List.mem_of_getElem? (i := 40) rfl))) (by decide) (t := .int) (t' := (.array .long)) (by decide) (by decide))))
  exact Outs.retV X39 hx hret (hb hby d3_50) hlk (by decide) (by decide) e39 ⟨rfl, N39, (((((((((((((((((((((Keep.refl h0 [o0]).wr W2 (Or.inl (List.mem_of_getElem? (i := 0) rfl))).ext E3).wr W6 (Or.inr sz_b3)).wr W8 (Or.inr sz_b3)).wr W10 (Or.inr sz_b3)).wr W12 (Or.inr sz_b3)).wr W14 (Or.inr sz_b3)).wr W16 (Or.inr sz_b3)).wr W18 (Or.inr sz_b3)).wr W20 (Or.inr sz_b3)).wr W22 (Or.inr sz_b3)).wr W24 (Or.inr sz_b3)).wr W26 (Or.inr sz_b3)).wr W28 (Or.inr sz_b3)).wr W30 (Or.inr sz_b3)).wr W32 (Or.inr sz_b3)).wr W34 (Or.inr sz_b3)).wr W36 (Or.inr sz_b3)).trans K38 all0).wr W39 (Or.inl (List.mem_of_getElem? (i := 0) rfl))), f42, f43⟩
def cp7_g28 (g : Nat → Int64) : Nat → Int64 := (fun j_ => if j_ < 13 then g j_ else (fun _ => (0 : Int64)) j_)
def Q_cp7 (Z : State) (o0 : Addr) (g : Nat → Int64) (h0 : Heap) (n0 : Nat) (v : Option Value) (h : Heap) (L : List Loc) : Prop := ∃ b1 : Addr, n0 ≤ b1 ∧ h0.size ≤ b1 ∧ v = some (.ref b1) ∧ Fr n0 L ∧ Keep h0 h [] ∧ AJ Z h b1 .long 13 (cp7_g28 g)
set_option maxRecDepth 65536 in
set_option maxHeartbeats 40000000 in
theorem rmcp7 (l : Launch) (Z : State) (a0 : Array Value) (hw : ∀ d ∈ tables_1, d.before a0 Z = true) (ws : List Jvm.Cond) (o0 : Addr) (g : Nat → Int64) (h0 : Heap) (n0 : Nat) (Z0 : n0 ≤ h0.size) (A_o0 : AJ Z h0 o0 .long 33 g) :
    MetFree l (⟨"java/util/Arrays", "copyOf", "([JI)[J"⟩ : MethodName) (head1 (Jvm.Cond.code (⟨"java/util/Arrays", "copyOf", "([JI)[J"⟩ : MethodName) jdk_65_method_124_code 3 (some (.array .long)) :: ws) ({ frames := 1, cells := 1, slots := 13, locals := 18 } : Room)) (fun a U => a = #[(.ref o0), (.int (13 : Int32))] ∧ Z.Warmed39 U.vm ∧ U.heap = h0) (fun _ _ _ _ _ => True) (fun _ U o U' => ∃ v L, o = .returned v ∧ Q_cp7 Z o0 g h0 n0 v U'.heap L ∧ FrameEnd U o U' L ({ frames := 1, cells := 1, slots := 13, locals := 18 } : Room).cells ({ frames := 1, cells := 1, slots := 13, locals := 18 } : Room).slots) := by
  refine MetFree.of_bodySF (plainFor_of_name pn_6) hisR ?_
  intro p e s m args below meth c s₁ Bd hml0 hP hK
  obtain ⟨rfl, hZ, hh⟩ := hP
  have hx := Bd.exec
  have hby := Bd.bytes
  have hml : c.maxLocals = 3 := hml0
  have hown : s.vm.findClass "java/util/Arrays" = some m.cls := findClass_of_methodNamed Bd.named
  have hnm := (name_of_methodNamed Bd.named Bd.method).1
  have hret := Bd.returns
  have hlk : meth.locks = false := BodyLoose.notSynchronized Bd
  have X0 : Stand p l e ({ frames := 1, cells := 1, slots := 13, locals := 18 } : Room) s m #[(.ref o0), (.int (13 : Int32))] below meth c s₁ [] 0 0 := Stand.of_body Bd
  have e0 : s₁.heap = h0 := by rw [← hh, Bd.state]; rfl
  have N0 := Fr.nil n0
  show Outs p e below s (Q_cp7 Z o0 g h0 n0) _ _ _
  refine Outs.of (U' := s₁.setTop (mkF m 0 #[.val (.ref o0), .val (.int (13 : Int32)), .unset] [])) (fun t k => castTop (ef_6 m o0 (13 : Int32)) k) ?_
  refine Outs.of (U' := s₁.setTop (mkF m 2 #[.val (.ref o0), .val (.int (13 : Int32)), .unset] [(.ref o0), (.int (13 : Int32))])) (fun t k => ?_) ?_
  · refine XS.iloadN X0.here hx rfl (hb hby d6_0) rfl ?_
    refine XS.aloadN X0.here hx rfl (hb hby d6_1) rfl rfl ?_
    exact k
  refine Outs.of (alen X0 hx hZ e0 A_o0 (z := (33 : Int32)) rfl (f := (mkF m 2 #[.val (.ref o0), .val (.int (13 : Int32)), .unset] [(.ref o0), (.int (13 : Int32))])) rfl rfl (hb hby d6_2)) ?_
  show Outs p e below s _ _ _ (s₁.setTop (mkF m 3 #[.val (.ref o0), .val (.int (13 : Int32)), .unset] [(.int (33 : Int32)), (.int (13 : Int32))]))
  refine Outs.of (U' := s₁.setTop (mkF m 15 #[.val (.ref o0), .val (.int (13 : Int32)), .unset] [(.int (13 : Int32))])) (fun t k => ?_) ?_
  · refine XS.icmpYes X0.here hx rfl (pc0 := 3) (pc' := 14) rfl (hb hby d6_3) rfl (feq (show ¬ ((13 : Int32) = (33 : Int32)) from (by decide))).2 (by decide) (by decide) ?_
    refine XS.iloadN X0.here hx rfl (hb hby d6_14) rfl ?_
    exact k
  obtain ⟨T1, h1, X1, e1, E1, A1, st1⟩ := newAF X0 hx hZ (aty := .long) (hw _ (List.mem_of_getElem? (i := 22) rfl)) e0 (f := (mkF m 15 #[.val (.ref o0), .val (.int (13 : Int32)), .unset] [(.int (13 : Int32))])) rfl (hb hby d6_15) rfl (k := 13) rfl (cap := 13) (by decide) (by decide) (by decide) (by decide)
  obtain ⟨b1, g1⟩ : ∃ z, z = h0.size := ⟨_, rfl⟩
  rw [← g1] at A1 st1
  have g_b1 : n0 ≤ b1 := Nat.le_trans Z0 (Nat.le_of_eq g1.symm)
  have sz_b1 : h0.size ≤ b1 := Nat.le_trans (Keep.refl h0 []).1 (Nat.le_of_eq g1.symm)
  have ne_o0_b1 : o0 ≠ b1 := Nat.ne_of_lt (Nat.lt_of_lt_of_eq A_o0.lt g1.symm)
  have V1 : AJ Z h1 b1 .long 13 (fun _ => (0 : Int64)) := A1
  refine Outs.of st1 ?_
  show Outs p e below s _ _ _ (T1.setTop (mkF m 17 #[.val (.ref o0), .val (.int (13 : Int32)), .unset] [(.ref b1)]))
  refine Outs.of (U' := T1.setTop (mkF m 23 #[.val (.ref o0), .val (.int (13 : Int32)), .val (.ref b1)] [(.ref o0), (.int (0 : Int32)), (.ref b1), (.int (0 : Int32)), (.ref o0)])) (fun t k => ?_) ?_
  · refine XS.astoreN X1.here hx rfl (hb hby d6_17) rfl rfl (l' := #[.val (.ref o0), .val (.int (13 : Int32)), .val (.ref b1)]) rfl ?_
    refine XS.aloadN X1.here hx rfl (hb hby d6_18) rfl rfl ?_
    refine XS.iconst X1.here hx rfl (hb hby d6_19) ?_
    refine XS.aloadN X1.here hx rfl (hb hby d6_20) rfl rfl ?_
    refine XS.iconst X1.here hx rfl (hb hby d6_21) ?_
    refine XS.aloadN X1.here hx rfl (hb hby d6_22) rfl rfl ?_
    exact k
  have f2 : AJ Z h1 o0 .long 33 g := (A_o0.ext E1)
  refine Outs.of (alen X1 hx hZ e1 f2 (z := (33 : Int32)) rfl (f := (mkF m 23 #[.val (.ref o0), .val (.int (13 : Int32)), .val (.ref b1)] [(.ref o0), (.int (0 : Int32)), (.ref b1), (.int (0 : Int32)), (.ref o0)])) rfl rfl (hb hby d6_23)) ?_
  show Outs p e below s _ _ _ (T1.setTop (mkF m 24 #[.val (.ref o0), .val (.int (13 : Int32)), .val (.ref b1)] [(.int (33 : Int32)), (.int (0 : Int32)), (.ref b1), (.int (0 : Int32)), (.ref o0)]))
  refine Outs.of (U' := T1.setTop (mkF m 25 #[.val (.ref o0), .val (.int (13 : Int32)), .val (.ref b1)] [(.int (13 : Int32)), (.int (33 : Int32)), (.int (0 : Int32)), (.ref b1), (.int (0 : Int32)), (.ref o0)])) (fun t k => ?_) ?_
  · refine XS.iloadN X1.here hx rfl (hb hby d6_24) rfl ?_
    exact k
  obtain ⟨_, _, ⟨T3, L3, k3, n3⟩, -, X3, ⟨Lc3, hQ3, l3, y3, z3⟩, st3⟩ := Jvm.LawKit.callS X1 hx (y := (⟨"java/lang/Math", "min", "(II)I"⟩ : MethodName)) hown (mvT hZ (hw _ (List.mem_of_getElem? (i := 32) rfl))) (mvT hZ (hw _ (List.mem_of_getElem? (i := 33) rfl))) (mvT hZ (hw _ (List.mem_of_getElem? (i := 8) rfl))) (mvT hZ (hw _ (List.mem_of_getElem? (i := 34) rfl))) (by decide) (backOf (W := 4) (rm7 l Z a0 hw [] (33 : Int32) (13 : Int32) h1 n0 ) hZ (hw _ (List.mem_of_getElem? (i := 34) rfl)) (hw _ (List.mem_of_getElem? (i := 8) rfl)) (by decide) (by decide)) (g := (mkF m 25 #[.val (.ref o0), .val (.int (13 : Int32)), .val (.ref b1)] [(.int (13 : Int32)), (.int (33 : Int32)), (.int (0 : Int32)), (.ref b1), (.int (0 : Int32)), (.ref o0)])) rfl (by rw [hml]; rfl) (argsL := [(.int (33 : Int32)), (.int (13 : Int32))]) (rest := [(.int (0 : Int32)), (.ref b1), (.int (0 : Int32)), (.ref o0)]) (lenOf pd_5 rfl) rfl (by show 2 * 0 + _ ≤ _; exact Nat.le_of_eq rfl) (hb hby d6_25) (fun _ _ => ⟨rfl, e1, (by decide : 1 + 0 ≤ _), (by decide : 13 + 0 ≤ _)⟩)
  dsimp only [Pt.U, Pt.locs, Pt.cells, Pt.slots] at X3 l3 y3 z3 st3 hQ3
  subst l3 y3 z3
  obtain ⟨rfl, N3q, e3⟩ := hQ3
  have N3 := Fr.app N0 N3q
  obtain ⟨Lh3, X3, N3⟩ := hide X3 N3 (C := 1) (S := 13) (by decide) (by decide)
  refine Outs.of st3 ?_
  show Outs p e below s _ _ _ (T3.setTop (mkF m 28 #[.val (.ref o0), .val (.int (13 : Int32)), .val (.ref b1)] [(.int (13 : Int32)), (.int (0 : Int32)), (.ref b1), (.int (0 : Int32)), (.ref o0)]))
  obtain ⟨T4, h4, Lc4, X4, e4, N4, K4, V4, st4⟩ := cpJ X3 hx hZ hown (hw _ (List.mem_of_getElem? (i := 35) rfl)) (hw _ (List.mem_of_getElem? (i := 38) rfl)) (hw _ (List.mem_of_getElem? (i := 36) rfl)) (hw _ (List.mem_of_getElem? (i := 37) rfl)) e3 f2 V1 (nn := (13 : Int32)) (k := 13) rfl (by decide) (by decide) N3 g_b1 (f := (mkF m 28 #[.val (.ref o0), .val (.int (13 : Int32)), .val (.ref b1)] [(.int (13 : Int32)), (.int (0 : Int32)), (.ref b1), (.int (0 : Int32)), (.ref o0)])) rfl (by rw [hml]; rfl) rfl (hb hby d6_28) (by decide) (W := 0) (by show 2 * 0 + _ ≤ _; exact Nat.le_of_eq rfl) (by decide)
  replace V4 : AJ Z h4 b1 .long 13 (cp7_g28 g) := V4
  obtain ⟨Lh4, X4, N4⟩ := hide X4 N4 (C := 1) (S := 13) (by decide) (by decide)
  refine Outs.of st4 ?_
  show Outs p e below s _ _ _ (T4.setTop (mkF m 31 #[.val (.ref o0), .val (.int (13 : Int32)), .val (.ref b1)] []))
  refine Outs.of (U' := T4.setTop (mkF m 32 #[.val (.ref o0), .val (.int (13 : Int32)), .val (.ref b1)] [(.ref b1)])) (fun t k => ?_) ?_
  · refine XS.aloadN X4.here hx rfl (hb hby d6_31) rfl rfl ?_
    exact k
  exact Outs.retA (w := (.ref b1)) X4 hx hret rfl rfl rfl (hb hby d6_32) hlk (by decide) (by decide) e4 ⟨b1, g_b1, sz_b1, rfl, N4, (((Keep.refl h0 []).ext E1).trans K4 (allS (Or.inr sz_b1) all0)), V4⟩
def ct7_g25  : Nat → Int64 := (upv (fun _ => (0 : Int64)) 0 ((F_f5 (7 : Int32) (0 : Int32)) + (1 : Int64)))
def ct7_g25a  : Nat → Int64 := (upv ct7_g25 1 ((F_f5 (7 : Int32) (1 : Int32)) + (1 : Int64)))
def ct7_g25b  : Nat → Int64 := (upv ct7_g25a 2 ((F_f5 (7 : Int32) (2 : Int32)) + (1 : Int64)))
def ct7_g25c  : Nat → Int64 := (upv ct7_g25b 3 ((F_f5 (7 : Int32) (3 : Int32)) + (1 : Int64)))
def ct7_g25d  : Nat → Int64 := (upv ct7_g25c 4 ((F_f5 (7 : Int32) (4 : Int32)) + (1 : Int64)))
def ct7_g25e  : Nat → Int64 := (upv ct7_g25d 5 ((F_f5 (7 : Int32) (5 : Int32)) + (1 : Int64)))
def ct7_g25f  : Nat → Int64 := (upv ct7_g25e 6 ((F_f5 (7 : Int32) (6 : Int32)) + (1 : Int64)))
def ct7_g25g  : Nat → Int64 := (upv ct7_g25f 7 ((F_f5 (7 : Int32) (7 : Int32)) + (1 : Int64)))
def ct7_g25h  : Nat → Int64 := (upv ct7_g25g 8 ((F_f5 (7 : Int32) (8 : Int32)) + (1 : Int64)))
def ct7_g25i  : Nat → Int64 := (upv ct7_g25h 9 ((F_f5 (7 : Int32) (9 : Int32)) + (1 : Int64)))
def ct7_g25j  : Nat → Int64 := (upv ct7_g25i 10 ((F_f5 (7 : Int32) (10 : Int32)) + (1 : Int64)))
def ct7_g25k  : Nat → Int64 := (upv ct7_g25j 11 ((F_f5 (7 : Int32) (11 : Int32)) + (1 : Int64)))
def ct7_g25l  : Nat → Int64 := (upv ct7_g25k 12 ((F_f5 (7 : Int32) (12 : Int32)) + (1 : Int64)))
def Q_ct7 (Z : State) (o0 : Addr) (h0 : Heap) (n0 : Nat) (v : Option Value) (h : Heap) (L : List Loc) : Prop := v = none ∧ Fr n0 L ∧ Keep h0 h [o0] ∧ Exa Z h o0 "com/example/bitmend/bitmend/PositionalColumns" ∧ Fld Z h o0 "com/example/bitmend/bitmend/PositionalColumns" "fieldSize" "I" (.int (7 : Int32))
set_option maxRecDepth 65536 in
set_option maxHeartbeats 40000000 in
theorem rmct7 (l : Launch) (Z : State) (a0 : Array Value) (hw : ∀ d ∈ tables_1, d.before a0 Z = true) (ws : List Jvm.Cond) (o0 : Addr)  (h0 : Heap) (n0 : Nat) (Z0 : n0 ≤ h0.size) (E_o0 : Exa Z h0 o0 "com/example/bitmend/bitmend/PositionalColumns") (g_o0 : n0 ≤ o0) (F_o0_fieldSize : Fld Z h0 o0 "com/example/bitmend/bitmend/PositionalColumns" "fieldSize" "I" (.int (0 : Int32))) (F_o0_checkPositions : Fld Z h0 o0 "com/example/bitmend/bitmend/PositionalColumns" "checkPositions" "[J" .null) :
    MetFree l (⟨"com/example/bitmend/bitmend/PositionalColumns", "<init>", "(I)V"⟩ : MethodName) (head1 (Jvm.Cond.code (⟨"com/example/bitmend/bitmend/PositionalColumns", "<init>", "(I)V"⟩ : MethodName) prog_34_method_1_code 4 none :: ws) ({ frames := 2, cells := 2, slots := 46, locals := 33 } : Room)) (fun a U => a = #[(.ref o0), (.int (7 : Int32))] ∧ Z.Warmed39 U.vm ∧ U.heap = h0) (fun _ _ _ _ _ => True) (fun _ U o U' => ∃ v L, o = .returned v ∧ Q_ct7 Z o0 h0 n0 v U'.heap L ∧ FrameEnd U o U' L ({ frames := 2, cells := 2, slots := 46, locals := 33 } : Room).cells ({ frames := 2, cells := 2, slots := 46, locals := 33 } : Room).slots) := by
  refine MetFree.of_bodySF (plainFor_of_name pn_3) hisR ?_
  intro p e s m args below meth c s₁ Bd hml0 hP hK
  obtain ⟨rfl, hZ, hh⟩ := hP
  have hx := Bd.exec
  have hby := Bd.bytes
  have hml : c.maxLocals = 4 := hml0
  have hown : s.vm.findClass "com/example/bitmend/bitmend/PositionalColumns" = some m.cls := findClass_of_methodNamed Bd.named
  have hnm := (name_of_methodNamed Bd.named Bd.method).1
  have hret := Bd.returns
  have hlk : meth.locks = false := BodyLoose.notSynchronized Bd
  have X0 : Stand p l e ({ frames := 2, cells := 2, slots := 46, locals := 33 } : Room) s m #[(.ref o0), (.int (7 : Int32))] below meth c s₁ [] 0 0 := Stand.of_body Bd
  have e0 : s₁.heap = h0 := by rw [← hh, Bd.state]; rfl
  have N0 := Fr.nil n0
  show Outs p e below s (Q_ct7 Z o0 h0 n0) _ _ _
  refine Outs.of (U' := s₁.setTop (mkF m 0 #[.val (.ref o0), .val (.int (7 : Int32)), .unset, .unset] [])) (fun t k => castTop (ef_3 m o0 (7 : Int32)) k) ?_
  refine Outs.of (U' := s₁.setTop (mkF m 1 #[.val (.ref o0), .val (.int (7 : Int32)), .unset, .unset] [(.ref o0)])) (fun t k => ?_) ?_
  · refine XS.aloadN X0.here hx rfl (hb hby d3_0) rfl rfl ?_
    exact k
  obtain ⟨T1, X1, e1, st1⟩ := initO X0 hx hZ hown (hw _ (List.mem_of_getElem? (i := 17) rfl)) (hw _ (List.mem_of_getElem? (i := 18) rfl)) (hw _ (List.mem_of_getElem? (i := 19) rfl)) e0 (g := (mkF m 1 #[.val (.ref o0), .val (.int (7 : Int32)), .unset, .unset] [(.ref o0)])) rfl (by rw [hml]; rfl) rfl (hb hby d3_1) (by decide) (W := 0) (by show 2 * 0 + _ ≤ _; exact Nat.le_of_eq rfl) (by decide)
  refine Outs.of st1 ?_
  show Outs p e below s _ _ _ (T1.setTop (mkF m 4 #[.val (.ref o0), .val (.int (7 : Int32)), .unset, .unset] []))
  refine Outs.of (U' := T1.setTop (mkF m 6 #[.val (.ref o0), .val (.int (7 : Int32)), .unset, .unset] [(.int (7 : Int32)), (.ref o0)])) (fun t k => ?_) ?_
  · refine XS.aloadN X1.here hx rfl (hb hby d3_4) rfl rfl ?_
    refine XS.iloadN X1.here hx rfl (hb hby d3_5) rfl ?_
    exact k
  obtain ⟨T2, h2, X2, e2, W2, st2⟩ := putF X1 hx hZ hown (host := "") (Or.inl (hw _ (List.mem_of_getElem? (i := 20) rfl))) Via.refl e1 F_o0_fieldSize E_o0 (Or.inr ⟨(hw _ (List.mem_of_getElem? (i := 21) rfl)), rfl, hnm⟩) (hw _ (List.mem_of_getElem? (i := 12) rfl)) (ty := .int) (by decide) rfl rfl (g := (mkF m 6 #[.val (.ref o0), .val (.int (7 : Int32)), .unset, .unset] [(.int (7 : Int32)), (.ref o0)])) rfl rfl (hb hby d3_6)
  have F2 : Fld Z h2 o0 "com/example/bitmend/bitmend/PositionalColumns" "fieldSize" "I" (.int (7 : Int32)) := F_o0_fieldSize.same W2
  have N2 := Fr.snoc X2 N0 g_o0
  obtain ⟨Lh2, X2, N2⟩ := hide X2 N2 (C := 0) (S := 0) (by decide) (by decide)
  refine Outs.of st2 ?_
  show Outs p e below s _ _ _ (T2.setTop (mkF m 9 #[.val (.ref o0), .val (.int (7 : Int32)), .unset, .unset] []))
  refine Outs.of (U' := T2.setTop (mkF m 11 #[.val (.ref o0), .val (.int (7 : Int32)), .unset, .unset] [(.int (33 : Int32))])) (fun t k => ?_) ?_
  · refine XS.bipush X2.here hx rfl (hb hby d3_9) ?_
    exact k
  have f4 : Exa Z h2 o0 "com/example/bitmend/bitmend/PositionalColumns" := (E_o0.wr W2)
  obtain ⟨T3, h3, X3, e3, E3, A3, st3⟩ := newAF X2 hx hZ (aty := .long) (hw _ (List.mem_of_getElem? (i := 22) rfl)) e2 (f := (mkF m 11 #[.val (.ref o0), .val (.int (7 : Int32)), .unset, .unset] [(.int (33 : Int32))])) rfl (hb hby d3_11) rfl (k := 33) rfl (cap := 33) (by decide) (by decide) (by decide) (by decide)
  obtain ⟨b3, g3⟩ : ∃ z, z = h2.size := ⟨_, rfl⟩
  rw [← g3] at A3 st3
  have g_b3 : n0 ≤ b3 := Nat.le_trans (Nat.le_trans Z0 (Keep.of_wr W2).1) (Nat.le_of_eq g3.symm)
  have sz_b3 : h0.size ≤ b3 := Nat.le_trans ((Keep.refl h0 [o0]).wr W2 (Or.inl (List.mem_of_getElem? (i := 0) rfl))).1 (Nat.le_of_eq g3.symm)
  have ne_o0_b3 : o0 ≠ b3 := Nat.ne_of_lt (Nat.lt_of_lt_of_eq f4.lt g3.symm)
  have V3 : AJ Z h3 b3 .long 33 (fun _ => (0 : Int64)) := A3
  refine Outs.of st3 ?_
  show Outs p e below s _ _ _ (T3.setTop (mkF m 13 #[.val (.ref o0), .val (.int (7 : Int32)), .unset, .unset] [(.ref b3)]))
  refine Outs.of (U' := T3.setTop (mkF m 20 #[.val (.ref o0), .val (.int (7 : Int32)), .val (.ref b3), .val (.int (0 : Int32))] [(.int (0 : Int32)), (.int (7 : Int32)), (.int (0 : Int32)), (.ref b3)])) (fun t k => ?_) ?_
  · refine XS.astoreN X3.here hx rfl (hb hby d3_13) rfl rfl (l' := #[.val (.ref o0), .val (.int (7 : Int32)), .val (.ref b3), .unset]) rfl ?_
    refine XS.iconst X3.here hx rfl (hb hby d3_14) ?_
    refine XS.istoreN X3.here hx rfl (hb hby d3_15) rfl (l' := #[.val (.ref o0), .val (.int (7 : Int32)), .val (.ref b3), .val (.int (0 : Int32))]) rfl ?_
    refine XS.aloadN X3.here hx rfl (hb hby d3_16) rfl rfl ?_
    refine XS.iloadN X3.here hx rfl (hb hby d3_17) rfl ?_
    refine XS.iloadN X3.here hx rfl (hb hby d3_18) rfl ?_
    refine XS.iloadN X3.here hx rfl (hb hby d3_19) rfl ?_
    exact k
  obtain ⟨_, _, ⟨T5, L5, k5, n5⟩, -, X5, ⟨Lc5, hQ5, l5, y5, z5⟩, st5⟩ := Jvm.LawKit.callS X3 hx (y := (⟨"com/example/bitmend/bitmend/CodeParameters", "columns", "(II)J"⟩ : MethodName)) hown (mvT hZ (hw _ (List.mem_of_getElem? (i := 23) rfl))) (mvT hZ (hw _ (List.mem_of_getElem? (i := 24) rfl))) (mvT hZ (hw _ (List.mem_of_getElem? (i := 25) rfl))) (mvT hZ (hw _ (List.mem_of_getElem? (i := 26) rfl))) (by decide) (backOf (W := 2) (rm5 l Z a0 hw [] (7 : Int32) (0 : Int32) h3 n0 (by decide)) hZ (hw _ (List.mem_of_getElem? (i := 26) rfl)) (hw _ (List.mem_of_getElem? (i := 25) rfl)) (by decide) (by decide)) (g := (mkF m 20 #[.val (.ref o0), .val (.int (7 : Int32)), .val (.ref b3), .val (.int (0 : Int32))] [(.int (0 : Int32)), (.int (7 : Int32)), (.int (0 : Int32)), (.ref b3)])) rfl (by rw [hml]; rfl) (argsL := [(.int (7 : Int32)), (.int (0 : Int32))]) (rest := [(.int (0 : Int32)), (.ref b3)]) (lenOf pd_0 rfl) rfl (by show 2 * 0 + _ ≤ _; exact Nat.le_of_eq rfl) (hb hby d3_20) (fun _ _ => ⟨rfl, e3, (by decide : 1 + 0 ≤ _), (by decide : 33 + 0 ≤ _)⟩)
  dsimp only [Pt.U, Pt.locs, Pt.cells, Pt.slots] at X5 l5 y5 z5 st5 hQ5
  subst l5 y5 z5
  obtain ⟨rfl, N5q, e5⟩ := hQ5
  have N5 := Fr.app N2 N5q
  obtain ⟨Lh5, X5, N5⟩ := hide X5 N5 (C := 1) (S := 33) (by decide) (by decide)
  refine Outs.of st5 ?_
  show Outs p e below s _ _ _ (T5.setTop (mkF m 23 #[.val (.ref o0), .val (.int (7 : Int32)), .val (.ref b3), .val (.int (0 : Int32))] [(.long (F_f5 (7 : Int32) (0 : Int32))), (.int (0 : Int32)), (.ref b3)]))
  refine Outs.of (U' := T5.setTop (mkF m 25 #[.val (.ref o0), .val (.int (7 : Int32)), .val (.ref b3), .val (.int (0 : Int32))] [(.long ((F_f5 (7 : Int32) (0 : Int32)) + (1 : Int64))), (.int (0 : Int32)), (.ref b3)])) (fun t k => ?_) ?_
  · refine XS.lconst X5.here hx rfl (hb hby d3_23) ?_
    refine XS.ladd X5.here hx rfl (hb hby d3_24) rfl ?_
    exact k
  obtain ⟨T6, h6, X6, e6, W6, V6, st6⟩ := puJ X5 hx hZ e5 V3 (j := (0 : Int32)) (x := ((F_f5 (7 : Int32) (0 : Int32)) + (1 : Int64))) (k := 0) rfl (by decide) (f := (mkF m 25 #[.val (.ref o0), .val (.int (7 : Int32)), .val (.ref b3), .val (.int (0 : Int32))] [(.long ((F_f5 (7 : Int32) (0 : Int32)) + (1 : Int64))), (.int (0 : Int32)), (.ref b3)])) rfl rfl (hb hby d3_25)
  replace V6 : AJ Z h6 b3 .long 33 ct7_g25 := V6
  have N6 := Fr.snoc X6 N5 g_b3
  obtain ⟨Lh6, X6, N6⟩ := hide X6 N6 (C := 1) (S := 33) (by decide) (by decide)
  refine Outs.of st6 ?_
  show Outs p e below s _ _ _ (T6.setTop (mkF m 26 #[.val (.ref o0), .val (.int (7 : Int32)), .val (.ref b3), .val (.int (0 : Int32))] []))
  refine Outs.of (U' := T6.setTop (mkF m 33 #[.val (.ref o0), .val (.int (7 : Int32)), .val (.ref b3), .val (.int (1 : Int32))] [(.int (0 : Int32)), (.ref b3)])) (fun t k => ?_) ?_
  · refine XS.iinc X6.here hx rfl (hb hby d3_26) rfl (l' := #[.val (.ref o0), .val (.int (7 : Int32)), .val (.ref b3), .val (.int (1 : Int32))]) rfl ?_
    refine XS.aloadN X6.here hx rfl (hb hby d3_29) rfl rfl ?_
    refine XS.iloadN X6.here hx rfl (hb hby d3_30) rfl ?_
    refine XS.iconst X6.here hx rfl (hb hby d3_31) ?_
    refine XS.isub X6.here hx rfl (hb hby d3_32) rfl ?_
    exact k
  refine Outs.of (ldJ X6 hx hZ e6 V6 (j := (0 : Int32)) (k := 0) rfl (by decide) (f := (mkF m 33 #[.val (.ref o0), .val (.int (7 : Int32)), .val (.ref b3), .val (.int (1 : Int32))] [(.int (0 : Int32)), (.ref b3)])) rfl rfl (hb hby d3_33)) ?_
  show Outs p e below s _ _ _ (T6.setTop (mkF m 34 #[.val (.ref o0), .val (.int (7 : Int32)), .val (.ref b3), .val (.int (1 : Int32))] [(.long (ct7_g25 0))]))
  refine Outs.of (U' := T6.setTop (mkF m 20 #[.val (.ref o0), .val (.int (7 : Int32)), .val (.ref b3), .val (.int (1 : Int32))] [(.int (1 : Int32)), (.int (7 : Int32)), (.int (1 : Int32)), (.ref b3)])) (fun t k => ?_) ?_
  · refine X6.ldc2Long hx hown (mvT hZ (hw _ (List.mem_of_getElem? (i := 27) rfl))) (g := (mkF m 34 #[.val (.ref o0), .val (.int (7 : Int32)), .val (.ref b3), .val (.int (1 : Int32))] [(.long (ct7_g25 0))])) rfl (hb hby d3_34) _ ?_
    refine XS.lcmp X6.here hx rfl (hb hby d3_37) rfl ?_
    refine XS.ifYes X6.here hx rfl (pc0 := 38) (pc' := 16) rfl (hb hby d3_38) rfl ((if0 _ _).trans (flt (fun q_ => (show ¬ ((2147483647 : Int64) < (ct7_g25 0)) from (by decide +kernel)) ((lw_gt _ _).mp q_))).2.2.2) (by decide) (by decide) ?_
    refine XS.aloadN X6.here hx rfl (hb hby d3_16) rfl rfl ?_
    refine XS.iloadN X6.here hx rfl (hb hby d3_17) rfl ?_
    refine XS.iloadN X6.here hx rfl (hb hby d3_18) rfl ?_
    refine XS.iloadN X6.here hx rfl (hb hby d3_19) rfl ?_
    exact k
  obtain ⟨_, _, ⟨T7, L7, k7, n7⟩, -, X7, ⟨Lc7, hQ7, l7, y7, z7⟩, st7⟩ := Jvm.LawKit.callS X6 hx (y := (⟨"com/example/bitmend/bitmend/CodeParameters", "columns", "(II)J"⟩ : MethodName)) hown (mvT hZ (hw _ (List.mem_of_getElem? (i := 23) rfl))) (mvT hZ (hw _ (List.mem_of_getElem? (i := 24) rfl))) (mvT hZ (hw _ (List.mem_of_getElem? (i := 25) rfl))) (mvT hZ (hw _ (List.mem_of_getElem? (i := 26) rfl))) (by decide) (backOf (W := 2) (rm5 l Z a0 hw [] (7 : Int32) (1 : Int32) h6 n0 (by decide)) hZ (hw _ (List.mem_of_getElem? (i := 26) rfl)) (hw _ (List.mem_of_getElem? (i := 25) rfl)) (by decide) (by decide)) (g := (mkF m 20 #[.val (.ref o0), .val (.int (7 : Int32)), .val (.ref b3), .val (.int (1 : Int32))] [(.int (1 : Int32)), (.int (7 : Int32)), (.int (1 : Int32)), (.ref b3)])) rfl (by rw [hml]; rfl) (argsL := [(.int (7 : Int32)), (.int (1 : Int32))]) (rest := [(.int (1 : Int32)), (.ref b3)]) (lenOf pd_0 rfl) rfl (by show 2 * 0 + _ ≤ _; exact Nat.le_of_eq rfl) (hb hby d3_20) (fun _ _ => ⟨rfl, e6, (by decide : 1 + 0 ≤ _), (by decide : 33 + 0 ≤ _)⟩)
  dsimp only [Pt.U, Pt.locs, Pt.cells, Pt.slots] at X7 l7 y7 z7 st7 hQ7
  subst l7 y7 z7
  obtain ⟨rfl, N7q, e7⟩ := hQ7
  have N7 := Fr.app N6 N7q
  obtain ⟨Lh7, X7, N7⟩ := hide X7 N7 (C := 1) (S := 33) (by decide) (by decide)
  refine Outs.of st7 ?_
  show Outs p e below s _ _ _ (T7.setTop (mkF m 23 #[.val (.ref o0), .val (.int (7 : Int32)), .val (.ref b3), .val (.int (1 : Int32))] [(.long (F_f5 (7 : Int32) (1 : Int32))), (.int (1 : Int32)), (.ref b3)]))
  refine Outs.of (U' := T7.setTop (mkF m 25 #[.val (.ref o0), .val (.int (7 : Int32)), .val (.ref b3), .val (.int (1 : Int32))] [(.long ((F_f5 (7 : Int32) (1 : Int32)) + (1 : Int64))), (.int (1 : Int32)), (.ref b3)])) (fun t k => ?_) ?_
  · refine XS.lconst X7.here hx rfl (hb hby d3_23) ?_
    refine XS.ladd X7.here hx rfl (hb hby d3_24) rfl ?_
    exact k
  obtain ⟨T8, h8, X8, e8, W8, V8, st8⟩ := puJ X7 hx hZ e7 V6 (j := (1 : Int32)) (x := ((F_f5 (7 : Int32) (1 : Int32)) + (1 : Int64))) (k := 1) rfl (by decide) (f := (mkF m 25 #[.val (.ref o0), .val (.int (7 : Int32)), .val (.ref b3), .val (.int (1 : Int32))] [(.long ((F_f5 (7 : Int32) (1 : Int32)) + (1 : Int64))), (.int (1 : Int32)), (.ref b3)])) rfl rfl (hb hby d3_25)
  replace V8 : AJ Z h8 b3 .long 33 ct7_g25a := V8
  have N8 := Fr.snoc X8 N7 g_b3
  obtain ⟨Lh8, X8, N8⟩ := hide X8 N8 (C := 1) (S := 33) (by decide) (by decide)
  refine Outs.of st8 ?_
  show Outs p e below s _ _ _ (T8.setTop (mkF m 26 #[.val (.ref o0), .val (.int (7 : Int32)), .val (.ref b3), .val (.int (1 : Int32))] []))
  refine Outs.of (U' := T8.setTop (mkF m 33 #[.val (.ref o0), .val (.int (7 : Int32)), .val (.ref b3), .val (.int (2 : Int32))] [(.int (1 : Int32)), (.ref b3)])) (fun t k => ?_) ?_
  · refine XS.iinc X8.here hx rfl (hb hby d3_26) rfl (l' := #[.val (.ref o0), .val (.int (7 : Int32)), .val (.ref b3), .val (.int (2 : Int32))]) rfl ?_
    refine XS.aloadN X8.here hx rfl (hb hby d3_29) rfl rfl ?_
    refine XS.iloadN X8.here hx rfl (hb hby d3_30) rfl ?_
    refine XS.iconst X8.here hx rfl (hb hby d3_31) ?_
    refine XS.isub X8.here hx rfl (hb hby d3_32) rfl ?_
    exact k
  refine Outs.of (ldJ X8 hx hZ e8 V8 (j := (1 : Int32)) (k := 1) rfl (by decide) (f := (mkF m 33 #[.val (.ref o0), .val (.int (7 : Int32)), .val (.ref b3), .val (.int (2 : Int32))] [(.int (1 : Int32)), (.ref b3)])) rfl rfl (hb hby d3_33)) ?_
  show Outs p e below s _ _ _ (T8.setTop (mkF m 34 #[.val (.ref o0), .val (.int (7 : Int32)), .val (.ref b3), .val (.int (2 : Int32))] [(.long (ct7_g25a 1))]))
  refine Outs.of (U' := T8.setTop (mkF m 20 #[.val (.ref o0), .val (.int (7 : Int32)), .val (.ref b3), .val (.int (2 : Int32))] [(.int (2 : Int32)), (.int (7 : Int32)), (.int (2 : Int32)), (.ref b3)])) (fun t k => ?_) ?_
  · refine X8.ldc2Long hx hown (mvT hZ (hw _ (List.mem_of_getElem? (i := 27) rfl))) (g := (mkF m 34 #[.val (.ref o0), .val (.int (7 : Int32)), .val (.ref b3), .val (.int (2 : Int32))] [(.long (ct7_g25a 1))])) rfl (hb hby d3_34) _ ?_
    refine XS.lcmp X8.here hx rfl (hb hby d3_37) rfl ?_
    refine XS.ifYes X8.here hx rfl (pc0 := 38) (pc' := 16) rfl (hb hby d3_38) rfl ((if0 _ _).trans (flt (fun q_ => (show ¬ ((2147483647 : Int64) < (ct7_g25a 1)) from (by decide +kernel)) ((lw_gt _ _).mp q_))).2.2.2) (by decide) (by decide) ?_
    refine XS.aloadN X8.here hx rfl (hb hby d3_16) rfl rfl ?_
    refine XS.iloadN X8.here hx rfl (hb hby d3_17) rfl ?_
    refine XS.iloadN X8.here hx rfl (hb hby d3_18) rfl ?_
    refine XS.iloadN X8.here hx rfl (hb hby d3_19) rfl ?_
    exact k
  obtain ⟨_, _, ⟨T9, L9, k9, n9⟩, -, X9, ⟨Lc9, hQ9, l9, y9, z9⟩, st9⟩ := Jvm.LawKit.callS X8 hx (y := (⟨"com/example/bitmend/bitmend/CodeParameters", "columns", "(II)J"⟩ : MethodName)) hown (mvT hZ (hw _ (List.mem_of_getElem? (i := 23) rfl))) (mvT hZ (hw _ (List.mem_of_getElem? (i := 24) rfl))) (mvT hZ (hw _ (List.mem_of_getElem? (i := 25) rfl))) (mvT hZ (hw _ (List.mem_of_getElem? (i := 26) rfl))) (by decide) (backOf (W := 2) (rm5 l Z a0 hw [] (7 : Int32) (2 : Int32) h8 n0 (by decide)) hZ (hw _ (List.mem_of_getElem? (i := 26) rfl)) (hw _ (List.mem_of_getElem? (i := 25) rfl)) (by decide) (by decide)) (g := (mkF m 20 #[.val (.ref o0), .val (.int (7 : Int32)), .val (.ref b3), .val (.int (2 : Int32))] [(.int (2 : Int32)), (.int (7 : Int32)), (.int (2 : Int32)), (.ref b3)])) rfl (by rw [hml]; rfl) (argsL := [(.int (7 : Int32)), (.int (2 : Int32))]) (rest := [(.int (2 : Int32)), (.ref b3)]) (lenOf pd_0 rfl) rfl (by show 2 * 0 + _ ≤ _; exact Nat.le_of_eq rfl) (hb hby d3_20) (fun _ _ => ⟨rfl, e8, (by decide : 1 + 0 ≤ _), (by decide : 33 + 0 ≤ _)⟩)
  dsimp only [Pt.U, Pt.locs, Pt.cells, Pt.slots] at X9 l9 y9 z9 st9 hQ9
  subst l9 y9 z9
  obtain ⟨rfl, N9q, e9⟩ := hQ9
  have N9 := Fr.app N8 N9q
  obtain ⟨Lh9, X9, N9⟩ := hide X9 N9 (C := 1) (S := 33) (by decide) (by decide)
  refine Outs.of st9 ?_
  show Outs p e below s _ _ _ (T9.setTop (mkF m 23 #[.val (.ref o0), .val (.int (7 : Int32)), .val (.ref b3), .val (.int (2 : Int32))] [(.long (F_f5 (7 : Int32) (2 : Int32))), (.int (2 : Int32)), (.ref b3)]))
  refine Outs.of (U' := T9.setTop (mkF m 25 #[.val (.ref o0), .val (.int (7 : Int32)), .val (.ref b3), .val (.int (2 : Int32))] [(.long ((F_f5 (7 : Int32) (2 : Int32)) + (1 : Int64))), (.int (2 : Int32)), (.ref b3)])) (fun t k => ?_) ?_
  · refine XS.lconst X9.here hx rfl (hb hby d3_23) ?_
    refine XS.ladd X9.here hx rfl (hb hby d3_24) rfl ?_
    exact k
  obtain ⟨T10, h10, X10, e10, W10, V10, st10⟩ := puJ X9 hx hZ e9 V8 (j := (2 : Int32)) (x := ((F_f5 (7 : Int32) (2 : Int32)) + (1 : Int64))) (k := 2) rfl (by decide) (f := (mkF m 25 #[.val (.ref o0), .val (.int (7 : Int32)), .val (.ref b3), .val (.int (2 : Int32))] [(.long ((F_f5 (7 : Int32) (2 : Int32)) + (1 : Int64))), (.int (2 : Int32)), (.ref b3)])) rfl rfl (hb hby d3_25)
  replace V10 : AJ Z h10 b3 .long 33 ct7_g25b := V10
  have N10 := Fr.snoc X10 N9 g_b3
  obtain ⟨Lh10, X10, N10⟩ := hide X10 N10 (C := 1) (S := 33) (by decide) (by decide)
  refine Outs.of st10 ?_
  show Outs p e below s _ _ _ (T10.setTop (mkF m 26 #[.val (.ref o0), .val (.int (7 : Int32)), .val (.ref b3), .val (.int (2 : Int32))] []))
  refine Outs.of (U' := T10.setTop (mkF m 33 #[.val (.ref o0), .val (.int (7 : Int32)), .val (.ref b3), .val (.int (3 : Int32))] [(.int (2 : Int32)), (.ref b3)])) (fun t k => ?_) ?_
  · refine XS.iinc X10.here hx rfl (hb hby d3_26) rfl (l' := #[.val (.ref o0), .val (.int (7 : Int32)), .val (.ref b3), .val (.int (3 : Int32))]) rfl ?_
    refine XS.aloadN X10.here hx rfl (hb hby d3_29) rfl rfl ?_
    refine XS.iloadN X10.here hx rfl (hb hby d3_30) rfl ?_
    refine XS.iconst X10.here hx rfl (hb hby d3_31) ?_
    refine XS.isub X10.here hx rfl (hb hby d3_32) rfl ?_
    exact k
  refine Outs.of (ldJ X10 hx hZ e10 V10 (j := (2 : Int32)) (k := 2) rfl (by decide) (f := (mkF m 33 #[.val (.ref o0), .val (.int (7 : Int32)), .val (.ref b3), .val (.int (3 : Int32))] [(.int (2 : Int32)), (.ref b3)])) rfl rfl (hb hby d3_33)) ?_
  show Outs p e below s _ _ _ (T10.setTop (mkF m 34 #[.val (.ref o0), .val (.int (7 : Int32)), .val (.ref b3), .val (.int (3 : Int32))] [(.long (ct7_g25b 2))]))
  refine Outs.of (U' := T10.setTop (mkF m 20 #[.val (.ref o0), .val (.int (7 : Int32)), .val (.ref b3), .val (.int (3 : Int32))] [(.int (3 : Int32)), (.int (7 : Int32)), (.int (3 : Int32)), (.ref b3)])) (fun t k => ?_) ?_
  · refine X10.ldc2Long hx hown (mvT hZ (hw _ (List.mem_of_getElem? (i := 27) rfl))) (g := (mkF m 34 #[.val (.ref o0), .val (.int (7 : Int32)), .val (.ref b3), .val (.int (3 : Int32))] [(.long (ct7_g25b 2))])) rfl (hb hby d3_34) _ ?_
    refine XS.lcmp X10.here hx rfl (hb hby d3_37) rfl ?_
    refine XS.ifYes X10.here hx rfl (pc0 := 38) (pc' := 16) rfl (hb hby d3_38) rfl ((if0 _ _).trans (flt (fun q_ => (show ¬ ((2147483647 : Int64) < (ct7_g25b 2)) from (by decide +kernel)) ((lw_gt _ _).mp q_))).2.2.2) (by decide) (by decide) ?_
    refine XS.aloadN X10.here hx rfl (hb hby d3_16) rfl rfl ?_
    refine XS.iloadN X10.here hx rfl (hb hby d3_17) rfl ?_
    refine XS.iloadN X10.here hx rfl (hb hby d3_18) rfl ?_
    refine XS.iloadN X10.here hx rfl (hb hby d3_19) rfl ?_
    exact k
  obtain ⟨_, _, ⟨T11, L11, k11, n11⟩, -, X11, ⟨Lc11, hQ11, l11, y11, z11⟩, st11⟩ := Jvm.LawKit.callS X10 hx (y := (⟨"com/example/bitmend/bitmend/CodeParameters", "columns", "(II)J"⟩ : MethodName)) hown (mvT hZ (hw _ (List.mem_of_getElem? (i := 23) rfl))) (mvT hZ (hw _ (List.mem_of_getElem? (i := 24) rfl))) (mvT hZ (hw _ (List.mem_of_getElem? (i := 25) rfl))) (mvT hZ (hw _ (List.mem_of_getElem? (i := 26) rfl))) (by decide) (backOf (W := 2) (rm5 l Z a0 hw [] (7 : Int32) (3 : Int32) h10 n0 (by decide)) hZ (hw _ (List.mem_of_getElem? (i := 26) rfl)) (hw _ (List.mem_of_getElem? (i := 25) rfl)) (by decide) (by decide)) (g := (mkF m 20 #[.val (.ref o0), .val (.int (7 : Int32)), .val (.ref b3), .val (.int (3 : Int32))] [(.int (3 : Int32)), (.int (7 : Int32)), (.int (3 : Int32)), (.ref b3)])) rfl (by rw [hml]; rfl) (argsL := [(.int (7 : Int32)), (.int (3 : Int32))]) (rest := [(.int (3 : Int32)), (.ref b3)]) (lenOf pd_0 rfl) rfl (by show 2 * 0 + _ ≤ _; exact Nat.le_of_eq rfl) (hb hby d3_20) (fun _ _ => ⟨rfl, e10, (by decide : 1 + 0 ≤ _), (by decide : 33 + 0 ≤ _)⟩)
  dsimp only [Pt.U, Pt.locs, Pt.cells, Pt.slots] at X11 l11 y11 z11 st11 hQ11
  subst l11 y11 z11
  obtain ⟨rfl, N11q, e11⟩ := hQ11
  have N11 := Fr.app N10 N11q
  obtain ⟨Lh11, X11, N11⟩ := hide X11 N11 (C := 1) (S := 33) (by decide) (by decide)
  refine Outs.of st11 ?_
  show Outs p e below s _ _ _ (T11.setTop (mkF m 23 #[.val (.ref o0), .val (.int (7 : Int32)), .val (.ref b3), .val (.int (3 : Int32))] [(.long (F_f5 (7 : Int32) (3 : Int32))), (.int (3 : Int32)), (.ref b3)]))
  refine Outs.of (U' := T11.setTop (mkF m 25 #[.val (.ref o0), .val (.int (7 : Int32)), .val (.ref b3), .val (.int (3 : Int32))] [(.long ((F_f5 (7 : Int32) (3 : Int32)) + (1 : Int64))), (.int (3 : Int32)), (.ref b3)])) (fun t k => ?_) ?_
  · refine XS.lconst X11.here hx rfl (hb hby d3_23) ?_
    refine XS.ladd X11.here hx rfl (hb hby d3_24) rfl ?_
    exact k
  obtain ⟨T12, h12, X12, e12, W12, V12, st12⟩ := puJ X11 hx hZ e11 V10 (j := (3 : Int32)) (x := ((F_f5 (7 : Int32) (3 : Int32)) + (1 : Int64))) (k := 3) rfl (by decide) (f := (mkF m 25 #[.val (.ref o0), .val (.int (7 : Int32)), .val (.ref b3), .val (.int (3 : Int32))] [(.long ((F_f5 (7 : Int32) (3 : Int32)) + (1 : Int64))), (.int (3 : Int32)), (.ref b3)])) rfl rfl (hb hby d3_25)
  replace V12 : AJ Z h12 b3 .long 33 ct7_g25c := V12
  have N12 := Fr.snoc X12 N11 g_b3
  obtain ⟨Lh12, X12, N12⟩ := hide X12 N12 (C := 1) (S := 33) (by decide) (by decide)
  refine Outs.of st12 ?_
  show Outs p e below s _ _ _ (T12.setTop (mkF m 26 #[.val (.ref o0), .val (.int (7 : Int32)), .val (.ref b3), .val (.int (3 : Int32))] []))
  refine Outs.of (U' := T12.setTop (mkF m 33 #[.val (.ref o0), .val (.int (7 : Int32)), .val (.ref b3), .val (.int (4 : Int32))] [(.int (3 : Int32)), (.ref b3)])) (fun t k => ?_) ?_
  · refine XS.iinc X12.here hx rfl (hb hby d3_26) rfl (l' := #[.val (.ref o0), .val (.int (7 : Int32)), .val (.ref b3), .val (.int (4 : Int32))]) rfl ?_
    refine XS.aloadN X12.here hx rfl (hb hby d3_29) rfl rfl ?_
    refine XS.iloadN X12.here hx rfl (hb hby d3_30) rfl ?_
    refine XS.iconst X12.here hx rfl (hb hby d3_31) ?_
    refine XS.isub X12.here hx rfl (hb hby d3_32) rfl ?_
    exact k
  refine Outs.of (ldJ X12 hx hZ e12 V12 (j := (3 : Int32)) (k := 3) rfl (by decide) (f := (mkF m 33 #[.val (.ref o0), .val (.int (7 : Int32)), .val (.ref b3), .val (.int (4 : Int32))] [(.int (3 : Int32)), (.ref b3)])) rfl rfl (hb hby d3_33)) ?_
  show Outs p e below s _ _ _ (T12.setTop (mkF m 34 #[.val (.ref o0), .val (.int (7 : Int32)), .val (.ref b3), .val (.int (4 : Int32))] [(.long (ct7_g25c 3))]))
  refine Outs.of (U' := T12.setTop (mkF m 20 #[.val (.ref o0), .val (.int (7 : Int32)), .val (.ref b3), .val (.int (4 : Int32))] [(.int (4 : Int32)), (.int (7 : Int32)), (.int (4 : Int32)), (.ref b3)])) (fun t k => ?_) ?_
  · refine X12.ldc2Long hx hown (mvT hZ (hw _ (List.mem_of_getElem? (i := 27) rfl))) (g := (mkF m 34 #[.val (.ref o0), .val (.int (7 : Int32)), .val (.ref b3), .val (.int (4 : Int32))] [(.long (ct7_g25c 3))])) rfl (hb hby d3_34) _ ?_
    refine XS.lcmp X12.here hx rfl (hb hby d3_37) rfl ?_
    refine XS.ifYes X12.here hx rfl (pc0 := 38) (pc' := 16) rfl (hb hby d3_38) rfl ((if0 _ _).trans (flt (fun q_ => (show ¬ ((2147483647 : Int64) < (ct7_g25c 3)) from (by decide +kernel)) ((lw_gt _ _).mp q_))).2.2.2) (by decide) (by decide) ?_
    refine XS.aloadN X12.here hx rfl (hb hby d3_16) rfl rfl ?_
    refine XS.iloadN X12.here hx rfl (hb hby d3_17) rfl ?_
    refine XS.iloadN X12.here hx rfl (hb hby d3_18) rfl ?_
    refine XS.iloadN X12.here hx rfl (hb hby d3_19) rfl ?_
    exact k
  obtain ⟨_, _, ⟨T13, L13, k13, n13⟩, -, X13, ⟨Lc13, hQ13, l13, y13, z13⟩, st13⟩ := Jvm.LawKit.callS X12 hx (y := (⟨"com/example/bitmend/bitmend/CodeParameters", "columns", "(II)J"⟩ : MethodName)) hown (mvT hZ (hw _ (List.mem_of_getElem? (i := 23) rfl))) (mvT hZ (hw _ (List.mem_of_getElem? (i := 24) rfl))) (mvT hZ (hw _ (List.mem_of_getElem? (i := 25) rfl))) (mvT hZ (hw _ (List.mem_of_getElem? (i := 26) rfl))) (by decide) (backOf (W := 2) (rm5 l Z a0 hw [] (7 : Int32) (4 : Int32) h12 n0 (by decide)) hZ (hw _ (List.mem_of_getElem? (i := 26) rfl)) (hw _ (List.mem_of_getElem? (i := 25) rfl)) (by decide) (by decide)) (g := (mkF m 20 #[.val (.ref o0), .val (.int (7 : Int32)), .val (.ref b3), .val (.int (4 : Int32))] [(.int (4 : Int32)), (.int (7 : Int32)), (.int (4 : Int32)), (.ref b3)])) rfl (by rw [hml]; rfl) (argsL := [(.int (7 : Int32)), (.int (4 : Int32))]) (rest := [(.int (4 : Int32)), (.ref b3)]) (lenOf pd_0 rfl) rfl (by show 2 * 0 + _ ≤ _; exact Nat.le_of_eq rfl) (hb hby d3_20) (fun _ _ => ⟨rfl, e12, (by decide : 1 + 0 ≤ _), (by decide : 33 + 0 ≤ _)⟩)
  dsimp only [Pt.U, Pt.locs, Pt.cells, Pt.slots] at X13 l13 y13 z13 st13 hQ13
  subst l13 y13 z13
  obtain ⟨rfl, N13q, e13⟩ := hQ13
  have N13 := Fr.app N12 N13q
  obtain ⟨Lh13, X13, N13⟩ := hide X13 N13 (C := 1) (S := 33) (by decide) (by decide)
  refine Outs.of st13 ?_
  show Outs p e below s _ _ _ (T13.setTop (mkF m 23 #[.val (.ref o0), .val (.int (7 : Int32)), .val (.ref b3), .val (.int (4 : Int32))] [(.long (F_f5 (7 : Int32) (4 : Int32))), (.int (4 : Int32)), (.ref b3)]))
  refine Outs.of (U' := T13.setTop (mkF m 25 #[.val (.ref o0), .val (.int (7 : Int32)), .val (.ref b3), .val (.int (4 : Int32))] [(.long ((F_f5 (7 : Int32) (4 : Int32)) + (1 : Int64))), (.int (4 : Int32)), (.ref b3)])) (fun t k => ?_) ?_
  · refine XS.lconst X13.here hx rfl (hb hby d3_23) ?_
    refine XS.ladd X13.here hx rfl (hb hby d3_24) rfl ?_
    exact k
  obtain ⟨T14, h14, X14, e14, W14, V14, st14⟩ := puJ X13 hx hZ e13 V12 (j := (4 : Int32)) (x := ((F_f5 (7 : Int32) (4 : Int32)) + (1 : Int64))) (k := 4) rfl (by decide) (f := (mkF m 25 #[.val (.ref o0), .val (.int (7 : Int32)), .val (.ref b3), .val (.int (4 : Int32))] [(.long ((F_f5 (7 : Int32) (4 : Int32)) + (1 : Int64))), (.int (4 : Int32)), (.ref b3)])) rfl rfl (hb hby d3_25)
  replace V14 : AJ Z h14 b3 .long 33 ct7_g25d := V14
  have N14 := Fr.snoc X14 N13 g_b3
  obtain ⟨Lh14, X14, N14⟩ := hide X14 N14 (C := 1) (S := 33) (by decide) (by decide)
  refine Outs.of st14 ?_
  show Outs p e below s _ _ _ (T14.setTop (mkF m 26 #[.val (.ref o0), .val (.int (7 : Int32)), .val (.ref b3), .val (.int (4 : Int32))] []))
  refine Outs.of (U' := T14.setTop (mkF m 33 #[.val (.ref o0), .val (.int (7 : Int32)), .val (.ref b3), .val (.int (5 : Int32))] [(.int (4 : Int32)), (.ref b3)])) (fun t k => ?_) ?_
  · refine XS.iinc X14.here hx rfl (hb hby d3_26) rfl (l' := #[.val (.ref o0), .val (.int (7 : Int32)), .val (.ref b3), .val (.int (5 : Int32))]) rfl ?_
    refine XS.aloadN X14.here hx rfl (hb hby d3_29) rfl rfl ?_
    refine XS.iloadN X14.here hx rfl (hb hby d3_30) rfl ?_
    refine XS.iconst X14.here hx rfl (hb hby d3_31) ?_
    refine XS.isub X14.here hx rfl (hb hby d3_32) rfl ?_
    exact k
  refine Outs.of (ldJ X14 hx hZ e14 V14 (j := (4 : Int32)) (k := 4) rfl (by decide) (f := (mkF m 33 #[.val (.ref o0), .val (.int (7 : Int32)), .val (.ref b3), .val (.int (5 : Int32))] [(.int (4 : Int32)), (.ref b3)])) rfl rfl (hb hby d3_33)) ?_
  show Outs p e below s _ _ _ (T14.setTop (mkF m 34 #[.val (.ref o0), .val (.int (7 : Int32)), .val (.ref b3), .val (.int (5 : Int32))] [(.long (ct7_g25d 4))]))
  refine Outs.of (U' := T14.setTop (mkF m 20 #[.val (.ref o0), .val (.int (7 : Int32)), .val (.ref b3), .val (.int (5 : Int32))] [(.int (5 : Int32)), (.int (7 : Int32)), (.int (5 : Int32)), (.ref b3)])) (fun t k => ?_) ?_
  · refine X14.ldc2Long hx hown (mvT hZ (hw _ (List.mem_of_getElem? (i := 27) rfl))) (g := (mkF m 34 #[.val (.ref o0), .val (.int (7 : Int32)), .val (.ref b3), .val (.int (5 : Int32))] [(.long (ct7_g25d 4))])) rfl (hb hby d3_34) _ ?_
    refine XS.lcmp X14.here hx rfl (hb hby d3_37) rfl ?_
    refine XS.ifYes X14.here hx rfl (pc0 := 38) (pc' := 16) rfl (hb hby d3_38) rfl ((if0 _ _).trans (flt (fun q_ => (show ¬ ((2147483647 : Int64) < (ct7_g25d 4)) from (by decide +kernel)) ((lw_gt _ _).mp q_))).2.2.2) (by decide) (by decide) ?_
    refine XS.aloadN X14.here hx rfl (hb hby d3_16) rfl rfl ?_
    refine XS.iloadN X14.here hx rfl (hb hby d3_17) rfl ?_
    refine XS.iloadN X14.here hx rfl (hb hby d3_18) rfl ?_
    refine XS.iloadN X14.here hx rfl (hb hby d3_19) rfl ?_
    exact k
  obtain ⟨_, _, ⟨T15, L15, k15, n15⟩, -, X15, ⟨Lc15, hQ15, l15, y15, z15⟩, st15⟩ := Jvm.LawKit.callS X14 hx (y := (⟨"com/example/bitmend/bitmend/CodeParameters", "columns", "(II)J"⟩ : MethodName)) hown (mvT hZ (hw _ (List.mem_of_getElem? (i := 23) rfl))) (mvT hZ (hw _ (List.mem_of_getElem? (i := 24) rfl))) (mvT hZ (hw _ (List.mem_of_getElem? (i := 25) rfl))) (mvT hZ (hw _ (List.mem_of_getElem? (i := 26) rfl))) (by decide) (backOf (W := 2) (rm5 l Z a0 hw [] (7 : Int32) (5 : Int32) h14 n0 (by decide)) hZ (hw _ (List.mem_of_getElem? (i := 26) rfl)) (hw _ (List.mem_of_getElem? (i := 25) rfl)) (by decide) (by decide)) (g := (mkF m 20 #[.val (.ref o0), .val (.int (7 : Int32)), .val (.ref b3), .val (.int (5 : Int32))] [(.int (5 : Int32)), (.int (7 : Int32)), (.int (5 : Int32)), (.ref b3)])) rfl (by rw [hml]; rfl) (argsL := [(.int (7 : Int32)), (.int (5 : Int32))]) (rest := [(.int (5 : Int32)), (.ref b3)]) (lenOf pd_0 rfl) rfl (by show 2 * 0 + _ ≤ _; exact Nat.le_of_eq rfl) (hb hby d3_20) (fun _ _ => ⟨rfl, e14, (by decide : 1 + 0 ≤ _), (by decide : 33 + 0 ≤ _)⟩)
  dsimp only [Pt.U, Pt.locs, Pt.cells, Pt.slots] at X15 l15 y15 z15 st15 hQ15
  subst l15 y15 z15
  obtain ⟨rfl, N15q, e15⟩ := hQ15
  have N15 := Fr.app N14 N15q
  obtain ⟨Lh15, X15, N15⟩ := hide X15 N15 (C := 1) (S := 33) (by decide) (by decide)
  refine Outs.of st15 ?_
  show Outs p e below s _ _ _ (T15.setTop (mkF m 23 #[.val (.ref o0), .val (.int (7 : Int32)), .val (.ref b3), .val (.int (5 : Int32))] [(.long (F_f5 (7 : Int32) (5 : Int32))), (.int (5 : Int32)), (.ref b3)]))
  refine Outs.of (U' := T15.setTop (mkF m 25 #[.val (.ref o0), .val (.int (7 : Int32)), .val (.ref b3), .val (.int (5 : Int32))] [(.long ((F_f5 (7 : Int32) (5 : Int32)) + (1 : Int64))), (.int (5 : Int32)), (.ref b3)])) (fun t k => ?_) ?_
  · refine XS.lconst X15.here hx rfl (hb hby d3_23) ?_
    refine XS.ladd X15.here hx rfl (hb hby d3_24) rfl ?_
    exact k
  obtain ⟨T16, h16, X16, e16, W16, V16, st16⟩ := puJ X15 hx hZ e15 V14 (j := (5 : Int32)) (x := ((F_f5 (7 : Int32) (5 : Int32)) + (1 : Int64))) (k := 5) rfl (by decide) (f := (mkF m 25 #[.val (.ref o0), .val (.int (7 : Int32)), .val (.ref b3), .val (.int (5 : Int32))] [(.long ((F_f5 (7 : Int32) (5 : Int32)) + (1 : Int64))), (.int (5 : Int32)), (.ref b3)])) rfl rfl (hb hby d3_25)
  replace V16 : AJ Z h16 b3 .long 33 ct7_g25e := V16
  have N16 := Fr.snoc X16 N15 g_b3
  obtain ⟨Lh16, X16, N16⟩ := hide X16 N16 (C := 1) (S := 33) (by decide) (by decide)
  refine Outs.of st16 ?_
  show Outs p e below s _ _ _ (T16.setTop (mkF m 26 #[.val (.ref o0), .val (.int (7 : Int32)), .val (.ref b3), .val (.int (5 : Int32))] []))
  refine Outs.of (U' := T16.setTop (mkF m 33 #[.val (.ref o0), .val (.int (7 : Int32)), .val (.ref b3), .val (.int (6 : Int32))] [(.int (5 : Int32)), (.ref b3)])) (fun t k => ?_) ?_
  · refine XS.iinc X16.here hx rfl (hb hby d3_26) rfl (l' := #[.val (.ref o0), .val (.int (7 : Int32)), .val (.ref b3), .val (.int (6 : Int32))]) rfl ?_
    refine XS.aloadN X16.here hx rfl (hb hby d3_29) rfl rfl ?_
    refine XS.iloadN X16.here hx rfl (hb hby d3_30) rfl ?_
    refine XS.iconst X16.here hx rfl (hb hby d3_31) ?_
    refine XS.isub X16.here hx rfl (hb hby d3_32) rfl ?_
    exact k
  refine Outs.of (ldJ X16 hx hZ e16 V16 (j := (5 : Int32)) (k := 5) rfl (by decide) (f := (mkF m 33 #[.val (.ref o0), .val (.int (7 : Int32)), .val (.ref b3), .val (.int (6 : Int32))] [(.int (5 : Int32)), (.ref b3)])) rfl rfl (hb hby d3_33)) ?_
  show Outs p e below s _ _ _ (T16.setTop (mkF m 34 #[.val (.ref o0), .val (.int (7 : Int32)), .val (.ref b3), .val (.int (6 : Int32))] [(.long (ct7_g25e 5))]))
  refine Outs.of (U' := T16.setTop (mkF m 20 #[.val (.ref o0), .val (.int (7 : Int32)), .val (.ref b3), .val (.int (6 : Int32))] [(.int (6 : Int32)), (.int (7 : Int32)), (.int (6 : Int32)), (.ref b3)])) (fun t k => ?_) ?_
  · refine X16.ldc2Long hx hown (mvT hZ (hw _ (List.mem_of_getElem? (i := 27) rfl))) (g := (mkF m 34 #[.val (.ref o0), .val (.int (7 : Int32)), .val (.ref b3), .val (.int (6 : Int32))] [(.long (ct7_g25e 5))])) rfl (hb hby d3_34) _ ?_
    refine XS.lcmp X16.here hx rfl (hb hby d3_37) rfl ?_
    refine XS.ifYes X16.here hx rfl (pc0 := 38) (pc' := 16) rfl (hb hby d3_38) rfl ((if0 _ _).trans (flt (fun q_ => (show ¬ ((2147483647 : Int64) < (ct7_g25e 5)) from (by decide +kernel)) ((lw_gt _ _).mp q_))).2.2.2) (by decide) (by decide) ?_
    refine XS.aloadN X16.here hx rfl (hb hby d3_16) rfl rfl ?_
    refine XS.iloadN X16.here hx rfl (hb hby d3_17) rfl ?_
    refine XS.iloadN X16.here hx rfl (hb hby d3_18) rfl ?_
    refine XS.iloadN X16.here hx rfl (hb hby d3_19) rfl ?_
    exact k
  obtain ⟨_, _, ⟨T17, L17, k17, n17⟩, -, X17, ⟨Lc17, hQ17, l17, y17, z17⟩, st17⟩ := Jvm.LawKit.callS X16 hx (y := (⟨"com/example/bitmend/bitmend/CodeParameters", "columns", "(II)J"⟩ : MethodName)) hown (mvT hZ (hw _ (List.mem_of_getElem? (i := 23) rfl))) (mvT hZ (hw _ (List.mem_of_getElem? (i := 24) rfl))) (mvT hZ (hw _ (List.mem_of_getElem? (i := 25) rfl))) (mvT hZ (hw _ (List.mem_of_getElem? (i := 26) rfl))) (by decide) (backOf (W := 2) (rm5 l Z a0 hw [] (7 : Int32) (6 : Int32) h16 n0 (by decide)) hZ (hw _ (List.mem_of_getElem? (i := 26) rfl)) (hw _ (List.mem_of_getElem? (i := 25) rfl)) (by decide) (by decide)) (g := (mkF m 20 #[.val (.ref o0), .val (.int (7 : Int32)), .val (.ref b3), .val (.int (6 : Int32))] [(.int (6 : Int32)), (.int (7 : Int32)), (.int (6 : Int32)), (.ref b3)])) rfl (by rw [hml]; rfl) (argsL := [(.int (7 : Int32)), (.int (6 : Int32))]) (rest := [(.int (6 : Int32)), (.ref b3)]) (lenOf pd_0 rfl) rfl (by show 2 * 0 + _ ≤ _; exact Nat.le_of_eq rfl) (hb hby d3_20) (fun _ _ => ⟨rfl, e16, (by decide : 1 + 0 ≤ _), (by decide : 33 + 0 ≤ _)⟩)
  dsimp only [Pt.U, Pt.locs, Pt.cells, Pt.slots] at X17 l17 y17 z17 st17 hQ17
  subst l17 y17 z17
  obtain ⟨rfl, N17q, e17⟩ := hQ17
  have N17 := Fr.app N16 N17q
  obtain ⟨Lh17, X17, N17⟩ := hide X17 N17 (C := 1) (S := 33) (by decide) (by decide)
  refine Outs.of st17 ?_
  show Outs p e below s _ _ _ (T17.setTop (mkF m 23 #[.val (.ref o0), .val (.int (7 : Int32)), .val (.ref b3), .val (.int (6 : Int32))] [(.long (F_f5 (7 : Int32) (6 : Int32))), (.int (6 : Int32)), (.ref b3)]))
  refine Outs.of (U' := T17.setTop (mkF m 25 #[.val (.ref o0), .val (.int (7 : Int32)), .val (.ref b3), .val (.int (6 : Int32))] [(.long ((F_f5 (7 : Int32) (6 : Int32)) + (1 : Int64))), (.int (6 : Int32)), (.ref b3)])) (fun t k => ?_) ?_
  · refine XS.lconst X17.here hx rfl (hb hby d3_23) ?_
    refine XS.ladd X17.here hx rfl (hb hby d3_24) rfl ?_
    exact k
  obtain ⟨T18, h18, X18, e18, W18, V18, st18⟩ := puJ X17 hx hZ e17 V16 (j := (6 : Int32)) (x := ((F_f5 (7 : Int32) (6 : Int32)) + (1 : Int64))) (k := 6) rfl (by decide) (f := (mkF m 25 #[.val (.ref o0), .val (.int (7 : Int32)), .val (.ref b3), .val (.int (6 : Int32))] [(.long ((F_f5 (7 : Int32) (6 : Int32)) + (1 : Int64))), (.int (6 : Int32)), (.ref b3)])) rfl rfl (hb hby d3_25)
  replace V18 : AJ Z h18 b3 .long 33 ct7_g25f := V18
  have N18 := Fr.snoc X18 N17 g_b3
  obtain ⟨Lh18, X18, N18⟩ := hide X18 N18 (C := 1) (S := 33) (by decide) (by decide)
  refine Outs.of st18 ?_
  show Outs p e below s _ _ _ (T18.setTop (mkF m 26 #[.val (.ref o0), .val (.int (7 : Int32)), .val (.ref b3), .val (.int (6 : Int32))] []))
  refine Outs.of (U' := T18.setTop (mkF m 33 #[.val (.ref o0), .val (.int (7 : Int32)), .val (.ref b3), .val (.int (7 : Int32))] [(.int (6 : Int32)), (.ref b3)])) (fun t k => ?_) ?_
  · refine XS.iinc X18.here hx rfl (hb hby d3_26) rfl (l' := #[.val (.ref o0), .val (.int (7 : Int32)), .val (.ref b3), .val (.int (7 : Int32))]) rfl ?_
    refine XS.aloadN X18.here hx rfl (hb hby d3_29) rfl rfl ?_
    refine XS.iloadN X18.here hx rfl (hb hby d3_30) rfl ?_
    refine XS.iconst X18.here hx rfl (hb hby d3_31) ?_
    refine XS.isub X18.here hx rfl (hb hby d3_32) rfl ?_
    exact k
  refine Outs.of (ldJ X18 hx hZ e18 V18 (j := (6 : Int32)) (k := 6) rfl (by decide) (f := (mkF m 33 #[.val (.ref o0), .val (.int (7 : Int32)), .val (.ref b3), .val (.int (7 : Int32))] [(.int (6 : Int32)), (.ref b3)])) rfl rfl (hb hby d3_33)) ?_
  show Outs p e below s _ _ _ (T18.setTop (mkF m 34 #[.val (.ref o0), .val (.int (7 : Int32)), .val (.ref b3), .val (.int (7 : Int32))] [(.long (ct7_g25f 6))]))
  refine Outs.of (U' := T18.setTop (mkF m 20 #[.val (.ref o0), .val (.int (7 : Int32)), .val (.ref b3), .val (.int (7 : Int32))] [(.int (7 : Int32)), (.int (7 : Int32)), (.int (7 : Int32)), (.ref b3)])) (fun t k => ?_) ?_
  · refine X18.ldc2Long hx hown (mvT hZ (hw _ (List.mem_of_getElem? (i := 27) rfl))) (g := (mkF m 34 #[.val (.ref o0), .val (.int (7 : Int32)), .val (.ref b3), .val (.int (7 : Int32))] [(.long (ct7_g25f 6))])) rfl (hb hby d3_34) _ ?_
    refine XS.lcmp X18.here hx rfl (hb hby d3_37) rfl ?_
    refine XS.ifYes X18.here hx rfl (pc0 := 38) (pc' := 16) rfl (hb hby d3_38) rfl ((if0 _ _).trans (flt (fun q_ => (show ¬ ((2147483647 : Int64) < (ct7_g25f 6)) from (by decide +kernel)) ((lw_gt _ _).mp q_))).2.2.2) (by decide) (by decide) ?_
    refine XS.aloadN X18.here hx rfl (hb hby d3_16) rfl rfl ?_
    refine XS.iloadN X18.here hx rfl (hb hby d3_17) rfl ?_
    refine XS.iloadN X18.here hx rfl (hb hby d3_18) rfl ?_
    refine XS.iloadN X18.here hx rfl (hb hby d3_19) rfl ?_
    exact k
  obtain ⟨_, _, ⟨T19, L19, k19, n19⟩, -, X19, ⟨Lc19, hQ19, l19, y19, z19⟩, st19⟩ := Jvm.LawKit.callS X18 hx (y := (⟨"com/example/bitmend/bitmend/CodeParameters", "columns", "(II)J"⟩ : MethodName)) hown (mvT hZ (hw _ (List.mem_of_getElem? (i := 23) rfl))) (mvT hZ (hw _ (List.mem_of_getElem? (i := 24) rfl))) (mvT hZ (hw _ (List.mem_of_getElem? (i := 25) rfl))) (mvT hZ (hw _ (List.mem_of_getElem? (i := 26) rfl))) (by decide) (backOf (W := 2) (rm5 l Z a0 hw [] (7 : Int32) (7 : Int32) h18 n0 (by decide)) hZ (hw _ (List.mem_of_getElem? (i := 26) rfl)) (hw _ (List.mem_of_getElem? (i := 25) rfl)) (by decide) (by decide)) (g := (mkF m 20 #[.val (.ref o0), .val (.int (7 : Int32)), .val (.ref b3), .val (.int (7 : Int32))] [(.int (7 : Int32)), (.int (7 : Int32)), (.int (7 : Int32)), (.ref b3)])) rfl (by rw [hml]; rfl) (argsL := [(.int (7 : Int32)), (.int (7 : Int32))]) (rest := [(.int (7 : Int32)), (.ref b3)]) (lenOf pd_0 rfl) rfl (by show 2 * 0 + _ ≤ _; exact Nat.le_of_eq rfl) (hb hby d3_20) (fun _ _ => ⟨rfl, e18, (by decide : 1 + 0 ≤ _), (by decide : 33 + 0 ≤ _)⟩)
  dsimp only [Pt.U, Pt.locs, Pt.cells, Pt.slots] at X19 l19 y19 z19 st19 hQ19
  subst l19 y19 z19
  obtain ⟨rfl, N19q, e19⟩ := hQ19
  have N19 := Fr.app N18 N19q
  obtain ⟨Lh19, X19, N19⟩ := hide X19 N19 (C := 1) (S := 33) (by decide) (by decide)
  refine Outs.of st19 ?_
  show Outs p e below s _ _ _ (T19.setTop (mkF m 23 #[.val (.ref o0), .val (.int (7 : Int32)), .val (.ref b3), .val (.int (7 : Int32))] [(.long (F_f5 (7 : Int32) (7 : Int32))), (.int (7 : Int32)), (.ref b3)]))
  refine Outs.of (U' := T19.setTop (mkF m 25 #[.val (.ref o0), .val (.int (7 : Int32)), .val (.ref b3), .val (.int (7 : Int32))] [(.long ((F_f5 (7 : Int32) (7 : Int32)) + (1 : Int64))), (.int (7 : Int32)), (.ref b3)])) (fun t k => ?_) ?_
  · refine XS.lconst X19.here hx rfl (hb hby d3_23) ?_
    refine XS.ladd X19.here hx rfl (hb hby d3_24) rfl ?_
    exact k
  obtain ⟨T20, h20, X20, e20, W20, V20, st20⟩ := puJ X19 hx hZ e19 V18 (j := (7 : Int32)) (x := ((F_f5 (7 : Int32) (7 : Int32)) + (1 : Int64))) (k := 7) rfl (by decide) (f := (mkF m 25 #[.val (.ref o0), .val (.int (7 : Int32)), .val (.ref b3), .val (.int (7 : Int32))] [(.long ((F_f5 (7 : Int32) (7 : Int32)) + (1 : Int64))), (.int (7 : Int32)), (.ref b3)])) rfl rfl (hb hby d3_25)
  replace V20 : AJ Z h20 b3 .long 33 ct7_g25g := V20
  have N20 := Fr.snoc X20 N19 g_b3
  obtain ⟨Lh20, X20, N20⟩ := hide X20 N20 (C := 1) (S := 33) (by decide) (by decide)
  refine Outs.of st20 ?_
  show Outs p e below s _ _ _ (T20.setTop (mkF m 26 #[.val (.ref o0), .val (.int (7 : Int32)), .val (.ref b3), .val (.int (7 : Int32))] []))
  refine Outs.of (U' := T20.setTop (mkF m 33 #[.val (.ref o0), .val (.int (7 : Int32)), .val (.ref b3), .val (.int (8 : Int32))] [(.int (7 : Int32)), (.ref b3)])) (fun t k => ?_) ?_
  · refine XS.iinc X20.here hx rfl (hb hby d3_26) rfl (l' := #[.val (.ref o0), .val (.int (7 : Int32)), .val (.ref b3), .val (.int (8 : Int32))]) rfl ?_
    refine XS.aloadN X20.here hx rfl (hb hby d3_29) rfl rfl ?_
    refine XS.iloadN X20.here hx rfl (hb hby d3_30) rfl ?_
    refine XS.iconst X20.here hx rfl (hb hby d3_31) ?_
    refine XS.isub X20.here hx rfl (hb hby d3_32) rfl ?_
    exact k
  refine Outs.of (ldJ X20 hx hZ e20 V20 (j := (7 : Int32)) (k := 7) rfl (by decide) (f := (mkF m 33 #[.val (.ref o0), .val (.int (7 : Int32)), .val (.ref b3), .val (.int (8 : Int32))] [(.int (7 : Int32)), (.ref b3)])) rfl rfl (hb hby d3_33)) ?_
  show Outs p e below s _ _ _ (T20.setTop (mkF m 34 #[.val (.ref o0), .val (.int (7 : Int32)), .val (.ref b3), .val (.int (8 : Int32))] [(.long (ct7_g25g 7))]))
  refine Outs.of (U' := T20.setTop (mkF m 20 #[.val (.ref o0), .val (.int (7 : Int32)), .val (.ref b3), .val (.int (8 : Int32))] [(.int (8 : Int32)), (.int (7 : Int32)), (.int (8 : Int32)), (.ref b3)])) (fun t k => ?_) ?_
  · refine X20.ldc2Long hx hown (mvT hZ (hw _ (List.mem_of_getElem? (i := 27) rfl))) (g := (mkF m 34 #[.val (.ref o0), .val (.int (7 : Int32)), .val (.ref b3), .val (.int (8 : Int32))] [(.long (ct7_g25g 7))])) rfl (hb hby d3_34) _ ?_
    refine XS.lcmp X20.here hx rfl (hb hby d3_37) rfl ?_
    refine XS.ifYes X20.here hx rfl (pc0 := 38) (pc' := 16) rfl (hb hby d3_38) rfl ((if0 _ _).trans (flt (fun q_ => (show ¬ ((2147483647 : Int64) < (ct7_g25g 7)) from (by decide +kernel)) ((lw_gt _ _).mp q_))).2.2.2) (by decide) (by decide) ?_
    refine XS.aloadN X20.here hx rfl (hb hby d3_16) rfl rfl ?_
    refine XS.iloadN X20.here hx rfl (hb hby d3_17) rfl ?_
    refine XS.iloadN X20.here hx rfl (hb hby d3_18) rfl ?_
    refine XS.iloadN X20.here hx rfl (hb hby d3_19) rfl ?_
    exact k
  obtain ⟨_, _, ⟨T21, L21, k21, n21⟩, -, X21, ⟨Lc21, hQ21, l21, y21, z21⟩, st21⟩ := Jvm.LawKit.callS X20 hx (y := (⟨"com/example/bitmend/bitmend/CodeParameters", "columns", "(II)J"⟩ : MethodName)) hown (mvT hZ (hw _ (List.mem_of_getElem? (i := 23) rfl))) (mvT hZ (hw _ (List.mem_of_getElem? (i := 24) rfl))) (mvT hZ (hw _ (List.mem_of_getElem? (i := 25) rfl))) (mvT hZ (hw _ (List.mem_of_getElem? (i := 26) rfl))) (by decide) (backOf (W := 2) (rm5 l Z a0 hw [] (7 : Int32) (8 : Int32) h20 n0 (by decide)) hZ (hw _ (List.mem_of_getElem? (i := 26) rfl)) (hw _ (List.mem_of_getElem? (i := 25) rfl)) (by decide) (by decide)) (g := (mkF m 20 #[.val (.ref o0), .val (.int (7 : Int32)), .val (.ref b3), .val (.int (8 : Int32))] [(.int (8 : Int32)), (.int (7 : Int32)), (.int (8 : Int32)), (.ref b3)])) rfl (by rw [hml]; rfl) (argsL := [(.int (7 : Int32)), (.int (8 : Int32))]) (rest := [(.int (8 : Int32)), (.ref b3)]) (lenOf pd_0 rfl) rfl (by show 2 * 0 + _ ≤ _; exact Nat.le_of_eq rfl) (hb hby d3_20) (fun _ _ => ⟨rfl, e20, (by decide : 1 + 0 ≤ _), (by decide : 33 + 0 ≤ _)⟩)
  dsimp only [Pt.U, Pt.locs, Pt.cells, Pt.slots] at X21 l21 y21 z21 st21 hQ21
  subst l21 y21 z21
  obtain ⟨rfl, N21q, e21⟩ := hQ21
  have N21 := Fr.app N20 N21q
  obtain ⟨Lh21, X21, N21⟩ := hide X21 N21 (C := 1) (S := 33) (by decide) (by decide)
  refine Outs.of st21 ?_
  show Outs p e below s _ _ _ (T21.setTop (mkF m 23 #[.val (.ref o0), .val (.int (7 : Int32)), .val (.ref b3), .val (.int (8 : Int32))] [(.long (F_f5 (7 : Int32) (8 : Int32))), (.int (8 : Int32)), (.ref b3)]))
  refine Outs.of (U' := T21.setTop (mkF m 25 #[.val (.ref o0), .val (.int (7 : Int32)), .val (.ref b3), .val (.int (8 : Int32))] [(.long ((F_f5 (7 : Int32) (8 : Int32)) + (1 : Int64))), (.int (8 : Int32)), (.ref b3)])) (fun t k => ?_) ?_
  · refine XS.lconst X21.here hx rfl (hb hby d3_23) ?_
    refine XS.ladd X21.here hx rfl (hb hby d3_24) rfl ?_
    exact k
  obtain ⟨T22, h22, X22, e22, W22, V22, st22⟩ := puJ X21 hx hZ e21 V20 (j := (8 : Int32)) (x := ((F_f5 (7 : Int32) (8 : Int32)) + (1 : Int64))) (k := 8) rfl (by decide) (f := (mkF m 25 #[.val (.ref o0), .val (.int (7 : Int32)), .val (.ref b3), .val (.int (8 : Int32))] [(.long ((F_f5 (7 : Int32) (8 : Int32)) + (1 : Int64))), (.int (8 : Int32)), (.ref b3)])) rfl rfl (hb hby d3_25)
  replace V22 : AJ Z h22 b3 .long 33 ct7_g25h := V22
  have N22 := Fr.snoc X22 N21 g_b3
  obtain ⟨Lh22, X22, N22⟩ := hide X22 N22 (C := 1) (S := 33) (by decide) (by decide)
  refine Outs.of st22 ?_
  show Outs p e below s _ _ _ (T22.setTop (mkF m 26 #[.val (.ref o0), .val (.int (7 : Int32)), .val (.ref b3), .val (.int (8 : Int32))] []))
  refine Outs.of (U' := T22.setTop (mkF m 33 #[.val (.ref o0), .val (.int (7 : Int32)), .val (.ref b3), .val (.int (9 : Int32))] [(.int (8 : Int32)), (.ref b3)])) (fun t k => ?_) ?_
  · refine XS.iinc X22.here hx rfl (hb hby d3_26) rfl (l' := #[.val (.ref o0), .val (.int (7 : Int32)), .val (.ref b3), .val (.int (9 : Int32))]) rfl ?_
    refine XS.aloadN X22.here hx rfl (hb hby d3_29) rfl rfl ?_
    refine XS.iloadN X22.here hx rfl (hb hby d3_30) rfl ?_
    refine XS.iconst X22.here hx rfl (hb hby d3_31) ?_
    refine XS.isub X22.here hx rfl (hb hby d3_32) rfl ?_
    exact k
  refine Outs.of (ldJ X22 hx hZ e22 V22 (j := (8 : Int32)) (k := 8) rfl (by decide) (f := (mkF m 33 #[.val (.ref o0), .val (.int (7 : Int32)), .val (.ref b3), .val (.int (9 : Int32))] [(.int (8 : Int32)), (.ref b3)])) rfl rfl (hb hby d3_33)) ?_
  show Outs p e below s _ _ _ (T22.setTop (mkF m 34 #[.val (.ref o0), .val (.int (7 : Int32)), .val (.ref b3), .val (.int (9 : Int32))] [(.long (ct7_g25h 8))]))
  refine Outs.of (U' := T22.setTop (mkF m 20 #[.val (.ref o0), .val (.int (7 : Int32)), .val (.ref b3), .val (.int (9 : Int32))] [(.int (9 : Int32)), (.int (7 : Int32)), (.int (9 : Int32)), (.ref b3)])) (fun t k => ?_) ?_
  · refine X22.ldc2Long hx hown (mvT hZ (hw _ (List.mem_of_getElem? (i := 27) rfl))) (g := (mkF m 34 #[.val (.ref o0), .val (.int (7 : Int32)), .val (.ref b3), .val (.int (9 : Int32))] [(.long (ct7_g25h 8))])) rfl (hb hby d3_34) _ ?_
    refine XS.lcmp X22.here hx rfl (hb hby d3_37) rfl ?_
    refine XS.ifYes X22.here hx rfl (pc0 := 38) (pc' := 16) rfl (hb hby d3_38) rfl ((if0 _ _).trans (flt (fun q_ => (show ¬ ((2147483647 : Int64) < (ct7_g25h 8)) from (by decide +kernel)) ((lw_gt _ _).mp q_))).2.2.2) (by decide) (by decide) ?_
    refine XS.aloadN X22.here hx rfl (hb hby d3_16) rfl rfl ?_
    refine XS.iloadN X22.here hx rfl (hb hby d3_17) rfl ?_
    refine XS.iloadN X22.here hx rfl (hb hby d3_18) rfl ?_
    refine XS.iloadN X22.here hx rfl (hb hby d3_19) rfl ?_
    exact k
  obtain ⟨_, _, ⟨T23, L23, k23, n23⟩, -, X23, ⟨Lc23, hQ23, l23, y23, z23⟩, st23⟩ := Jvm.LawKit.callS X22 hx (y := (⟨"com/example/bitmend/bitmend/CodeParameters", "columns", "(II)J"⟩ : MethodName)) hown (mvT hZ (hw _ (List.mem_of_getElem? (i := 23) rfl))) (mvT hZ (hw _ (List.mem_of_getElem? (i := 24) rfl))) (mvT hZ (hw _ (List.mem_of_getElem? (i := 25) rfl))) (mvT hZ (hw _ (List.mem_of_getElem? (i := 26) rfl))) (by decide) (backOf (W := 2) (rm5 l Z a0 hw [] (7 : Int32) (9 : Int32) h22 n0 (by decide)) hZ (hw _ (List.mem_of_getElem? (i := 26) rfl)) (hw _ (List.mem_of_getElem? (i := 25) rfl)) (by decide) (by decide)) (g := (mkF m 20 #[.val (.ref o0), .val (.int (7 : Int32)), .val (.ref b3), .val (.int (9 : Int32))] [(.int (9 : Int32)), (.int (7 : Int32)), (.int (9 : Int32)), (.ref b3)])) rfl (by rw [hml]; rfl) (argsL := [(.int (7 : Int32)), (.int (9 : Int32))]) (rest := [(.int (9 : Int32)), (.ref b3)]) (lenOf pd_0 rfl) rfl (by show 2 * 0 + _ ≤ _; exact Nat.le_of_eq rfl) (hb hby d3_20) (fun _ _ => ⟨rfl, e22, (by decide : 1 + 0 ≤ _), (by decide : 33 + 0 ≤ _)⟩)
  dsimp only [Pt.U, Pt.locs, Pt.cells, Pt.slots] at X23 l23 y23 z23 st23 hQ23
  subst l23 y23 z23
  obtain ⟨rfl, N23q, e23⟩ := hQ23
  have N23 := Fr.app N22 N23q
  obtain ⟨Lh23, X23, N23⟩ := hide X23 N23 (C := 1) (S := 33) (by decide) (by decide)
  refine Outs.of st23 ?_
  show Outs p e below s _ _ _ (T23.setTop (mkF m 23 #[.val (.ref o0), .val (.int (7 : Int32)), .val (.ref b3), .val (.int (9 : Int32))] [(.long (F_f5 (7 : Int32) (9 : Int32))), (.int (9 : Int32)), (.ref b3)]))
  refine Outs.of (U' := T23.setTop (mkF m 25 #[.val (.ref o0), .val (.int (7 : Int32)), .val (.ref b3), .val (.int (9 : Int32))] [(.long ((F_f5 (7 : Int32) (9 : Int32)) + (1 : Int64))), (.int (9 : Int32)), (.ref b3)])) (fun t k => ?_) ?_
  · refine XS.lconst X23.here hx rfl (hb hby d3_23) ?_
    refine XS.ladd X23.here hx rfl (hb hby d3_24) rfl ?_
    exact k
  obtain ⟨T24, h24, X24, e24, W24, V24, st24⟩ := puJ X23 hx hZ e23 V22 (j := (9 : Int32)) (x := ((F_f5 (7 : Int32) (9 : Int32)) + (1 : Int64))) (k := 9) rfl (by decide) (f := (mkF m 25 #[.val (.ref o0), .val (.int (7 : Int32)), .val (.ref b3), .val (.int (9 : Int32))] [(.long ((F_f5 (7 : Int32) (9 : Int32)) + (1 : Int64))), (.int (9 : Int32)), (.ref b3)])) rfl rfl (hb hby d3_25)
  replace V24 : AJ Z h24 b3 .long 33 ct7_g25i := V24
  have N24 := Fr.snoc X24 N23 g_b3
  obtain ⟨Lh24, X24, N24⟩ := hide X24 N24 (C := 1) (S := 33) (by decide) (by decide)
  refine Outs.of st24 ?_
  show Outs p e below s _ _ _ (T24.setTop (mkF m 26 #[.val (.ref o0), .val (.int (7 : Int32)), .val (.ref b3), .val (.int (9 : Int32))] []))
  refine Outs.of (U' := T24.setTop (mkF m 33 #[.val (.ref o0), .val (.int (7 : Int32)), .val (.ref b3), .val (.int (10 : Int32))] [(.int (9 : Int32)), (.ref b3)])) (fun t k => ?_) ?_
  · refine XS.iinc X24.here hx rfl (hb hby d3_26) rfl (l' := #[.val (.ref o0), .val (.int (7 : Int32)), .val (.ref b3), .val (.int (10 : Int32))]) rfl ?_
    refine XS.aloadN X24.here hx rfl (hb hby d3_29) rfl rfl ?_
    refine XS.iloadN X24.here hx rfl (hb hby d3_30) rfl ?_
    refine XS.iconst X24.here hx rfl (hb hby d3_31) ?_
    refine XS.isub X24.here hx rfl (hb hby d3_32) rfl ?_
    exact k
  refine Outs.of (ldJ X24 hx hZ e24 V24 (j := (9 : Int32)) (k := 9) rfl (by decide) (f := (mkF m 33 #[.val (.ref o0), .val (.int (7 : Int32)), .val (.ref b3), .val (.int (10 : Int32))] [(.int (9 : Int32)), (.ref b3)])) rfl rfl (hb hby d3_33)) ?_
  show Outs p e below s _ _ _ (T24.setTop (mkF m 34 #[.val (.ref o0), .val (.int (7 : Int32)), .val (.ref b3), .val (.int (10 : Int32))] [(.long (ct7_g25i 9))]))
  refine Outs.of (U' := T24.setTop (mkF m 20 #[.val (.ref o0), .val (.int (7 : Int32)), .val (.ref b3), .val (.int (10 : Int32))] [(.int (10 : Int32)), (.int (7 : Int32)), (.int (10 : Int32)), (.ref b3)])) (fun t k => ?_) ?_
  · refine X24.ldc2Long hx hown (mvT hZ (hw _ (List.mem_of_getElem? (i := 27) rfl))) (g := (mkF m 34 #[.val (.ref o0), .val (.int (7 : Int32)), .val (.ref b3), .val (.int (10 : Int32))] [(.long (ct7_g25i 9))])) rfl (hb hby d3_34) _ ?_
    refine XS.lcmp X24.here hx rfl (hb hby d3_37) rfl ?_
    refine XS.ifYes X24.here hx rfl (pc0 := 38) (pc' := 16) rfl (hb hby d3_38) rfl ((if0 _ _).trans (flt (fun q_ => (show ¬ ((2147483647 : Int64) < (ct7_g25i 9)) from (by decide +kernel)) ((lw_gt _ _).mp q_))).2.2.2) (by decide) (by decide) ?_
    refine XS.aloadN X24.here hx rfl (hb hby d3_16) rfl rfl ?_
    refine XS.iloadN X24.here hx rfl (hb hby d3_17) rfl ?_
    refine XS.iloadN X24.here hx rfl (hb hby d3_18) rfl ?_
    refine XS.iloadN X24.here hx rfl (hb hby d3_19) rfl ?_
    exact k
  obtain ⟨_, _, ⟨T25, L25, k25, n25⟩, -, X25, ⟨Lc25, hQ25, l25, y25, z25⟩, st25⟩ := Jvm.LawKit.callS X24 hx (y := (⟨"com/example/bitmend/bitmend/CodeParameters", "columns", "(II)J"⟩ : MethodName)) hown (mvT hZ (hw _ (List.mem_of_getElem? (i := 23) rfl))) (mvT hZ (hw _ (List.mem_of_getElem? (i := 24) rfl))) (mvT hZ (hw _ (List.mem_of_getElem? (i := 25) rfl))) (mvT hZ (hw _ (List.mem_of_getElem? (i := 26) rfl))) (by decide) (backOf (W := 2) (rm5 l Z a0 hw [] (7 : Int32) (10 : Int32) h24 n0 (by decide)) hZ (hw _ (List.mem_of_getElem? (i := 26) rfl)) (hw _ (List.mem_of_getElem? (i := 25) rfl)) (by decide) (by decide)) (g := (mkF m 20 #[.val (.ref o0), .val (.int (7 : Int32)), .val (.ref b3), .val (.int (10 : Int32))] [(.int (10 : Int32)), (.int (7 : Int32)), (.int (10 : Int32)), (.ref b3)])) rfl (by rw [hml]; rfl) (argsL := [(.int (7 : Int32)), (.int (10 : Int32))]) (rest := [(.int (10 : Int32)), (.ref b3)]) (lenOf pd_0 rfl) rfl (by show 2 * 0 + _ ≤ _; exact Nat.le_of_eq rfl) (hb hby d3_20) (fun _ _ => ⟨rfl, e24, (by decide : 1 + 0 ≤ _), (by decide : 33 + 0 ≤ _)⟩)
  dsimp only [Pt.U, Pt.locs, Pt.cells, Pt.slots] at X25 l25 y25 z25 st25 hQ25
  subst l25 y25 z25
  obtain ⟨rfl, N25q, e25⟩ := hQ25
  have N25 := Fr.app N24 N25q
  obtain ⟨Lh25, X25, N25⟩ := hide X25 N25 (C := 1) (S := 33) (by decide) (by decide)
  refine Outs.of st25 ?_
  show Outs p e below s _ _ _ (T25.setTop (mkF m 23 #[.val (.ref o0), .val (.int (7 : Int32)), .val (.ref b3), .val (.int (10 : Int32))] [(.long (F_f5 (7 : Int32) (10 : Int32))), (.int (10 : Int32)), (.ref b3)]))
  refine Outs.of (U' := T25.setTop (mkF m 25 #[.val (.ref o0), .val (.int (7 : Int32)), .val (.ref b3), .val (.int (10 : Int32))] [(.long ((F_f5 (7 : Int32) (10 : Int32)) + (1 : Int64))), (.int (10 : Int32)), (.ref b3)])) (fun t k => ?_) ?_
  · refine XS.lconst X25.here hx rfl (hb hby d3_23) ?_
    refine XS.ladd X25.here hx rfl (hb hby d3_24) rfl ?_
    exact k
  obtain ⟨T26, h26, X26, e26, W26, V26, st26⟩ := puJ X25 hx hZ e25 V24 (j := (10 : Int32)) (x := ((F_f5 (7 : Int32) (10 : Int32)) + (1 : Int64))) (k := 10) rfl (by decide) (f := (mkF m 25 #[.val (.ref o0), .val (.int (7 : Int32)), .val (.ref b3), .val (.int (10 : Int32))] [(.long ((F_f5 (7 : Int32) (10 : Int32)) + (1 : Int64))), (.int (10 : Int32)), (.ref b3)])) rfl rfl (hb hby d3_25)
  replace V26 : AJ Z h26 b3 .long 33 ct7_g25j := V26
  have N26 := Fr.snoc X26 N25 g_b3
  obtain ⟨Lh26, X26, N26⟩ := hide X26 N26 (C := 1) (S := 33) (by decide) (by decide)
  refine Outs.of st26 ?_
  show Outs p e below s _ _ _ (T26.setTop (mkF m 26 #[.val (.ref o0), .val (.int (7 : Int32)), .val (.ref b3), .val (.int (10 : Int32))] []))
  refine Outs.of (U' := T26.setTop (mkF m 33 #[.val (.ref o0), .val (.int (7 : Int32)), .val (.ref b3), .val (.int (11 : Int32))] [(.int (10 : Int32)), (.ref b3)])) (fun t k => ?_) ?_
  · refine XS.iinc X26.here hx rfl (hb hby d3_26) rfl (l' := #[.val (.ref o0), .val (.int (7 : Int32)), .val (.ref b3), .val (.int (11 : Int32))]) rfl ?_
    refine XS.aloadN X26.here hx rfl (hb hby d3_29) rfl rfl ?_
    refine XS.iloadN X26.here hx rfl (hb hby d3_30) rfl ?_
    refine XS.iconst X26.here hx rfl (hb hby d3_31) ?_
    refine XS.isub X26.here hx rfl (hb hby d3_32) rfl ?_
    exact k
  refine Outs.of (ldJ X26 hx hZ e26 V26 (j := (10 : Int32)) (k := 10) rfl (by decide) (f := (mkF m 33 #[.val (.ref o0), .val (.int (7 : Int32)), .val (.ref b3), .val (.int (11 : Int32))] [(.int (10 : Int32)), (.ref b3)])) rfl rfl (hb hby d3_33)) ?_
  show Outs p e below s _ _ _ (T26.setTop (mkF m 34 #[.val (.ref o0), .val (.int (7 : Int32)), .val (.ref b3), .val (.int (11 : Int32))] [(.long (ct7_g25j 10))]))
  refine Outs.of (U' := T26.setTop (mkF m 20 #[.val (.ref o0), .val (.int (7 : Int32)), .val (.ref b3), .val (.int (11 : Int32))] [(.int (11 : Int32)), (.int (7 : Int32)), (.int (11 : Int32)), (.ref b3)])) (fun t k => ?_) ?_
  · refine X26.ldc2Long hx hown (mvT hZ (hw _ (List.mem_of_getElem? (i := 27) rfl))) (g := (mkF m 34 #[.val (.ref o0), .val (.int (7 : Int32)), .val (.ref b3), .val (.int (11 : Int32))] [(.long (ct7_g25j 10))])) rfl (hb hby d3_34) _ ?_
    refine XS.lcmp X26.here hx rfl (hb hby d3_37) rfl ?_
    refine XS.ifYes X26.here hx rfl (pc0 := 38) (pc' := 16) rfl (hb hby d3_38) rfl ((if0 _ _).trans (flt (fun q_ => (show ¬ ((2147483647 : Int64) < (ct7_g25j 10)) from (by decide +kernel)) ((lw_gt _ _).mp q_))).2.2.2) (by decide) (by decide) ?_
    refine XS.aloadN X26.here hx rfl (hb hby d3_16) rfl rfl ?_
    refine XS.iloadN X26.here hx rfl (hb hby d3_17) rfl ?_
    refine XS.iloadN X26.here hx rfl (hb hby d3_18) rfl ?_
    refine XS.iloadN X26.here hx rfl (hb hby d3_19) rfl ?_
    exact k
  obtain ⟨_, _, ⟨T27, L27, k27, n27⟩, -, X27, ⟨Lc27, hQ27, l27, y27, z27⟩, st27⟩ := Jvm.LawKit.callS X26 hx (y := (⟨"com/example/bitmend/bitmend/CodeParameters", "columns", "(II)J"⟩ : MethodName)) hown (mvT hZ (hw _ (List.mem_of_getElem? (i := 23) rfl))) (mvT hZ (hw _ (List.mem_of_getElem? (i := 24) rfl))) (mvT hZ (hw _ (List.mem_of_getElem? (i := 25) rfl))) (mvT hZ (hw _ (List.mem_of_getElem? (i := 26) rfl))) (by decide) (backOf (W := 2) (rm5 l Z a0 hw [] (7 : Int32) (11 : Int32) h26 n0 (by decide)) hZ (hw _ (List.mem_of_getElem? (i := 26) rfl)) (hw _ (List.mem_of_getElem? (i := 25) rfl)) (by decide) (by decide)) (g := (mkF m 20 #[.val (.ref o0), .val (.int (7 : Int32)), .val (.ref b3), .val (.int (11 : Int32))] [(.int (11 : Int32)), (.int (7 : Int32)), (.int (11 : Int32)), (.ref b3)])) rfl (by rw [hml]; rfl) (argsL := [(.int (7 : Int32)), (.int (11 : Int32))]) (rest := [(.int (11 : Int32)), (.ref b3)]) (lenOf pd_0 rfl) rfl (by show 2 * 0 + _ ≤ _; exact Nat.le_of_eq rfl) (hb hby d3_20) (fun _ _ => ⟨rfl, e26, (by decide : 1 + 0 ≤ _), (by decide : 33 + 0 ≤ _)⟩)
  dsimp only [Pt.U, Pt.locs, Pt.cells, Pt.slots] at X27 l27 y27 z27 st27 hQ27
  subst l27 y27 z27
  obtain ⟨rfl, N27q, e27⟩ := hQ27
  have N27 := Fr.app N26 N27q
  obtain ⟨Lh27, X27, N27⟩ := hide X27 N27 (C := 1) (S := 33) (by decide) (by decide)
  refine Outs.of st27 ?_
  show Outs p e below s _ _ _ (T27.setTop (mkF m 23 #[.val (.ref o0), .val (.int (7 : Int32)), .val (.ref b3), .val (.int (11 : Int32))] [(.long (F_f5 (7 : Int32) (11 : Int32))), (.int (11 : Int32)), (.ref b3)]))
  refine Outs.of (U' := T27.setTop (mkF m 25 #[.val (.ref o0), .val (.int (7 : Int32)), .val (.ref b3), .val (.int (11 : Int32))] [(.long ((F_f5 (7 : Int32) (11 : Int32)) + (1 : Int64))), (.int (11 : Int32)), (.ref b3)])) (fun t k => ?_) ?_
  · refine XS.lconst X27.here hx rfl (hb hby d3_23) ?_
    refine XS.ladd X27.here hx rfl (hb hby d3_24) rfl ?_
    exact k
  obtain ⟨T28, h28, X28, e28, W28, V28, st28⟩ := puJ X27 hx hZ e27 V26 (j := (11 : Int32)) (x := ((F_f5 (7 : Int32) (11 : Int32)) + (1 : Int64))) (k := 11) rfl (by decide) (f := (mkF m 25 #[.val (.ref o0), .val (.int (7 : Int32)), .val (.ref b3), .val (.int (11 : Int32))] [(.long ((F_f5 (7 : Int32) (11 : Int32)) + (1 : Int64))), (.int (11 : Int32)), (.ref b3)])) rfl rfl (hb hby d3_25)
  replace V28 : AJ Z h28 b3 .long 33 ct7_g25k := V28
  have N28 := Fr.snoc X28 N27 g_b3
  obtain ⟨Lh28, X28, N28⟩ := hide X28 N28 (C := 1) (S := 33) (by decide) (by decide)
  refine Outs.of st28 ?_
  show Outs p e below s _ _ _ (T28.setTop (mkF m 26 #[.val (.ref o0), .val (.int (7 : Int32)), .val (.ref b3), .val (.int (11 : Int32))] []))
  refine Outs.of (U' := T28.setTop (mkF m 33 #[.val (.ref o0), .val (.int (7 : Int32)), .val (.ref b3), .val (.int (12 : Int32))] [(.int (11 : Int32)), (.ref b3)])) (fun t k => ?_) ?_
  · refine XS.iinc X28.here hx rfl (hb hby d3_26) rfl (l' := #[.val (.ref o0), .val (.int (7 : Int32)), .val (.ref b3), .val (.int (12 : Int32))]) rfl ?_
    refine XS.aloadN X28.here hx rfl (hb hby d3_29) rfl rfl ?_
    refine XS.iloadN X28.here hx rfl (hb hby d3_30) rfl ?_
    refine XS.iconst X28.here hx rfl (hb hby d3_31) ?_
    refine XS.isub X28.here hx rfl (hb hby d3_32) rfl ?_
    exact k
  refine Outs.of (ldJ X28 hx hZ e28 V28 (j := (11 : Int32)) (k := 11) rfl (by decide) (f := (mkF m 33 #[.val (.ref o0), .val (.int (7 : Int32)), .val (.ref b3), .val (.int (12 : Int32))] [(.int (11 : Int32)), (.ref b3)])) rfl rfl (hb hby d3_33)) ?_
  show Outs p e below s _ _ _ (T28.setTop (mkF m 34 #[.val (.ref o0), .val (.int (7 : Int32)), .val (.ref b3), .val (.int (12 : Int32))] [(.long (ct7_g25k 11))]))
  refine Outs.of (U' := T28.setTop (mkF m 20 #[.val (.ref o0), .val (.int (7 : Int32)), .val (.ref b3), .val (.int (12 : Int32))] [(.int (12 : Int32)), (.int (7 : Int32)), (.int (12 : Int32)), (.ref b3)])) (fun t k => ?_) ?_
  · refine X28.ldc2Long hx hown (mvT hZ (hw _ (List.mem_of_getElem? (i := 27) rfl))) (g := (mkF m 34 #[.val (.ref o0), .val (.int (7 : Int32)), .val (.ref b3), .val (.int (12 : Int32))] [(.long (ct7_g25k 11))])) rfl (hb hby d3_34) _ ?_
    refine XS.lcmp X28.here hx rfl (hb hby d3_37) rfl ?_
    refine XS.ifYes X28.here hx rfl (pc0 := 38) (pc' := 16) rfl (hb hby d3_38) rfl ((if0 _ _).trans (flt (fun q_ => (show ¬ ((2147483647 : Int64) < (ct7_g25k 11)) from (by decide +kernel)) ((lw_gt _ _).mp q_))).2.2.2) (by decide) (by decide) ?_
    refine XS.aloadN X28.here hx rfl (hb hby d3_16) rfl rfl ?_
    refine XS.iloadN X28.here hx rfl (hb hby d3_17) rfl ?_
    refine XS.iloadN X28.here hx rfl (hb hby d3_18) rfl ?_
    refine XS.iloadN X28.here hx rfl (hb hby d3_19) rfl ?_
    exact k
  obtain ⟨_, _, ⟨T29, L29, k29, n29⟩, -, X29, ⟨Lc29, hQ29, l29, y29, z29⟩, st29⟩ := Jvm.LawKit.callS X28 hx (y := (⟨"com/example/bitmend/bitmend/CodeParameters", "columns", "(II)J"⟩ : MethodName)) hown (mvT hZ (hw _ (List.mem_of_getElem? (i := 23) rfl))) (mvT hZ (hw _ (List.mem_of_getElem? (i := 24) rfl))) (mvT hZ (hw _ (List.mem_of_getElem? (i := 25) rfl))) (mvT hZ (hw _ (List.mem_of_getElem? (i := 26) rfl))) (by decide) (backOf (W := 2) (rm5 l Z a0 hw [] (7 : Int32) (12 : Int32) h28 n0 (by decide)) hZ (hw _ (List.mem_of_getElem? (i := 26) rfl)) (hw _ (List.mem_of_getElem? (i := 25) rfl)) (by decide) (by decide)) (g := (mkF m 20 #[.val (.ref o0), .val (.int (7 : Int32)), .val (.ref b3), .val (.int (12 : Int32))] [(.int (12 : Int32)), (.int (7 : Int32)), (.int (12 : Int32)), (.ref b3)])) rfl (by rw [hml]; rfl) (argsL := [(.int (7 : Int32)), (.int (12 : Int32))]) (rest := [(.int (12 : Int32)), (.ref b3)]) (lenOf pd_0 rfl) rfl (by show 2 * 0 + _ ≤ _; exact Nat.le_of_eq rfl) (hb hby d3_20) (fun _ _ => ⟨rfl, e28, (by decide : 1 + 0 ≤ _), (by decide : 33 + 0 ≤ _)⟩)
  dsimp only [Pt.U, Pt.locs, Pt.cells, Pt.slots] at X29 l29 y29 z29 st29 hQ29
  subst l29 y29 z29
  obtain ⟨rfl, N29q, e29⟩ := hQ29
  have N29 := Fr.app N28 N29q
  obtain ⟨Lh29, X29, N29⟩ := hide X29 N29 (C := 1) (S := 33) (by decide) (by decide)
  refine Outs.of st29 ?_
  show Outs p e below s _ _ _ (T29.setTop (mkF m 23 #[.val (.ref o0), .val (.int (7 : Int32)), .val (.ref b3), .val (.int (12 : Int32))] [(.long (F_f5 (7 : Int32) (12 : Int32))), (.int (12 : Int32)), (.ref b3)]))
  refine Outs.of (U' := T29.setTop (mkF m 25 #[.val (.ref o0), .val (.int (7 : Int32)), .val (.ref b3), .val (.int (12 : Int32))] [(.long ((F_f5 (7 : Int32) (12 : Int32)) + (1 : Int64))), (.int (12 : Int32)), (.ref b3)])) (fun t k => ?_) ?_
  · refine XS.lconst X29.here hx rfl (hb hby d3_23) ?_
    refine XS.ladd X29.here hx rfl (hb hby d3_24) rfl ?_
    exact k
  obtain ⟨T30, h30, X30, e30, W30, V30, st30⟩ := puJ X29 hx hZ e29 V28 (j := (12 : Int32)) (x := ((F_f5 (7 : Int32) (12 : Int32)) + (1 : Int64))) (k := 12) rfl (by decide) (f := (mkF m 25 #[.val (.ref o0), .val (.int (7 : Int32)), .val (.ref b3), .val (.int (12 : Int32))] [(.long ((F_f5 (7 : Int32) (12 : Int32)) + (1 : Int64))), (.int (12 : Int32)), (.ref b3)])) rfl rfl (hb hby d3_25)
  replace V30 : AJ Z h30 b3 .long 33 ct7_g25l := V30
  have N30 := Fr.snoc X30 N29 g_b3
  obtain ⟨Lh30, X30, N30⟩ := hide X30 N30 (C := 1) (S := 33) (by decide) (by decide)
  refine Outs.of st30 ?_
  show Outs p e below s _ _ _ (T30.setTop (mkF m 26 #[.val (.ref o0), .val (.int (7 : Int32)), .val (.ref b3), .val (.int (12 : Int32))] []))
  refine Outs.of (U' := T30.setTop (mkF m 33 #[.val (.ref o0), .val (.int (7 : Int32)), .val (.ref b3), .val (.int (13 : Int32))] [(.int (12 : Int32)), (.ref b3)])) (fun t k => ?_) ?_
  · refine XS.iinc X30.here hx rfl (hb hby d3_26) rfl (l' := #[.val (.ref o0), .val (.int (7 : Int32)), .val (.ref b3), .val (.int (13 : Int32))]) rfl ?_
    refine XS.aloadN X30.here hx rfl (hb hby d3_29) rfl rfl ?_
    refine XS.iloadN X30.here hx rfl (hb hby d3_30) rfl ?_
    refine XS.iconst X30.here hx rfl (hb hby d3_31) ?_
    refine XS.isub X30.here hx rfl (hb hby d3_32) rfl ?_
    exact k
  refine Outs.of (ldJ X30 hx hZ e30 V30 (j := (12 : Int32)) (k := 12) rfl (by decide) (f := (mkF m 33 #[.val (.ref o0), .val (.int (7 : Int32)), .val (.ref b3), .val (.int (13 : Int32))] [(.int (12 : Int32)), (.ref b3)])) rfl rfl (hb hby d3_33)) ?_
  show Outs p e below s _ _ _ (T30.setTop (mkF m 34 #[.val (.ref o0), .val (.int (7 : Int32)), .val (.ref b3), .val (.int (13 : Int32))] [(.long (ct7_g25l 12))]))
  refine Outs.of (U' := T30.setTop (mkF m 44 #[.val (.ref o0), .val (.int (7 : Int32)), .val (.ref b3), .val (.int (13 : Int32))] [(.int (13 : Int32)), (.ref b3), (.ref o0)])) (fun t k => ?_) ?_
  · refine X30.ldc2Long hx hown (mvT hZ (hw _ (List.mem_of_getElem? (i := 27) rfl))) (g := (mkF m 34 #[.val (.ref o0), .val (.int (7 : Int32)), .val (.ref b3), .val (.int (13 : Int32))] [(.long (ct7_g25l 12))])) rfl (hb hby d3_34) _ ?_
    refine XS.lcmp X30.here hx rfl (hb hby d3_37) rfl ?_
    refine XS.ifNo X30.here hx rfl (hb hby d3_38) rfl ((if0 _ _).trans (tlt ((lw_gt _ _).mpr (show (2147483647 : Int64) < (ct7_g25l 12) from (by decide +kernel)))).2.2.2) ?_
    refine XS.aloadN X30.here hx rfl (hb hby d3_41) rfl rfl ?_
    refine XS.aloadN X30.here hx rfl (hb hby d3_42) rfl rfl ?_
    refine XS.iloadN X30.here hx rfl (hb hby d3_43) rfl ?_
    exact k
  have f31 : Exa Z h30 o0 "com/example/bitmend/bitmend/PositionalColumns" := ((((((((((((((f4.ext E3).wr W6).wr W8).wr W10).wr W12).wr W14).wr W16).wr W18).wr W20).wr W22).wr W24).wr W26).wr W28).wr W30)
  obtain ⟨_, _, ⟨T32, L32, k32, n32⟩, -, X32, ⟨Lc32, hQ32, l32, y32, z32⟩, st32⟩ := Jvm.LawKit.callS X30 hx (y := (⟨"java/util/Arrays", "copyOf", "([JI)[J"⟩ : MethodName)) hown (mvT hZ (hw _ (List.mem_of_getElem? (i := 28) rfl))) (mvT hZ (hw _ (List.mem_of_getElem? (i := 29) rfl))) (mvT hZ (hw _ (List.mem_of_getElem? (i := 30) rfl))) (mvT hZ (hw _ (List.mem_of_getElem? (i := 31) rfl))) (by decide) (backOf (W := 1) (rmcp7 l Z a0 hw [] b3 ct7_g25l h30 n0 (Nat.le_trans (Nat.le_trans (Nat.le_trans (Nat.le_trans (Nat.le_trans (Nat.le_trans (Nat.le_trans (Nat.le_trans (Nat.le_trans (Nat.le_trans (Nat.le_trans (Nat.le_trans (Nat.le_trans (Nat.le_trans (Nat.le_trans Z0 (Keep.of_wr W2).1) E3.1) (Keep.of_wr W6).1) (Keep.of_wr W8).1) (Keep.of_wr W10).1) (Keep.of_wr W12).1) (Keep.of_wr W14).1) (Keep.of_wr W16).1) (Keep.of_wr W18).1) (Keep.of_wr W20).1) (Keep.of_wr W22).1) (Keep.of_wr W24).1) (Keep.of_wr W26).1) (Keep.of_wr W28).1) (Keep.of_wr W30).1) V30) hZ (hw _ (List.mem_of_getElem? (i := 31) rfl)) (hw _ (List.mem_of_getElem? (i := 30) rfl)) (by decide) (by decide)) (g := (mkF m 44 #[.val (.ref o0), .val (.int (7 : Int32)), .val (.ref b3), .val (.int (13 : Int32))] [(.int (13 : Int32)), (.ref b3), (.ref o0)])) rfl (by rw [hml]; rfl) (argsL := [(.ref b3), (.int (13 : Int32))]) (rest := [(.ref o0)]) (lenOf pd_4 rfl) rfl (by show 2 * 0 + _ ≤ _; exact Nat.le_of_eq rfl) (hb hby d3_44) (fun _ _ => ⟨rfl, e30, (by decide : 1 + 1 ≤ _), (by decide : 33 + 13 ≤ _)⟩)
  dsimp only [Pt.U, Pt.locs, Pt.cells, Pt.slots] at X32 l32 y32 z32 st32 hQ32
  subst l32 y32 z32
  obtain ⟨b32, g_b32, hs32, rfl, N32q, K32, u32_0⟩ := hQ32
  have N32 := Fr.app N30 N32q
  have sz_b32 : h0.size ≤ b32 := Nat.le_trans ((((((((((((((((Keep.refl h0 [o0]).wr W2 (Or.inl (List.mem_of_getElem? (i := 0) rfl))).ext E3).wr W6 (Or.inr sz_b3)).wr W8 (Or.inr sz_b3)).wr W10 (Or.inr sz_b3)).wr W12 (Or.inr sz_b3)).wr W14 (Or.inr sz_b3)).wr W16 (Or.inr sz_b3)).wr W18 (Or.inr sz_b3)).wr W20 (Or.inr sz_b3)).wr W22 (Or.inr sz_b3)).wr W24 (Or.inr sz_b3)).wr W26 (Or.inr sz_b3)).wr W28 (Or.inr sz_b3)).wr W30 (Or.inr sz_b3)).1 hs32
  have ne_o0_b32 : o0 ≠ b32 := Nat.ne_of_lt (Nat.lt_of_lt_of_le f31.lt hs32)
  have ne_b3_b32 : b3 ≠ b32 := Nat.ne_of_lt (Nat.lt_of_lt_of_le V30.lt hs32)
  obtain ⟨Lh32, X32, N32⟩ := hide X32 N32 (C := 2) (S := 46) (by decide) (by decide)
  refine Outs.of st32 ?_
  show Outs p e below s _ _ _ (T32.setTop (mkF m 47 #[.val (.ref o0), .val (.int (7 : Int32)), .val (.ref b3), .val (.int (13 : Int32))] [(.ref b32), (.ref o0)]))
  have f34 : Exa Z T32.heap o0 "com/example/bitmend/bitmend/PositionalColumns" := (f31.keep K32)
  have f35 : Fld Z T32.heap o0 "com/example/bitmend/bitmend/PositionalColumns" "checkPositions" "[J" .null := ((((((((((((((((F_o0_checkPositions.other W2 (Or.inr (slot_ne (Or.inr (hw _ (List.mem_of_getElem? (i := 40) rfl))) (Or.inr (hw _ (List.mem_of_getElem? (i := 21) rfl))) (by decide) (t := (.array .long)) (t' := .int) (by decide) (by decide)))).ext E3).other W6 (Or.inl ne_o0_b3)).other W8 (Or.inl ne_o0_b3)).other W10 (Or.inl ne_o0_b3)).other W12 (Or.inl ne_o0_b3)).other W14 (Or.inl ne_o0_b3)).other W16 (Or.inl ne_o0_b3)).other W18 (Or.inl ne_o0_b3)).other W20 (Or.inl ne_o0_b3)).other W22 (Or.inl ne_o0_b3)).other W24 (Or.inl ne_o0_b3)).other W26 (Or.inl ne_o0_b3)).other W28 (Or.inl ne_o0_b3)).other W30 (Or.inl ne_o0_b3)).keep K32 nin0)
  obtain ⟨T33, h33, X33, e33, W33, st33⟩ := putF X32 hx hZ hown (host := "") (Or.inl (hw _ (List.mem_of_getElem? (i := 39) rfl))) Via.refl rfl f35 f34 (Or.inr ⟨(hw _ (List.mem_of_getElem? (i := 40) rfl)), rfl, hnm⟩) (hw _ (List.mem_of_getElem? (i := 12) rfl)) (ty := (.array .long)) (by decide) rfl rfl (g := (mkF m 47 #[.val (.ref o0), .val (.int (7 : Int32)), .val (.ref b3), .val (.int (13 : Int32))] [(.ref b32), (.ref o0)])) rfl rfl (hb hby d3_47)
  have F33 : Fld Z h33 o0 "com/example/bitmend/bitmend/PositionalColumns" "checkPositions" "[J" (.ref b32) := f35.same W33
  have N33 := Fr.snoc X33 N32 g_o0
  obtain ⟨Lh33, X33, N33⟩ := hide X33 N33 (C := 2) (S := 46) (by decide) (by decide)
  refine Outs.of st33 ?_
  show Outs p e below s _ _ _ (T33.setTop (mkF m 50 #[.val (.ref o0), .val (.int (7 : Int32)), .val (.ref b3), .val (.int (13 : Int32))] []))
  have f36 : Exa Z h33 o0 "com/example/bitmend/bitmend/PositionalColumns" := (f34.wr W33)
  have f37 : Fld Z h33 o0 "com/example/bitmend/bitmend/PositionalColumns" "fieldSize" "I" (.int (7 : Int32)) := ((((((((((((((((F2.ext E3).other W6 (Or.inl ne_o0_b3)).other W8 (Or.inl ne_o0_b3)).other W10 (Or.inl ne_o0_b3)).other W12 (Or.inl ne_o0_b3)).other W14 (Or.inl ne_o0_b3)).other W16 (Or.inl ne_o0_b3)).other W18 (Or.inl ne_o0_b3)).other W20 (Or.inl ne_o0_b3)).other W22 (Or.inl ne_o0_b3)).other W24 (Or.inl ne_o0_b3)).other W26 (Or.inl ne_o0_b3)).other W28 (Or.inl ne_o0_b3)).other W30 (Or.inl ne_o0_b3)).keep K32 nin0).other W33 (Or.inr (slot_ne (Or.inr (hw _ (List.mem_of_getElem? (i := 21) rfl))) (Or.inr (hw _ (List.mem_of_getElem? (i := 40) rfl))) (by decide) (t := .int) (t' := (.array .long)) (by decide) (by decide))))
  exact Outs.retV X33 hx hret (hb hby d3_50) hlk (by decide) (by decide) e33 ⟨rfl, N33, ((((((((((((((((((Keep.refl h0 [o0]).wr W2 (Or.inl (List.mem_of_getElem? (i := 0) rfl))).ext E3).wr W6 (Or.inr sz_b3)).wr W8 (Or.inr sz_b3)).wr W10 (Or.inr sz_b3)).wr W12 (Or.inr sz_b3)).wr W14 (Or.inr sz_b3)).wr W16 (Or.inr sz_b3)).wr W18 (Or.inr sz_b3)).wr W20 (Or.inr sz_b3)).wr W22 (Or.inr sz_b3)).wr W24 (Or.inr sz_b3)).wr W26 (Or.inr sz_b3)).wr W28 (Or.inr sz_b3)).wr W30 (Or.inr sz_b3)).trans K32 all0).wr W33 (Or.inl (List.mem_of_getElem? (i := 0) rfl))), f36, f37⟩
def posOk (q col : Int64) : Nat → Int64 → Prop
  | 0, l => col < (l * q)
  | n + 1, l => (¬ col < (l * q)) ∧ posOk q col n (l * q)
def posV (q col : Int64) : Nat → Int64 → Int64 → Int32
  | 0, b, l => (((b + 1) + col) - l).toInt32
  | n + 1, b, l => posV q col n (b + l) (l * q)
theorem d8_5 : decode prog_34_method_5_code 5 = .ok (.lload 4, 2) := by decide +kernel
theorem d8_7 : decode prog_34_method_5_code 7 = .ok (.aload_n 0, 1) := by decide +kernel
theorem d8_8 : decode prog_34_method_5_code 8 = .ok (.getfield 7, 3) := by decide +kernel
theorem d8_11 : decode prog_34_method_5_code 11 = .ok (.i2l, 1) := by decide +kernel
theorem d8_12 : decode prog_34_method_5_code 12 = .ok (.lmul, 1) := by decide +kernel
theorem d8_13 : decode prog_34_method_5_code 13 = .ok (.iload_n 1, 1) := by decide +kernel
theorem d8_14 : decode prog_34_method_5_code 14 = .ok (.i2l, 1) := by decide +kernel
theorem d8_15 : decode prog_34_method_5_code 15 = .ok (.lcmp, 1) := by decide +kernel
theorem d8_16 : decode prog_34_method_5_code 16 = .ok (.ifCond .gt 21, 3) := by decide +kernel
theorem d8_37 : decode prog_34_method_5_code 37 = .ok (.lload_n 2, 1) := by decide +kernel
theorem d8_38 : decode prog_34_method_5_code 38 = .ok (.lconst 1, 1) := by decide +kernel
theorem d8_39 : decode prog_34_method_5_code 39 = .ok (.ladd, 1) := by decide +kernel
theorem d8_40 : decode prog_34_method_5_code 40 = .ok (.iload_n 1, 1) := by decide +kernel
theorem d8_41 : decode prog_34_method_5_code 41 = .ok (.i2l, 1) := by decide +kernel
theorem d8_42 : decode prog_34_method_5_code 42 = .ok (.ladd, 1) := by decide +kernel
theorem d8_43 : decode prog_34_method_5_code 43 = .ok (.lload 4, 2) := by decide +kernel
theorem d8_45 : decode prog_34_method_5_code 45 = .ok (.lsub, 1) := by decide +kernel
theorem d8_46 : decode prog_34_method_5_code 46 = .ok (.l2i, 1) := by decide +kernel
theorem d8_47 : decode prog_34_method_5_code 47 = .ok (.ireturn, 1) := by decide +kernel
theorem d8_19 : decode prog_34_method_5_code 19 = .ok (.lload_n 2, 1) := by decide +kernel
theorem d8_20 : decode prog_34_method_5_code 20 = .ok (.lload 4, 2) := by decide +kernel
theorem d8_22 : decode prog_34_method_5_code 22 = .ok (.ladd, 1) := by decide +kernel
theorem d8_23 : decode prog_34_method_5_code 23 = .ok (.lstore_n 2, 1) := by decide +kernel
theorem d8_24 : decode prog_34_method_5_code 24 = .ok (.lload 4, 2) := by decide +kernel
theorem d8_26 : decode prog_34_method_5_code 26 = .ok (.aload_n 0, 1) := by decide +kernel
theorem d8_27 : decode prog_34_method_5_code 27 = .ok (.getfield 7, 3) := by decide +kernel
theorem d8_30 : decode prog_34_method_5_code 30 = .ok (.i2l, 1) := by decide +kernel
theorem d8_31 : decode prog_34_method_5_code 31 = .ok (.lmul, 1) := by decide +kernel
theorem d8_32 : decode prog_34_method_5_code 32 = .ok (.lstore 4, 2) := by decide +kernel
theorem d8_34 : decode prog_34_method_5_code 34 = .ok (.goto (-29), 3) := by decide +kernel
set_option maxRecDepth 65536 in
set_option maxHeartbeats 40000000 in
theorem loopp {p : Program} {l : Launch} {e : Env} {s : State} {m : MethodId} {args : Array Value} {below : List Frame} {meth : Method} {c : Code} {Z : State} {a0 : Array Value} (hx : p.tables.exec = Jvm.exec) (hZ : Z.Warmed39 s.vm) (hw : ∀ d ∈ tables_1, d.before a0 Z = true) (hby : c.code = prog_34_method_5_code) (hml : c.maxLocals = 6) (hown : s.vm.findClass "com/example/bitmend/bitmend/PositionalColumns" = some m.cls) (hnm : meth.name = "position") (hret : meth.sig.returnType = some .int) (hlk : meth.locks = false) (o0 : Addr) (i1 qv : Int32) (h0 : Heap) (n0 : Nat) (F0 : Fld Z h0 o0 "com/example/bitmend/bitmend/PositionalColumns" "fieldSize" "I" (.int qv)) : ∀ (n : Nat) (T : State) (locs : List Loc) (X0 : Stand p l e ({ frames := 0, cells := 0, slots := 0, locals := 0 } : Room) s m args below meth c T locs 0 0) (N0 : Fr n0 locs) (e0 : T.heap = h0) (bf le : Int64) (hok : posOk (qv.toInt64) (i1.toInt64) n le),
    Outs p e below s (QR (some (.int (posV (qv.toInt64) (i1.toInt64) n bf le))) h0 n0) 0 0 (T.setTop (mkF m 5 #[.val (.ref o0), .val (.int i1), .val (.long bf), .second, .val (.long le), .second] [])) := by
  intro n
  induction n with
  | zero =>
    intro T locs X0 N0 e0 bf le hok
    refine Outs.of (U' := T.setTop (mkF m 8 #[.val (.ref o0), .val (.int i1), .val (.long bf), .second, .val (.long le), .second] [(.ref o0), (.long le)])) (fun t k => ?_) ?_
    · refine XS.lload X0.here hx rfl (hb hby d8_5) rfl ?_
      refine XS.aloadN X0.here hx rfl (hb hby d8_7) rfl rfl ?_
      exact k
    obtain ⟨T1, X1, e1, st1⟩ := getF X0 hx hZ hown (host := "") (Or.inl (hw _ (List.mem_of_getElem? (i := 20) rfl))) Via.refl e0 F0 (g := (mkF m 8 #[.val (.ref o0), .val (.int i1), .val (.long bf), .second, .val (.long le), .second] [(.ref o0), (.long le)])) rfl rfl (hb hby d8_8)
    refine Outs.of st1 ?_
    show Outs p e below s _ _ _ (T1.setTop (mkF m 11 #[.val (.ref o0), .val (.int i1), .val (.long bf), .second, .val (.long le), .second] [(.int qv), (.long le)]))
    refine Outs.of (U' := T1.setTop (mkF m 47 #[.val (.ref o0), .val (.int i1), .val (.long bf), .second, .val (.long le), .second] [(.int ((((bf + (1 : Int64)) + (i1.toInt64)) - le).toInt32))])) (fun t k => ?_) ?_
    · refine XS.i2l X1.here hx rfl (hb hby d8_11) rfl ?_
      refine XS.lmul X1.here hx rfl (hb hby d8_12) rfl ?_
      refine XS.iloadN X1.here hx rfl (hb hby d8_13) rfl ?_
      refine XS.i2l X1.here hx rfl (hb hby d8_14) rfl ?_
      refine XS.lcmp X1.here hx rfl (hb hby d8_15) rfl ?_
      refine XS.ifYes X1.here hx rfl (pc0 := 16) (pc' := 37) rfl (hb hby d8_16) rfl ((if0 _ _).trans (tlt ((lw_gt _ _).mpr hok)).2.2.1) (by decide) (by decide) ?_
      refine XS.lloadN X1.here hx rfl (hb hby d8_37) rfl ?_
      refine XS.lconst X1.here hx rfl (hb hby d8_38) ?_
      refine XS.ladd X1.here hx rfl (hb hby d8_39) rfl ?_
      refine XS.iloadN X1.here hx rfl (hb hby d8_40) rfl ?_
      refine XS.i2l X1.here hx rfl (hb hby d8_41) rfl ?_
      refine XS.ladd X1.here hx rfl (hb hby d8_42) rfl ?_
      refine XS.lload X1.here hx rfl (hb hby d8_43) rfl ?_
      refine XS.lsub X1.here hx rfl (hb hby d8_45) rfl ?_
      refine XS.l2i X1.here hx rfl (hb hby d8_46) rfl ?_
      exact k
    exact Outs.retI X1 hx hret (hb hby d8_47) hlk (by decide) (by decide) e1 ⟨rfl, N0, rfl⟩
  | succ n ih =>
    intro T locs X0 N0 e0 bf le hok
    refine Outs.of (U' := T.setTop (mkF m 8 #[.val (.ref o0), .val (.int i1), .val (.long bf), .second, .val (.long le), .second] [(.ref o0), (.long le)])) (fun t k => ?_) ?_
    · refine XS.lload X0.here hx rfl (hb hby d8_5) rfl ?_
      refine XS.aloadN X0.here hx rfl (hb hby d8_7) rfl rfl ?_
      exact k
    obtain ⟨T2, X2, e2, st2⟩ := getF X0 hx hZ hown (host := "") (Or.inl (hw _ (List.mem_of_getElem? (i := 20) rfl))) Via.refl e0 F0 (g := (mkF m 8 #[.val (.ref o0), .val (.int i1), .val (.long bf), .second, .val (.long le), .second] [(.ref o0), (.long le)])) rfl rfl (hb hby d8_8)
    refine Outs.of st2 ?_
    show Outs p e below s _ _ _ (T2.setTop (mkF m 11 #[.val (.ref o0), .val (.int i1), .val (.long bf), .second, .val (.long le), .second] [(.int qv), (.long le)]))
    refine Outs.of (U' := T2.setTop (mkF m 27 #[.val (.ref o0), .val (.int i1), .val (.long (bf + le)), .second, .val (.long le), .second] [(.ref o0), (.long le)])) (fun t k => ?_) ?_
    · refine XS.i2l X2.here hx rfl (hb hby d8_11) rfl ?_
      refine XS.lmul X2.here hx rfl (hb hby d8_12) rfl ?_
      refine XS.iloadN X2.here hx rfl (hb hby d8_13) rfl ?_
      refine XS.i2l X2.here hx rfl (hb hby d8_14) rfl ?_
      refine XS.lcmp X2.here hx rfl (hb hby d8_15) rfl ?_
      refine XS.ifNo X2.here hx rfl (hb hby d8_16) rfl ((if0 _ _).trans (flt (fun q_ => hok.1 ((lw_gt _ _).mp q_))).2.2.1) ?_
      refine XS.lloadN X2.here hx rfl (hb hby d8_19) rfl ?_
      refine XS.lload X2.here hx rfl (hb hby d8_20) rfl ?_
      refine XS.ladd X2.here hx rfl (hb hby d8_22) rfl ?_
      refine XS.lstoreN X2.here hx rfl (hb hby d8_23) rfl (l' := #[.val (.ref o0), .val (.int i1), .val (.long (bf + le)), .second, .val (.long le), .second]) rfl ?_
      refine XS.lload X2.here hx rfl (hb hby d8_24) rfl ?_
      refine XS.aloadN X2.here hx rfl (hb hby d8_26) rfl rfl ?_
      exact k
    obtain ⟨T3, X3, e3, st3⟩ := getF X2 hx hZ hown (host := "") (Or.inl (hw _ (List.mem_of_getElem? (i := 20) rfl))) Via.refl e2 F0 (g := (mkF m 27 #[.val (.ref o0), .val (.int i1), .val (.long (bf + le)), .second, .val (.long le), .second] [(.ref o0), (.long le)])) rfl rfl (hb hby d8_27)
    refine Outs.of st3 ?_
    show Outs p e below s _ _ _ (T3.setTop (mkF m 30 #[.val (.ref o0), .val (.int i1), .val (.long (bf + le)), .second, .val (.long le), .second] [(.int qv), (.long le)]))
    refine Outs.of (U' := T3.setTop (mkF m 5 #[.val (.ref o0), .val (.int i1), .val (.long (bf + le)), .second, .val (.long (le * (qv.toInt64))), .second] [])) (fun t k => ?_) ?_
    · refine XS.i2l X3.here hx rfl (hb hby d8_30) rfl ?_
      refine XS.lmul X3.here hx rfl (hb hby d8_31) rfl ?_
      refine XS.lstore X3.here hx rfl (hb hby d8_32) rfl (l' := #[.val (.ref o0), .val (.int i1), .val (.long (bf + le)), .second, .val (.long (le * (qv.toInt64))), .second]) rfl ?_
      refine XS.goto X3.here hx rfl (pc0 := 34) (pc' := 5) rfl (hb hby d8_34) (by decide) (by decide) ?_
      exact k
    exact ih T3 locs X3 N0 e3 (bf + le) (le * (qv.toInt64)) hok.2
theorem ef_8 (m : MethodId) (x0 : Addr) (x1 : Int32) : entryFrame m #[(.ref x0), (.int x1)] 6 = mkF m 0 #[.val (.ref x0), .val (.int x1), .unset, .unset, .unset, .unset] [] := by first | (simp [entryFrame, mkF, argsToLocals, Value.category]; done) | rfl
theorem d8_0 : decode prog_34_method_5_code 0 = .ok (.lconst 0, 1) := by decide +kernel
theorem d8_1 : decode prog_34_method_5_code 1 = .ok (.lstore_n 2, 1) := by decide +kernel
theorem d8_2 : decode prog_34_method_5_code 2 = .ok (.lconst 1, 1) := by decide +kernel
theorem d8_3 : decode prog_34_method_5_code 3 = .ok (.lstore 4, 2) := by decide +kernel
def F_f8 (i1 : Int32) (qv : Int32) (E : Nat) : Int32 := (posV (qv.toInt64) (i1.toInt64) E (0 : Int64) (1 : Int64))
set_option maxRecDepth 65536 in
set_option maxHeartbeats 40000000 in
theorem rm8 (l : Launch) (Z : State) (a0 : Array Value) (hw : ∀ d ∈ tables_1, d.before a0 Z = true) (ws : List Jvm.Cond) (o0 : Addr) (i1 : Int32) (qv : Int32) (E : Nat) (h0 : Heap) (n0 : Nat) (F_o0_fieldSize : Fld Z h0 o0 "com/example/bitmend/bitmend/PositionalColumns" "fieldSize" "I" (.int qv)) (hok : posOk (qv.toInt64) (i1.toInt64) E 1) :
    MetFree l (⟨"com/example/bitmend/bitmend/PositionalColumns", "position", "(I)I"⟩ : MethodName) (head1 (Jvm.Cond.code (⟨"com/example/bitmend/bitmend/PositionalColumns", "position", "(I)I"⟩ : MethodName) prog_34_method_5_code 6 (some .int) :: ws) ({ frames := 0, cells := 0, slots := 0, locals := 0 } : Room)) (fun a U => a = #[(.ref o0), (.int i1)] ∧ Z.Warmed39 U.vm ∧ U.heap = h0) (fun _ _ _ _ _ => True) (fun _ U o U' => ∃ v L, o = .returned v ∧ QR (some (.int (F_f8 i1 qv E))) h0 n0 v U'.heap L ∧ FrameEnd U o U' L ({ frames := 0, cells := 0, slots := 0, locals := 0 } : Room).cells ({ frames := 0, cells := 0, slots := 0, locals := 0 } : Room).slots) := by
  refine MetFree.of_bodySF (plainFor_of_name pn_3) hisR ?_
  intro p e s m args below meth c s₁ Bd hml0 hP hK
  obtain ⟨rfl, hZ, hh⟩ := hP
  have hx := Bd.exec
  have hby := Bd.bytes
  have hml : c.maxLocals = 6 := hml0
  have hown : s.vm.findClass "com/example/bitmend/bitmend/PositionalColumns" = some m.cls := findClass_of_methodNamed Bd.named
  have hnm := (name_of_methodNamed Bd.named Bd.method).1
  have hret := Bd.returns
  have hlk : meth.locks = false := BodyLoose.notSynchronized Bd
  have X0 : Stand p l e ({ frames := 0, cells := 0, slots := 0, locals := 0 } : Room) s m #[(.ref o0), (.int i1)] below meth c s₁ [] 0 0 := Stand.of_body Bd
  have e0 : s₁.heap = h0 := by rw [← hh, Bd.state]; rfl
  have N0 := Fr.nil n0
  show Outs p e below s (QR (some (.int (F_f8 i1 qv E))) h0 n0) _ _ _
  refine Outs.of (U' := s₁.setTop (mkF m 0 #[.val (.ref o0), .val (.int i1), .unset, .unset, .unset, .unset] [])) (fun t k => castTop (ef_8 m o0 i1) k) ?_
  refine Outs.of (U' := s₁.setTop (mkF m 5 #[.val (.ref o0), .val (.int i1), .val (.long (0 : Int64)), .second, .val (.long (1 : Int64)), .second] [])) (fun t k => ?_) ?_
  · refine XS.lconst X0.here hx rfl (hb hby d8_0) ?_
    refine XS.lstoreN X0.here hx rfl (hb hby d8_1) rfl (l' := #[.val (.ref o0), .val (.int i1), .val (.long (0 : Int64)), .second, .unset, .unset]) rfl ?_
    refine XS.lconst X0.here hx rfl (hb hby d8_2) ?_
    refine XS.lstore X0.here hx rfl (hb hby d8_3) rfl (l' := #[.val (.ref o0), .val (.int i1), .val (.long (0 : Int64)), .second, .val (.long (1 : Int64)), .second]) rfl ?_
    exact k
  rw [show (F_f8 i1 qv E) = (posV (qv.toInt64) (i1.toInt64) E (0 : Int64) (1 : Int64)) from rfl]
  exact loopp hx hZ hw hby hml hown hnm hret hlk o0 i1 qv h0 n0 F_o0_fieldSize _ s₁ _ X0 N0 e0 0 1 hok
theorem ef_1 (m : MethodId) (x0 : Int32) (x1 : Int32) : entryFrame m #[(.int x0), (.int x1)] 6 = mkF m 0 #[.val (.int x0), .val (.int x1), .unset, .unset, .unset, .unset] [] := by first | (simp [entryFrame, mkF, argsToLocals, Value.category]; done) | rfl
theorem d1_0 : decode method_2_code 0 = .ok (.lconst 1, 1) := by decide +kernel
theorem d1_1 : decode method_2_code 1 = .ok (.lstore_n 2, 1) := by decide +kernel
theorem d1_2 : decode method_2_code 2 = .ok (.iload_n 0, 1) := by decide +kernel
theorem d1_3 : decode method_2_code 3 = .ok (.i2l, 1) := by decide +kernel
theorem d1_4 : decode method_2_code 4 = .ok (.lstore 4, 2) := by decide +kernel
theorem d1_6 : decode method_2_code 6 = .ok (.iload_n 1, 1) := by decide +kernel
theorem d1_7 : decode method_2_code 7 = .ok (.iconst 1, 1) := by decide +kernel
theorem d1_8 : decode method_2_code 8 = .ok (.iand, 1) := by decide +kernel
theorem d1_9 : decode method_2_code 9 = .ok (.ifCond .eq 8, 3) := by decide +kernel
theorem d1_12 : decode method_2_code 12 = .ok (.lload_n 2, 1) := by decide +kernel
theorem d1_13 : decode method_2_code 13 = .ok (.lload 4, 2) := by decide +kernel
theorem d1_15 : decode method_2_code 15 = .ok (.lmul, 1) := by decide +kernel
theorem d1_16 : decode method_2_code 16 = .ok (.lstore_n 2, 1) := by decide +kernel
theorem d1_17 : decode method_2_code 17 = .ok (.lload 4, 2) := by decide +kernel
theorem d1_19 : decode method_2_code 19 = .ok (.lload 4, 2) := by decide +kernel
theorem d1_21 : decode method_2_code 21 = .ok (.lmul, 1) := by decide +kernel
theorem d1_22 : decode method_2_code 22 = .ok (.lstore 4, 2) := by decide +kernel
theorem d1_24 : decode method_2_code 24 = .ok (.iload_n 1, 1) := by decide +kernel
theorem d1_25 : decode method_2_code 25 = .ok (.iconst 2, 1) := by decide +kernel
theorem d1_26 : decode method_2_code 26 = .ok (.iand, 1) := by decide +kernel
theorem d1_27 : decode method_2_code 27 = .ok (.ifCond .eq 8, 3) := by decide +kernel
theorem d1_30 : decode method_2_code 30 = .ok (.lload_n 2, 1) := by decide +kernel
theorem d1_31 : decode method_2_code 31 = .ok (.lload 4, 2) := by decide +kernel
theorem d1_33 : decode method_2_code 33 = .ok (.lmul, 1) := by decide +kernel
theorem d1_34 : decode method_2_code 34 = .ok (.lstore_n 2, 1) := by decide +kernel
theorem d1_35 : decode method_2_code 35 = .ok (.lload 4, 2) := by decide +kernel
theorem d1_37 : decode method_2_code 37 = .ok (.lload 4, 2) := by decide +kernel
theorem d1_39 : decode method_2_code 39 = .ok (.lmul, 1) := by decide +kernel
theorem d1_40 : decode method_2_code 40 = .ok (.lstore 4, 2) := by decide +kernel
theorem d1_42 : decode method_2_code 42 = .ok (.iload_n 1, 1) := by decide +kernel
theorem d1_43 : decode method_2_code 43 = .ok (.iconst 4, 1) := by decide +kernel
theorem d1_44 : decode method_2_code 44 = .ok (.iand, 1) := by decide +kernel
theorem d1_45 : decode method_2_code 45 = .ok (.ifCond .eq 8, 3) := by decide +kernel
theorem d1_48 : decode method_2_code 48 = .ok (.lload_n 2, 1) := by decide +kernel
theorem d1_49 : decode method_2_code 49 = .ok (.lload 4, 2) := by decide +kernel
theorem d1_51 : decode method_2_code 51 = .ok (.lmul, 1) := by decide +kernel
theorem d1_52 : decode method_2_code 52 = .ok (.lstore_n 2, 1) := by decide +kernel
theorem d1_53 : decode method_2_code 53 = .ok (.lload 4, 2) := by decide +kernel
theorem d1_55 : decode method_2_code 55 = .ok (.lload 4, 2) := by decide +kernel
theorem d1_57 : decode method_2_code 57 = .ok (.lmul, 1) := by decide +kernel
theorem d1_58 : decode method_2_code 58 = .ok (.lstore 4, 2) := by decide +kernel
theorem d1_60 : decode method_2_code 60 = .ok (.iload_n 1, 1) := by decide +kernel
theorem d1_61 : decode method_2_code 61 = .ok (.bipush 8, 2) := by decide +kernel
theorem d1_63 : decode method_2_code 63 = .ok (.iand, 1) := by decide +kernel
theorem d1_64 : decode method_2_code 64 = .ok (.ifCond .eq 8, 3) := by decide +kernel
theorem d1_67 : decode method_2_code 67 = .ok (.lload_n 2, 1) := by decide +kernel
theorem d1_68 : decode method_2_code 68 = .ok (.lload 4, 2) := by decide +kernel
theorem d1_70 : decode method_2_code 70 = .ok (.lmul, 1) := by decide +kernel
theorem d1_71 : decode method_2_code 71 = .ok (.lstore_n 2, 1) := by decide +kernel
theorem d1_72 : decode method_2_code 72 = .ok (.lload 4, 2) := by decide +kernel
theorem d1_74 : decode method_2_code 74 = .ok (.lload 4, 2) := by decide +kernel
theorem d1_76 : decode method_2_code 76 = .ok (.lmul, 1) := by decide +kernel
theorem d1_77 : decode method_2_code 77 = .ok (.lstore 4, 2) := by decide +kernel
theorem d1_79 : decode method_2_code 79 = .ok (.iload_n 1, 1) := by decide +kernel
theorem d1_80 : decode method_2_code 80 = .ok (.bipush 16, 2) := by decide +kernel
theorem d1_82 : decode method_2_code 82 = .ok (.iand, 1) := by decide +kernel
theorem d1_83 : decode method_2_code 83 = .ok (.ifCond .eq 8, 3) := by decide +kernel
theorem d1_86 : decode method_2_code 86 = .ok (.lload_n 2, 1) := by decide +kernel
theorem d1_87 : decode method_2_code 87 = .ok (.lload 4, 2) := by decide +kernel
theorem d1_89 : decode method_2_code 89 = .ok (.lmul, 1) := by decide +kernel
theorem d1_90 : decode method_2_code 90 = .ok (.lstore_n 2, 1) := by decide +kernel
theorem d1_91 : decode method_2_code 91 = .ok (.lload_n 2, 1) := by decide +kernel
theorem d1_92 : decode method_2_code 92 = .ok (.lreturn, 1) := by decide +kernel
theorem pn_0 : plainName "com/example/bitmend/bitmend/PositionalColumnsPositionPinLaw" = true := by first | (simp [plainName, overriddenIn]; done) | decide +kernel
def f1_9_l2 (i0 : Int32) (i1 : Int32) : Int64 := (if (i1 &&& (1 : Int32)) = (0 : Int32) then (1 : Int64) else ((1 : Int64) * (i0.toInt64)))
def f1_27_l2 (i0 : Int32) (i1 : Int32) : Int64 := (if (i1 &&& (2 : Int32)) = (0 : Int32) then (f1_9_l2 i0 i1) else ((f1_9_l2 i0 i1) * ((i0.toInt64) * (i0.toInt64))))
def f1_v40 (i0 : Int32) (i1 : Int32) : Int64 := (((i0.toInt64) * (i0.toInt64)) * ((i0.toInt64) * (i0.toInt64)))
def f1_45_l2 (i0 : Int32) (i1 : Int32) : Int64 := (if (i1 &&& (4 : Int32)) = (0 : Int32) then (f1_27_l2 i0 i1) else ((f1_27_l2 i0 i1) * (f1_v40 i0 i1)))
def f1_64_l2 (i0 : Int32) (i1 : Int32) : Int64 := (if (i1 &&& (8 : Int32)) = (0 : Int32) then (f1_45_l2 i0 i1) else ((f1_45_l2 i0 i1) * ((f1_v40 i0 i1) * (f1_v40 i0 i1))))
def f1_v77 (i0 : Int32) (i1 : Int32) : Int64 := (((f1_v40 i0 i1) * (f1_v40 i0 i1)) * ((f1_v40 i0 i1) * (f1_v40 i0 i1)))
def f1_83_l2 (i0 : Int32) (i1 : Int32) : Int64 := (if (i1 &&& (16 : Int32)) = (0 : Int32) then (f1_64_l2 i0 i1) else ((f1_64_l2 i0 i1) * (f1_v77 i0 i1)))
def F_f1 (i0 : Int32) (i1 : Int32) : Int64 := (f1_83_l2 i0 i1)
set_option maxRecDepth 65536 in
set_option maxHeartbeats 40000000 in
theorem rm1 (l : Launch) (Z : State) (a0 : Array Value) (hw : ∀ d ∈ tables_1, d.before a0 Z = true) (ws : List Jvm.Cond) (i0 : Int32) (i1 : Int32)  (h0 : Heap) (n0 : Nat)  :
    MetFree l (⟨"com/example/bitmend/bitmend/PositionalColumnsPositionPinLaw", "power", "(II)J"⟩ : MethodName) (head1 (Jvm.Cond.code (⟨"com/example/bitmend/bitmend/PositionalColumnsPositionPinLaw", "power", "(II)J"⟩ : MethodName) method_2_code 6 (some .long) :: ws) ({ frames := 0, cells := 0, slots := 0, locals := 0 } : Room)) (fun a U => a = #[(.int i0), (.int i1)] ∧ Z.Warmed39 U.vm ∧ U.heap = h0) (fun _ _ _ _ _ => True) (fun _ U o U' => ∃ v L, o = .returned v ∧ QR (some (.long (F_f1 i0 i1))) h0 n0 v U'.heap L ∧ FrameEnd U o U' L ({ frames := 0, cells := 0, slots := 0, locals := 0 } : Room).cells ({ frames := 0, cells := 0, slots := 0, locals := 0 } : Room).slots) := by
  refine MetFree.of_bodySF (plainFor_of_name pn_0) hisR ?_
  intro p e s m args below meth c s₁ Bd hml0 hP hK
  obtain ⟨rfl, hZ, hh⟩ := hP
  have hx := Bd.exec
  have hby := Bd.bytes
  have hml : c.maxLocals = 6 := hml0
  have hown : s.vm.findClass "com/example/bitmend/bitmend/PositionalColumnsPositionPinLaw" = some m.cls := findClass_of_methodNamed Bd.named
  have hnm := (name_of_methodNamed Bd.named Bd.method).1
  have hret := Bd.returns
  have hlk : meth.locks = false := BodyLoose.notSynchronized Bd
  have X0 : Stand p l e ({ frames := 0, cells := 0, slots := 0, locals := 0 } : Room) s m #[(.int i0), (.int i1)] below meth c s₁ [] 0 0 := Stand.of_body Bd
  have e0 : s₁.heap = h0 := by rw [← hh, Bd.state]; rfl
  have N0 := Fr.nil n0
  show Outs p e below s (QR (some (.long (F_f1 i0 i1))) h0 n0) _ _ _
  refine Outs.of (U' := s₁.setTop (mkF m 0 #[.val (.int i0), .val (.int i1), .unset, .unset, .unset, .unset] [])) (fun t k => castTop (ef_1 m i0 i1) k) ?_
  refine Outs.of (U' := s₁.setTop (mkF m 17 #[.val (.int i0), .val (.int i1), .val (.long (f1_9_l2 i0 i1)), .second, .val (.long (i0.toInt64)), .second] [])) (fun t k => ?_) ?_
  · refine XS.lconst X0.here hx rfl (hb hby d1_0) ?_
    refine XS.lstoreN X0.here hx rfl (hb hby d1_1) rfl (l' := #[.val (.int i0), .val (.int i1), .val (.long (1 : Int64)), .second, .unset, .unset]) rfl ?_
    refine XS.iloadN X0.here hx rfl (hb hby d1_2) rfl ?_
    refine XS.i2l X0.here hx rfl (hb hby d1_3) rfl ?_
    refine XS.lstore X0.here hx rfl (hb hby d1_4) rfl (l' := #[.val (.int i0), .val (.int i1), .val (.long (1 : Int64)), .second, .val (.long (i0.toInt64)), .second]) rfl ?_
    refine XS.iloadN X0.here hx rfl (hb hby d1_6) rfl ?_
    refine XS.iconst X0.here hx rfl (hb hby d1_7) ?_
    refine XS.iand X0.here hx rfl (hb hby d1_8) rfl ?_
    by_cases hc9 : (i1 &&& (1 : Int32)) = (0 : Int32)
    · refine XS.ifYes X0.here hx rfl (pc0 := 9) (pc' := 17) rfl (hb hby d1_9) rfl ((if0 _ _).trans (teq hc9).1) (by decide) (by decide) ?_
      rw [show (f1_9_l2 i0 i1) = (1 : Int64) from (if_pos hc9)] at k
      exact k
    · refine XS.ifNo X0.here hx rfl (hb hby d1_9) rfl ((if0 _ _).trans (feq hc9).1) ?_
      refine XS.lloadN X0.here hx rfl (hb hby d1_12) rfl ?_
      refine XS.lload X0.here hx rfl (hb hby d1_13) rfl ?_
      refine XS.lmul X0.here hx rfl (hb hby d1_15) rfl ?_
      refine XS.lstoreN X0.here hx rfl (hb hby d1_16) rfl (l' := #[.val (.int i0), .val (.int i1), .val (.long ((1 : Int64) * (i0.toInt64))), .second, .val (.long (i0.toInt64)), .second]) rfl ?_
      rw [show (f1_9_l2 i0 i1) = ((1 : Int64) * (i0.toInt64)) from (if_neg hc9)] at k
      exact k
  refine Outs.of (U' := s₁.setTop (mkF m 35 #[.val (.int i0), .val (.int i1), .val (.long (f1_27_l2 i0 i1)), .second, .val (.long ((i0.toInt64) * (i0.toInt64))), .second] [])) (fun t k => ?_) ?_
  · refine XS.lload X0.here hx rfl (hb hby d1_17) rfl ?_
    refine XS.lload X0.here hx rfl (hb hby d1_19) rfl ?_
    refine XS.lmul X0.here hx rfl (hb hby d1_21) rfl ?_
    refine XS.lstore X0.here hx rfl (hb hby d1_22) rfl (l' := #[.val (.int i0), .val (.int i1), .val (.long (f1_9_l2 i0 i1)), .second, .val (.long ((i0.toInt64) * (i0.toInt64))), .second]) rfl ?_
    refine XS.iloadN X0.here hx rfl (hb hby d1_24) rfl ?_
    refine XS.iconst X0.here hx rfl (hb hby d1_25) ?_
    refine XS.iand X0.here hx rfl (hb hby d1_26) rfl ?_
    by_cases hc27 : (i1 &&& (2 : Int32)) = (0 : Int32)
    · refine XS.ifYes X0.here hx rfl (pc0 := 27) (pc' := 35) rfl (hb hby d1_27) rfl ((if0 _ _).trans (teq hc27).1) (by decide) (by decide) ?_
      rw [show (f1_27_l2 i0 i1) = (f1_9_l2 i0 i1) from (if_pos hc27)] at k
      exact k
    · refine XS.ifNo X0.here hx rfl (hb hby d1_27) rfl ((if0 _ _).trans (feq hc27).1) ?_
      refine XS.lloadN X0.here hx rfl (hb hby d1_30) rfl ?_
      refine XS.lload X0.here hx rfl (hb hby d1_31) rfl ?_
      refine XS.lmul X0.here hx rfl (hb hby d1_33) rfl ?_
      refine XS.lstoreN X0.here hx rfl (hb hby d1_34) rfl (l' := #[.val (.int i0), .val (.int i1), .val (.long ((f1_9_l2 i0 i1) * ((i0.toInt64) * (i0.toInt64)))), .second, .val (.long ((i0.toInt64) * (i0.toInt64))), .second]) rfl ?_
      rw [show (f1_27_l2 i0 i1) = ((f1_9_l2 i0 i1) * ((i0.toInt64) * (i0.toInt64))) from (if_neg hc27)] at k
      exact k
  refine Outs.of (U' := s₁.setTop (mkF m 53 #[.val (.int i0), .val (.int i1), .val (.long (f1_45_l2 i0 i1)), .second, .val (.long (f1_v40 i0 i1)), .second] [])) (fun t k => ?_) ?_
  · refine XS.lload X0.here hx rfl (hb hby d1_35) rfl ?_
    refine XS.lload X0.here hx rfl (hb hby d1_37) rfl ?_
    refine XS.lmul X0.here hx rfl (hb hby d1_39) rfl ?_
    refine XS.lstore X0.here hx rfl (hb hby d1_40) rfl (l' := #[.val (.int i0), .val (.int i1), .val (.long (f1_27_l2 i0 i1)), .second, .val (.long (f1_v40 i0 i1)), .second]) rfl ?_
    refine XS.iloadN X0.here hx rfl (hb hby d1_42) rfl ?_
    refine XS.iconst X0.here hx rfl (hb hby d1_43) ?_
    refine XS.iand X0.here hx rfl (hb hby d1_44) rfl ?_
    by_cases hc45 : (i1 &&& (4 : Int32)) = (0 : Int32)
    · refine XS.ifYes X0.here hx rfl (pc0 := 45) (pc' := 53) rfl (hb hby d1_45) rfl ((if0 _ _).trans (teq hc45).1) (by decide) (by decide) ?_
      rw [show (f1_45_l2 i0 i1) = (f1_27_l2 i0 i1) from (if_pos hc45)] at k
      exact k
    · refine XS.ifNo X0.here hx rfl (hb hby d1_45) rfl ((if0 _ _).trans (feq hc45).1) ?_
      refine XS.lloadN X0.here hx rfl (hb hby d1_48) rfl ?_
      refine XS.lload X0.here hx rfl (hb hby d1_49) rfl ?_
      refine XS.lmul X0.here hx rfl (hb hby d1_51) rfl ?_
      refine XS.lstoreN X0.here hx rfl (hb hby d1_52) rfl (l' := #[.val (.int i0), .val (.int i1), .val (.long ((f1_27_l2 i0 i1) * (f1_v40 i0 i1))), .second, .val (.long (f1_v40 i0 i1)), .second]) rfl ?_
      rw [show (f1_45_l2 i0 i1) = ((f1_27_l2 i0 i1) * (f1_v40 i0 i1)) from (if_neg hc45)] at k
      exact k
  refine Outs.of (U' := s₁.setTop (mkF m 72 #[.val (.int i0), .val (.int i1), .val (.long (f1_64_l2 i0 i1)), .second, .val (.long ((f1_v40 i0 i1) * (f1_v40 i0 i1))), .second] [])) (fun t k => ?_) ?_
  · refine XS.lload X0.here hx rfl (hb hby d1_53) rfl ?_
    refine XS.lload X0.here hx rfl (hb hby d1_55) rfl ?_
    refine XS.lmul X0.here hx rfl (hb hby d1_57) rfl ?_
    refine XS.lstore X0.here hx rfl (hb hby d1_58) rfl (l' := #[.val (.int i0), .val (.int i1), .val (.long (f1_45_l2 i0 i1)), .second, .val (.long ((f1_v40 i0 i1) * (f1_v40 i0 i1))), .second]) rfl ?_
    refine XS.iloadN X0.here hx rfl (hb hby d1_60) rfl ?_
    refine XS.bipush X0.here hx rfl (hb hby d1_61) ?_
    refine XS.iand X0.here hx rfl (hb hby d1_63) rfl ?_
    by_cases hc64 : (i1 &&& (8 : Int32)) = (0 : Int32)
    · refine XS.ifYes X0.here hx rfl (pc0 := 64) (pc' := 72) rfl (hb hby d1_64) rfl ((if0 _ _).trans (teq hc64).1) (by decide) (by decide) ?_
      rw [show (f1_64_l2 i0 i1) = (f1_45_l2 i0 i1) from (if_pos hc64)] at k
      exact k
    · refine XS.ifNo X0.here hx rfl (hb hby d1_64) rfl ((if0 _ _).trans (feq hc64).1) ?_
      refine XS.lloadN X0.here hx rfl (hb hby d1_67) rfl ?_
      refine XS.lload X0.here hx rfl (hb hby d1_68) rfl ?_
      refine XS.lmul X0.here hx rfl (hb hby d1_70) rfl ?_
      refine XS.lstoreN X0.here hx rfl (hb hby d1_71) rfl (l' := #[.val (.int i0), .val (.int i1), .val (.long ((f1_45_l2 i0 i1) * ((f1_v40 i0 i1) * (f1_v40 i0 i1)))), .second, .val (.long ((f1_v40 i0 i1) * (f1_v40 i0 i1))), .second]) rfl ?_
      rw [show (f1_64_l2 i0 i1) = ((f1_45_l2 i0 i1) * ((f1_v40 i0 i1) * (f1_v40 i0 i1))) from (if_neg hc64)] at k
      exact k
  refine Outs.of (U' := s₁.setTop (mkF m 91 #[.val (.int i0), .val (.int i1), .val (.long (f1_83_l2 i0 i1)), .second, .val (.long (f1_v77 i0 i1)), .second] [])) (fun t k => ?_) ?_
  · refine XS.lload X0.here hx rfl (hb hby d1_72) rfl ?_
    refine XS.lload X0.here hx rfl (hb hby d1_74) rfl ?_
    refine XS.lmul X0.here hx rfl (hb hby d1_76) rfl ?_
    refine XS.lstore X0.here hx rfl (hb hby d1_77) rfl (l' := #[.val (.int i0), .val (.int i1), .val (.long (f1_64_l2 i0 i1)), .second, .val (.long (f1_v77 i0 i1)), .second]) rfl ?_
    refine XS.iloadN X0.here hx rfl (hb hby d1_79) rfl ?_
    refine XS.bipush X0.here hx rfl (hb hby d1_80) ?_
    refine XS.iand X0.here hx rfl (hb hby d1_82) rfl ?_
    by_cases hc83 : (i1 &&& (16 : Int32)) = (0 : Int32)
    · refine XS.ifYes X0.here hx rfl (pc0 := 83) (pc' := 91) rfl (hb hby d1_83) rfl ((if0 _ _).trans (teq hc83).1) (by decide) (by decide) ?_
      rw [show (f1_83_l2 i0 i1) = (f1_64_l2 i0 i1) from (if_pos hc83)] at k
      exact k
    · refine XS.ifNo X0.here hx rfl (hb hby d1_83) rfl ((if0 _ _).trans (feq hc83).1) ?_
      refine XS.lloadN X0.here hx rfl (hb hby d1_86) rfl ?_
      refine XS.lload X0.here hx rfl (hb hby d1_87) rfl ?_
      refine XS.lmul X0.here hx rfl (hb hby d1_89) rfl ?_
      refine XS.lstoreN X0.here hx rfl (hb hby d1_90) rfl (l' := #[.val (.int i0), .val (.int i1), .val (.long ((f1_64_l2 i0 i1) * (f1_v77 i0 i1))), .second, .val (.long (f1_v77 i0 i1)), .second]) rfl ?_
      rw [show (f1_83_l2 i0 i1) = ((f1_64_l2 i0 i1) * (f1_v77 i0 i1)) from (if_neg hc83)] at k
      exact k
  refine Outs.of (U' := s₁.setTop (mkF m 92 #[.val (.int i0), .val (.int i1), .val (.long (f1_83_l2 i0 i1)), .second, .val (.long (f1_v77 i0 i1)), .second] [(.long (f1_83_l2 i0 i1))])) (fun t k => ?_) ?_
  · refine XS.lloadN X0.here hx rfl (hb hby d1_91) rfl ?_
    exact k
  exact Outs.retL X0 hx hret (hb hby d1_92) hlk (by decide) (by decide) e0 ⟨congrArg (fun z_ => some (Value.long z_)) (show (F_f1 i0 i1) = (f1_83_l2 i0 i1) from rfl).symm, N0, rfl⟩
theorem ef_2 (m : MethodId) (x0 : Int64) (x1 : Int64) : entryFrame m #[(.long x0), (.long x1)] 4 = mkF m 0 #[.val (.long x0), .second, .val (.long x1), .second] [] := by first | (simp [entryFrame, mkF, argsToLocals, Value.category]; done) | rfl
theorem d2_0 : decode jdk_29_method_70_code 0 = .ok (.lload_n 0, 1) := by decide +kernel
theorem d2_1 : decode jdk_29_method_70_code 1 = .ok (.lload_n 2, 1) := by decide +kernel
theorem d2_2 : decode jdk_29_method_70_code 2 = .ok (.lcmp, 1) := by decide +kernel
theorem d2_3 : decode jdk_29_method_70_code 3 = .ok (.ifCond .gt 7, 3) := by decide +kernel
theorem d2_10 : decode jdk_29_method_70_code 10 = .ok (.lload_n 2, 1) := by decide +kernel
theorem d2_6 : decode jdk_29_method_70_code 6 = .ok (.lload_n 0, 1) := by decide +kernel
theorem d2_7 : decode jdk_29_method_70_code 7 = .ok (.goto 4, 3) := by decide +kernel
theorem d2_11 : decode jdk_29_method_70_code 11 = .ok (.lreturn, 1) := by decide +kernel
def f2_3_s0 (j0 : Int64) (j1 : Int64) : Int64 := (if j1 < j0 then j1 else j0)
def F_f2 (j0 : Int64) (j1 : Int64) : Int64 := (f2_3_s0 j0 j1)
set_option maxRecDepth 65536 in
set_option maxHeartbeats 40000000 in
theorem rm2 (l : Launch) (Z : State) (a0 : Array Value) (hw : ∀ d ∈ tables_1, d.before a0 Z = true) (ws : List Jvm.Cond) (j0 : Int64) (j1 : Int64)  (h0 : Heap) (n0 : Nat)  :
    MetFree l (⟨"java/lang/Math", "min", "(JJ)J"⟩ : MethodName) (head1 (Jvm.Cond.code (⟨"java/lang/Math", "min", "(JJ)J"⟩ : MethodName) jdk_29_method_70_code 4 (some .long) :: ws) ({ frames := 0, cells := 0, slots := 0, locals := 0 } : Room)) (fun a U => a = #[(.long j0), (.long j1)] ∧ Z.Warmed39 U.vm ∧ U.heap = h0) (fun _ _ _ _ _ => True) (fun _ U o U' => ∃ v L, o = .returned v ∧ QR (some (.long (F_f2 j0 j1))) h0 n0 v U'.heap L ∧ FrameEnd U o U' L ({ frames := 0, cells := 0, slots := 0, locals := 0 } : Room).cells ({ frames := 0, cells := 0, slots := 0, locals := 0 } : Room).slots) := by
  refine MetFree.of_bodySF (Jvm.Free.JP.mathPlain rfl (by decide +kernel)) hisR ?_
  intro p e s m args below meth c s₁ Bd hml0 hP hK
  obtain ⟨rfl, hZ, hh⟩ := hP
  have hx := Bd.exec
  have hby := Bd.bytes
  have hml : c.maxLocals = 4 := hml0
  have hown : s.vm.findClass "java/lang/Math" = some m.cls := findClass_of_methodNamed Bd.named
  have hnm := (name_of_methodNamed Bd.named Bd.method).1
  have hret := Bd.returns
  have hlk : meth.locks = false := BodyLoose.notSynchronized Bd
  have X0 : Stand p l e ({ frames := 0, cells := 0, slots := 0, locals := 0 } : Room) s m #[(.long j0), (.long j1)] below meth c s₁ [] 0 0 := Stand.of_body Bd
  have e0 : s₁.heap = h0 := by rw [← hh, Bd.state]; rfl
  have N0 := Fr.nil n0
  show Outs p e below s (QR (some (.long (F_f2 j0 j1))) h0 n0) _ _ _
  refine Outs.of (U' := s₁.setTop (mkF m 0 #[.val (.long j0), .second, .val (.long j1), .second] [])) (fun t k => castTop (ef_2 m j0 j1) k) ?_
  refine Outs.of (U' := s₁.setTop (mkF m 11 #[.val (.long j0), .second, .val (.long j1), .second] [(.long (f2_3_s0 j0 j1))])) (fun t k => ?_) ?_
  · refine XS.lloadN X0.here hx rfl (hb hby d2_0) rfl ?_
    refine XS.lloadN X0.here hx rfl (hb hby d2_1) rfl ?_
    refine XS.lcmp X0.here hx rfl (hb hby d2_2) rfl ?_
    by_cases hc3 : j1 < j0
    · refine XS.ifYes X0.here hx rfl (pc0 := 3) (pc' := 10) rfl (hb hby d2_3) rfl ((if0 _ _).trans (tlt ((lw_gt _ _).mpr hc3)).2.2.1) (by decide) (by decide) ?_
      refine XS.lloadN X0.here hx rfl (hb hby d2_10) rfl ?_
      rw [show (f2_3_s0 j0 j1) = j1 from (if_pos hc3)] at k
      exact k
    · refine XS.ifNo X0.here hx rfl (hb hby d2_3) rfl ((if0 _ _).trans (flt (fun q_ => hc3 ((lw_gt _ _).mp q_))).2.2.1) ?_
      refine XS.lloadN X0.here hx rfl (hb hby d2_6) rfl ?_
      refine XS.goto X0.here hx rfl (pc0 := 7) (pc' := 11) rfl (hb hby d2_7) (by decide) (by decide) ?_
      rw [show (f2_3_s0 j0 j1) = j0 from (if_neg hc3)] at k
      exact k
  exact Outs.retL X0 hx hret (hb hby d2_11) hlk (by decide) (by decide) e0 ⟨congrArg (fun z_ => some (Value.long z_)) (show (F_f2 j0 j1) = (f2_3_s0 j0 j1) from rfl).symm, N0, rfl⟩
def own_e2 (i1 : Int32) : Nat := ((i1 &&& (2147483647 : Int32)) % (31 : Int32)).toInt.toNat
def own_e3 (i1 : Int32) : Nat := ((i1 &&& (2147483647 : Int32)) % (20 : Int32)).toInt.toNat
def own_e5 (i1 : Int32) : Nat := ((i1 &&& (2147483647 : Int32)) % (14 : Int32)).toInt.toNat
def own_e7 (i1 : Int32) : Nat := ((i1 &&& (2147483647 : Int32)) % (12 : Int32)).toInt.toNat
def f0_v74 (i0 : Int32) (i1 : Int32) (i2 : Int32) : Int64 := (F_f1 (2 : Int32) ((i1 &&& (2147483647 : Int32)) % (31 : Int32)))
def f0_v87 (i0 : Int32) (i1 : Int32) (i2 : Int32) : Int64 := (F_f2 (f0_v74 i0 i1 i2) ((2147483648 : Int64) - (f0_v74 i0 i1 i2)))
def f0_v101 (i0 : Int32) (i1 : Int32) (i2 : Int32) : Int64 := ((f0_v74 i0 i1 i2) + (((i2.toInt64) &&& (2147483647 : Int64)) % (f0_v87 i0 i1 i2)))
def f0_v142 (i0 : Int32) (i1 : Int32) (i2 : Int32) : Int64 := (((((f0_v74 i0 i1 i2) - (1 : Int64)) / (1 : Int64)) + (1 : Int64)) + ((f0_v101 i0 i1 i2) - (f0_v74 i0 i1 i2)))
def f0_v74a (i0 : Int32) (i1 : Int32) (i2 : Int32) : Int64 := (F_f1 (3 : Int32) ((i1 &&& (2147483647 : Int32)) % (20 : Int32)))
def f0_v87a (i0 : Int32) (i1 : Int32) (i2 : Int32) : Int64 := (F_f2 (f0_v74a i0 i1 i2) ((2147483648 : Int64) - (f0_v74a i0 i1 i2)))
def f0_v101a (i0 : Int32) (i1 : Int32) (i2 : Int32) : Int64 := ((f0_v74a i0 i1 i2) + (((i2.toInt64) &&& (2147483647 : Int64)) % (f0_v87a i0 i1 i2)))
def f0_v142a (i0 : Int32) (i1 : Int32) (i2 : Int32) : Int64 := (((((f0_v74a i0 i1 i2) - (1 : Int64)) / (2 : Int64)) + (1 : Int64)) + ((f0_v101a i0 i1 i2) - (f0_v74a i0 i1 i2)))
def f0_v74b (i0 : Int32) (i1 : Int32) (i2 : Int32) : Int64 := (F_f1 (5 : Int32) ((i1 &&& (2147483647 : Int32)) % (14 : Int32)))
def f0_v87b (i0 : Int32) (i1 : Int32) (i2 : Int32) : Int64 := (F_f2 (f0_v74b i0 i1 i2) ((2147483648 : Int64) - (f0_v74b i0 i1 i2)))
def f0_v101b (i0 : Int32) (i1 : Int32) (i2 : Int32) : Int64 := ((f0_v74b i0 i1 i2) + (((i2.toInt64) &&& (2147483647 : Int64)) % (f0_v87b i0 i1 i2)))
def f0_v142b (i0 : Int32) (i1 : Int32) (i2 : Int32) : Int64 := (((((f0_v74b i0 i1 i2) - (1 : Int64)) / (4 : Int64)) + (1 : Int64)) + ((f0_v101b i0 i1 i2) - (f0_v74b i0 i1 i2)))
def f0_v74c (i0 : Int32) (i1 : Int32) (i2 : Int32) : Int64 := (F_f1 (7 : Int32) ((i1 &&& (2147483647 : Int32)) % (12 : Int32)))
def f0_v87c (i0 : Int32) (i1 : Int32) (i2 : Int32) : Int64 := (F_f2 (f0_v74c i0 i1 i2) ((2147483648 : Int64) - (f0_v74c i0 i1 i2)))
def f0_v101c (i0 : Int32) (i1 : Int32) (i2 : Int32) : Int64 := ((f0_v74c i0 i1 i2) + (((i2.toInt64) &&& (2147483647 : Int64)) % (f0_v87c i0 i1 i2)))
def f0_v142c (i0 : Int32) (i1 : Int32) (i2 : Int32) : Int64 := (((((f0_v74c i0 i1 i2) - (1 : Int64)) / (6 : Int64)) + (1 : Int64)) + ((f0_v101c i0 i1 i2) - (f0_v74c i0 i1 i2)))
theorem own_k (i0 : Int32) : i0 &&& (3 : Int32) = 0 ∨ i0 &&& (3 : Int32) = 1 ∨ i0 &&& (3 : Int32) = 2 ∨ i0 &&& (3 : Int32) = 3 := by
  have a := c_mask i0 3 2 (by decide) (by decide)
  generalize i0 &&& (3 : Int32) = z at *
  rcases (by omega : z.toInt = 0 ∨ z.toInt = 1 ∨ z.toInt = 2 ∨ z.toInt = 3) with h | h | h | h
  · exact Or.inl (Int32.toInt_inj.mp (h.trans (by decide)))
  · exact Or.inr (Or.inl (Int32.toInt_inj.mp (h.trans (by decide))))
  · exact Or.inr (Or.inr (Or.inl (Int32.toInt_inj.mp (h.trans (by decide)))))
  · exact Or.inr (Or.inr (Or.inr (Int32.toInt_inj.mp (h.trans (by decide)))))
def pw (Q : Int) : Nat → Int → Int
  | 0, P => P
  | n + 1, P => pw Q n (P * Q)
def gs (Q : Int) : Nat → Int → Int
  | 0, _ => 0
  | n + 1, P => P + gs Q n (P * Q)
theorem own_mulge {P Q : Int} (h2 : 2 ≤ Q) (h1 : 1 ≤ P) : P * 2 ≤ P * Q := Int.mul_le_mul_of_nonneg_left h2 (by omega)
theorem pw_ge (Q : Int) (h2 : 2 ≤ Q) (n : Nat) : ∀ P : Int, 1 ≤ P → P ≤ pw Q n P ∧ 0 ≤ gs Q n P := by
  induction n with
  | zero => exact fun P h => ⟨Int.le_refl _, Int.le_refl _⟩
  | succ n ih =>
    intro P h
    have a := own_mulge h2 h
    obtain ⟨b, c⟩ := ih (P * Q) (by omega)
    have e1 : pw Q (n + 1) P = pw Q n (P * Q) := rfl
    have e2 : gs Q (n + 1) P = P + gs Q n (P * Q) := rfl
    rw [e1, e2]; omega
theorem own_pos (q col : Int64) (Q : Int) (hq : q.toInt = Q) (h2 : 2 ≤ Q) (h7 : Q ≤ 7) (hc : col.toInt < 2147483648) (n : Nat) : ∀ (b l : Int64) (B P : Int), b.toInt = B → l.toInt = P → 1 ≤ P → 0 ≤ B → pw Q n P ≤ col.toInt → col.toInt < 2 * pw Q n P →
    B + gs Q n P + 1 + (col.toInt - pw Q n P) < 2147483648 → posOk q col n l ∧ (posV q col n b l).toInt = B + gs Q n P + 1 + (col.toInt - pw Q n P) := by
  induction n with
  | zero =>
    intro b l B P hb hl h1 h0 k1 k2 k3
    have e1 : pw Q 0 P = P := rfl
    have e2 : gs Q 0 P = 0 := rfl
    rw [e1] at k1 k2 k3 ⊢
    rw [e2] at k3 ⊢
    have m := c_lmul l q
    have r := rng64 (l * q)
    rw [hl, hq] at m
    have a := own_mulge h2 h1
    have a7 : P * Q ≤ P * 7 := Int.mul_le_mul_of_nonneg_left h7 (by omega)
    refine ⟨?_, ?_⟩
    · show col < l * q
      rw [Int64.lt_iff_toInt_lt]; omega
    · show ((((b + 1) + col) - l).toInt32).toInt = _
      have x1 := c_ladd b 1
      have x2 := c_ladd (b + 1) col
      have x3 := c_lsub ((b + 1) + col) l
      have x4 := c_l2i (((b + 1) + col) - l)
      have o : (1 : Int64).toInt = 1 := by decide
      have r1 := rng64 (b + 1)
      have r2 := rng64 ((b + 1) + col)
      have r3 := rng64 (((b + 1) + col) - l)
      have r4 := rng32 ((((b + 1) + col) - l).toInt32)
      omega
  | succ n ih =>
    intro b l B P hb hl h1 h0 k1 k2 k3
    have e1 : pw Q (n + 1) P = pw Q n (P * Q) := rfl
    have e2 : gs Q (n + 1) P = P + gs Q n (P * Q) := rfl
    rw [e1] at k1 k2 k3 ⊢
    rw [e2] at k3 ⊢
    have a := own_mulge h2 h1
    have a7 : P * Q ≤ P * 7 := Int.mul_le_mul_of_nonneg_left h7 (by omega)
    obtain ⟨g1, g2⟩ := pw_ge Q h2 n (P * Q) (by omega)
    have m := c_lmul l q
    have r := rng64 (l * q)
    rw [hl, hq] at m
    have em : (l * q).toInt = P * Q := by omega
    have x1 := c_ladd b l
    have r1 := rng64 (b + l)
    obtain ⟨j1, j2⟩ := ih (b + l) (l * q) (B + P) (P * Q) (by omega) em (by omega) (by omega) k1 k2 (by omega)
    refine ⟨⟨?_, j1⟩, ?_⟩
    · rw [Int64.lt_iff_toInt_lt]; omega
    · show (posV q col n (b + l) (l * q)).toInt = _
      rw [j2]; omega
theorem own_sp (L : Int64) (p : Int) (hL : L.toInt = p) (h1 : 1 ≤ p) (h2 : p ≤ 2147483647) : 1 ≤ (F_f2 L ((2147483648 : Int64) - L)).toInt ∧ (F_f2 L ((2147483648 : Int64) - L)).toInt ≤ p ∧ p + (F_f2 L ((2147483648 : Int64) - L)).toInt ≤ 2147483648 := by
  have a := c_lsub 2147483648 L
  have e : (2147483648 : Int64).toInt = 2147483648 := by decide
  have r := rng64 (2147483648 - L)
  unfold F_f2 f2_3_s0
  split
  · rename_i q; rw [Int64.lt_iff_toInt_lt] at q; omega
  · rename_i q; rw [Int64.lt_iff_toInt_lt] at q; omega
theorem own_off (i2 : Int32) (S : Int64) (h : 1 ≤ S.toInt) : 0 ≤ (((i2.toInt64) &&& (2147483647 : Int64)) % S).toInt ∧ (((i2.toInt64) &&& (2147483647 : Int64)) % S).toInt < S.toInt := by
  have m := c_maskL i2.toInt64 2147483647 31 (by decide) (by decide)
  have e : (((i2.toInt64) &&& (2147483647 : Int64)) % S).toInt = ((i2.toInt64) &&& (2147483647 : Int64)).toInt % S.toInt := by
    rw [← lrem_mod]; exact (c_lrem _ S _ rfl).1 (by omega)
  rw [e]
  exact ⟨Int.emod_nonneg _ (by omega), Int.emod_lt_of_pos _ (by omega)⟩
theorem tab2 : ∀ k : Fin 31, (F_f1 (2 : Int32) (Int32.ofNat k.val)).toInt = pw 2 k.val 1 ∧ 1 ≤ pw 2 k.val 1 ∧ pw 2 k.val 1 ≤ 2147483647 ∧ gs 2 k.val 1 * 1 = pw 2 k.val 1 - 1 := by decide +kernel
theorem own_L2 (i0 i1 i2 : Int32) : (f0_v74 i0 i1 i2).toInt = pw 2 (own_e2 i1) 1 ∧ 1 ≤ pw 2 (own_e2 i1) 1 ∧ pw 2 (own_e2 i1) 1 ≤ 2147483647 ∧ gs 2 (own_e2 i1) 1 * 1 = pw 2 (own_e2 i1) 1 - 1 := by
  have a := c_mask i1 2147483647 31 (by decide) (by decide)
  have m := (c_irem (i1 &&& 2147483647) 31 31 (by decide)).1 (by omega)
  have hlt : own_e2 i1 < 31 := by unfold own_e2; omega
  have all : ∀ k : Fin 31, (Int32.ofNat k.val).toInt = k.val := by decide +kernel
  have e : ((i1 &&& (2147483647 : Int32)) % (31 : Int32)) = Int32.ofNat (own_e2 i1) := by
    apply Int32.toInt_inj.mp
    rw [all ⟨own_e2 i1, hlt⟩]
    show _ = (own_e2 i1 : Int)
    unfold own_e2; omega
  have t := tab2 ⟨own_e2 i1, hlt⟩
  have eL : f0_v74 i0 i1 i2 = F_f1 (2 : Int32) (Int32.ofNat (own_e2 i1)) := by unfold f0_v74; rw [e]
  rw [eL]; exact t
theorem own_all2 (i0 i1 i2 : Int32) : 1 ≤ (f0_v87 i0 i1 i2).toInt ∧ (f0_v101 i0 i1 i2).toInt = pw 2 (own_e2 i1) 1 + (((i2.toInt64) &&& (2147483647 : Int64)) % (f0_v87 i0 i1 i2)).toInt ∧ 0 ≤ (((i2.toInt64) &&& (2147483647 : Int64)) % (f0_v87 i0 i1 i2)).toInt ∧ (((i2.toInt64) &&& (2147483647 : Int64)) % (f0_v87 i0 i1 i2)).toInt < pw 2 (own_e2 i1) 1 ∧ pw 2 (own_e2 i1) 1 + (((i2.toInt64) &&& (2147483647 : Int64)) % (f0_v87 i0 i1 i2)).toInt < 2147483648 := by
  obtain ⟨h1, h2, h3, h4⟩ := own_L2 i0 i1 i2
  obtain ⟨s1, s2, s3⟩ := own_sp (f0_v74 i0 i1 i2) _ h1 h2 h3
  have s1' : 1 ≤ (f0_v87 i0 i1 i2).toInt := s1
  have o := own_off i2 (f0_v87 i0 i1 i2) s1'
  have s2' : (f0_v87 i0 i1 i2).toInt ≤ pw 2 (own_e2 i1) 1 := s2
  have s3' : pw 2 (own_e2 i1) 1 + (f0_v87 i0 i1 i2).toInt ≤ 2147483648 := s3
  have c := c_ladd (f0_v74 i0 i1 i2) (((i2.toInt64) &&& (2147483647 : Int64)) % (f0_v87 i0 i1 i2))
  have r := rng64 (f0_v101 i0 i1 i2)
  have ec : f0_v101 i0 i1 i2 = (f0_v74 i0 i1 i2) + (((i2.toInt64) &&& (2147483647 : Int64)) % (f0_v87 i0 i1 i2)) := rfl
  rw [← ec] at c
  omega
theorem own_nz2 (i0 i1 i2 : Int32) : f0_v87 i0 i1 i2 ≠ 0 := fun w => by
  have := (own_all2 i0 i1 i2).1
  rw [w] at this; exact absurd this (by decide)
theorem own_both2 (i0 i1 i2 : Int32) : posOk ((2 : Int32).toInt64) (((f0_v101 i0 i1 i2).toInt32).toInt64) (own_e2 i1) 1 ∧ (posV ((2 : Int32).toInt64) (((f0_v101 i0 i1 i2).toInt32).toInt64) (own_e2 i1) 0 1).toInt = gs 2 (own_e2 i1) 1 + 1 + (((i2.toInt64) &&& (2147483647 : Int64)) % (f0_v87 i0 i1 i2)).toInt := by
  obtain ⟨h1, h2, h3, h4⟩ := own_L2 i0 i1 i2
  obtain ⟨k1, k2, k3, k4, k5⟩ := own_all2 i0 i1 i2
  have cc := c_l2i (f0_v101 i0 i1 i2)
  have r := rng32 ((f0_v101 i0 i1 i2).toInt32)
  have e : (((f0_v101 i0 i1 i2).toInt32).toInt64).toInt = pw 2 (own_e2 i1) 1 + (((i2.toInt64) &&& (2147483647 : Int64)) % (f0_v87 i0 i1 i2)).toInt := by
    rw [Int32.toInt_toInt64]; omega
  have t := own_pos ((2 : Int32).toInt64) (((f0_v101 i0 i1 i2).toInt32).toInt64) 2 (by decide) (by decide) (by decide) (by omega) (own_e2 i1) 0 1 0 1 (by decide) (by decide) (by decide) (by decide) (by omega) (by omega) (by omega)
  refine ⟨t.1, ?_⟩
  rw [t.2]; omega
theorem own_ok2 (i0 i1 i2 : Int32) : posOk ((2 : Int32).toInt64) (((f0_v101 i0 i1 i2).toInt32).toInt64) (own_e2 i1) 1 := (own_both2 i0 i1 i2).1
theorem law_fin2 (i0 i1 i2 : Int32) : (F_f8 ((f0_v101 i0 i1 i2).toInt32) (2 : Int32) (own_e2 i1)).toInt64 = f0_v142 i0 i1 i2 := by
  obtain ⟨h1, h2, h3, h4⟩ := own_L2 i0 i1 i2
  obtain ⟨k1, k2, k3, k4, k5⟩ := own_all2 i0 i1 i2
  have b := (own_both2 i0 i1 i2).2
  have eF : F_f8 ((f0_v101 i0 i1 i2).toInt32) (2 : Int32) (own_e2 i1) = posV ((2 : Int32).toInt64) (((f0_v101 i0 i1 i2).toInt32).toInt64) (own_e2 i1) 0 1 := rfl
  apply Int64.toInt_inj.mp
  rw [Int32.toInt_toInt64, eF, b]
  unfold f0_v142
  generalize (((i2.toInt64) &&& (2147483647 : Int64)) % (f0_v87 i0 i1 i2)).toInt = off at *
  generalize f0_v74 i0 i1 i2 = Lv at *
  generalize f0_v101 i0 i1 i2 = Cv at *
  generalize pw 2 (own_e2 i1) 1 = p at *
  generalize gs 2 (own_e2 i1) 1 = g at *
  have o1 : (1 : Int64).toInt = 1 := by decide
  have d1 := c_lsub Lv 1
  have rd1 := rng64 (Lv - 1)
  have v1 : (Lv - 1).toInt = p - 1 := by clear b k2 h4; omega
  have d2 : ((Lv - 1) / (1 : Int64)).toInt = (Lv - 1).toInt / 1 := (c_ldiv (Lv - 1) (1 : Int64) 1 (by decide) (by decide)).1 (by omega)
  have v2 : ((Lv - 1) / (1 : Int64)).toInt = g := by rw [d2, v1]; omega
  have gb : 0 ≤ g ∧ g < 2147483648 := by omega
  have d3 := c_ladd ((Lv - 1) / (1 : Int64)) 1
  have d4 := c_lsub Cv Lv
  have d5 := c_ladd ((Lv - 1) / (1 : Int64) + 1) (Cv - Lv)
  have r3 := rng64 ((Lv - 1) / (1 : Int64) + 1)
  have r4 := rng64 (Cv - Lv)
  have r5 := rng64 ((Lv - 1) / (1 : Int64) + 1 + (Cv - Lv))
  have v3 : ((Lv - 1) / (1 : Int64) + 1).toInt = g + 1 := by clear b k2 h4 d2; omega
  have v4 : (Cv - Lv).toInt = off := by clear b h4 d2 v2 d3; omega
  rw [v3, v4] at d5
  clear d1 d2 d3 d4 h4
  omega
theorem tab3 : ∀ k : Fin 20, (F_f1 (3 : Int32) (Int32.ofNat k.val)).toInt = pw 3 k.val 1 ∧ 1 ≤ pw 3 k.val 1 ∧ pw 3 k.val 1 ≤ 2147483647 ∧ gs 3 k.val 1 * 2 = pw 3 k.val 1 - 1 := by decide +kernel
theorem own_L3 (i0 i1 i2 : Int32) : (f0_v74a i0 i1 i2).toInt = pw 3 (own_e3 i1) 1 ∧ 1 ≤ pw 3 (own_e3 i1) 1 ∧ pw 3 (own_e3 i1) 1 ≤ 2147483647 ∧ gs 3 (own_e3 i1) 1 * 2 = pw 3 (own_e3 i1) 1 - 1 := by
  have a := c_mask i1 2147483647 31 (by decide) (by decide)
  have m := (c_irem (i1 &&& 2147483647) 20 20 (by decide)).1 (by omega)
  have hlt : own_e3 i1 < 20 := by unfold own_e3; omega
  have all : ∀ k : Fin 20, (Int32.ofNat k.val).toInt = k.val := by decide +kernel
  have e : ((i1 &&& (2147483647 : Int32)) % (20 : Int32)) = Int32.ofNat (own_e3 i1) := by
    apply Int32.toInt_inj.mp
    rw [all ⟨own_e3 i1, hlt⟩]
    show _ = (own_e3 i1 : Int)
    unfold own_e3; omega
  have t := tab3 ⟨own_e3 i1, hlt⟩
  have eL : f0_v74a i0 i1 i2 = F_f1 (3 : Int32) (Int32.ofNat (own_e3 i1)) := by unfold f0_v74a; rw [e]
  rw [eL]; exact t
theorem own_all3 (i0 i1 i2 : Int32) : 1 ≤ (f0_v87a i0 i1 i2).toInt ∧ (f0_v101a i0 i1 i2).toInt = pw 3 (own_e3 i1) 1 + (((i2.toInt64) &&& (2147483647 : Int64)) % (f0_v87a i0 i1 i2)).toInt ∧ 0 ≤ (((i2.toInt64) &&& (2147483647 : Int64)) % (f0_v87a i0 i1 i2)).toInt ∧ (((i2.toInt64) &&& (2147483647 : Int64)) % (f0_v87a i0 i1 i2)).toInt < pw 3 (own_e3 i1) 1 ∧ pw 3 (own_e3 i1) 1 + (((i2.toInt64) &&& (2147483647 : Int64)) % (f0_v87a i0 i1 i2)).toInt < 2147483648 := by
  obtain ⟨h1, h2, h3, h4⟩ := own_L3 i0 i1 i2
  obtain ⟨s1, s2, s3⟩ := own_sp (f0_v74a i0 i1 i2) _ h1 h2 h3
  have s1' : 1 ≤ (f0_v87a i0 i1 i2).toInt := s1
  have o := own_off i2 (f0_v87a i0 i1 i2) s1'
  have s2' : (f0_v87a i0 i1 i2).toInt ≤ pw 3 (own_e3 i1) 1 := s2
  have s3' : pw 3 (own_e3 i1) 1 + (f0_v87a i0 i1 i2).toInt ≤ 2147483648 := s3
  have c := c_ladd (f0_v74a i0 i1 i2) (((i2.toInt64) &&& (2147483647 : Int64)) % (f0_v87a i0 i1 i2))
  have r := rng64 (f0_v101a i0 i1 i2)
  have ec : f0_v101a i0 i1 i2 = (f0_v74a i0 i1 i2) + (((i2.toInt64) &&& (2147483647 : Int64)) % (f0_v87a i0 i1 i2)) := rfl
  rw [← ec] at c
  omega
theorem own_nz3 (i0 i1 i2 : Int32) : f0_v87a i0 i1 i2 ≠ 0 := fun w => by
  have := (own_all3 i0 i1 i2).1
  rw [w] at this; exact absurd this (by decide)
theorem own_both3 (i0 i1 i2 : Int32) : posOk ((3 : Int32).toInt64) (((f0_v101a i0 i1 i2).toInt32).toInt64) (own_e3 i1) 1 ∧ (posV ((3 : Int32).toInt64) (((f0_v101a i0 i1 i2).toInt32).toInt64) (own_e3 i1) 0 1).toInt = gs 3 (own_e3 i1) 1 + 1 + (((i2.toInt64) &&& (2147483647 : Int64)) % (f0_v87a i0 i1 i2)).toInt := by
  obtain ⟨h1, h2, h3, h4⟩ := own_L3 i0 i1 i2
  obtain ⟨k1, k2, k3, k4, k5⟩ := own_all3 i0 i1 i2
  have cc := c_l2i (f0_v101a i0 i1 i2)
  have r := rng32 ((f0_v101a i0 i1 i2).toInt32)
  have e : (((f0_v101a i0 i1 i2).toInt32).toInt64).toInt = pw 3 (own_e3 i1) 1 + (((i2.toInt64) &&& (2147483647 : Int64)) % (f0_v87a i0 i1 i2)).toInt := by
    rw [Int32.toInt_toInt64]; omega
  have t := own_pos ((3 : Int32).toInt64) (((f0_v101a i0 i1 i2).toInt32).toInt64) 3 (by decide) (by decide) (by decide) (by omega) (own_e3 i1) 0 1 0 1 (by decide) (by decide) (by decide) (by decide) (by omega) (by omega) (by omega)
  refine ⟨t.1, ?_⟩
  rw [t.2]; omega
theorem own_ok3 (i0 i1 i2 : Int32) : posOk ((3 : Int32).toInt64) (((f0_v101a i0 i1 i2).toInt32).toInt64) (own_e3 i1) 1 := (own_both3 i0 i1 i2).1
theorem law_fin3 (i0 i1 i2 : Int32) : (F_f8 ((f0_v101a i0 i1 i2).toInt32) (3 : Int32) (own_e3 i1)).toInt64 = f0_v142a i0 i1 i2 := by
  obtain ⟨h1, h2, h3, h4⟩ := own_L3 i0 i1 i2
  obtain ⟨k1, k2, k3, k4, k5⟩ := own_all3 i0 i1 i2
  have b := (own_both3 i0 i1 i2).2
  have eF : F_f8 ((f0_v101a i0 i1 i2).toInt32) (3 : Int32) (own_e3 i1) = posV ((3 : Int32).toInt64) (((f0_v101a i0 i1 i2).toInt32).toInt64) (own_e3 i1) 0 1 := rfl
  apply Int64.toInt_inj.mp
  rw [Int32.toInt_toInt64, eF, b]
  unfold f0_v142a
  generalize (((i2.toInt64) &&& (2147483647 : Int64)) % (f0_v87a i0 i1 i2)).toInt = off at *
  generalize f0_v74a i0 i1 i2 = Lv at *
  generalize f0_v101a i0 i1 i2 = Cv at *
  generalize pw 3 (own_e3 i1) 1 = p at *
  generalize gs 3 (own_e3 i1) 1 = g at *
  have o1 : (1 : Int64).toInt = 1 := by decide
  have d1 := c_lsub Lv 1
  have rd1 := rng64 (Lv - 1)
  have v1 : (Lv - 1).toInt = p - 1 := by clear b k2 h4; omega
  have d2 : ((Lv - 1) / (2 : Int64)).toInt = (Lv - 1).toInt / 2 := (c_ldiv (Lv - 1) (2 : Int64) 2 (by decide) (by decide)).1 (by omega)
  have v2 : ((Lv - 1) / (2 : Int64)).toInt = g := by rw [d2, v1]; omega
  have gb : 0 ≤ g ∧ g < 2147483648 := by omega
  have d3 := c_ladd ((Lv - 1) / (2 : Int64)) 1
  have d4 := c_lsub Cv Lv
  have d5 := c_ladd ((Lv - 1) / (2 : Int64) + 1) (Cv - Lv)
  have r3 := rng64 ((Lv - 1) / (2 : Int64) + 1)
  have r4 := rng64 (Cv - Lv)
  have r5 := rng64 ((Lv - 1) / (2 : Int64) + 1 + (Cv - Lv))
  have v3 : ((Lv - 1) / (2 : Int64) + 1).toInt = g + 1 := by clear b k2 h4 d2; omega
  have v4 : (Cv - Lv).toInt = off := by clear b h4 d2 v2 d3; omega
  rw [v3, v4] at d5
  clear d1 d2 d3 d4 h4
  omega
theorem tab5 : ∀ k : Fin 14, (F_f1 (5 : Int32) (Int32.ofNat k.val)).toInt = pw 5 k.val 1 ∧ 1 ≤ pw 5 k.val 1 ∧ pw 5 k.val 1 ≤ 2147483647 ∧ gs 5 k.val 1 * 4 = pw 5 k.val 1 - 1 := by decide +kernel
theorem own_L5 (i0 i1 i2 : Int32) : (f0_v74b i0 i1 i2).toInt = pw 5 (own_e5 i1) 1 ∧ 1 ≤ pw 5 (own_e5 i1) 1 ∧ pw 5 (own_e5 i1) 1 ≤ 2147483647 ∧ gs 5 (own_e5 i1) 1 * 4 = pw 5 (own_e5 i1) 1 - 1 := by
  have a := c_mask i1 2147483647 31 (by decide) (by decide)
  have m := (c_irem (i1 &&& 2147483647) 14 14 (by decide)).1 (by omega)
  have hlt : own_e5 i1 < 14 := by unfold own_e5; omega
  have all : ∀ k : Fin 14, (Int32.ofNat k.val).toInt = k.val := by decide +kernel
  have e : ((i1 &&& (2147483647 : Int32)) % (14 : Int32)) = Int32.ofNat (own_e5 i1) := by
    apply Int32.toInt_inj.mp
    rw [all ⟨own_e5 i1, hlt⟩]
    show _ = (own_e5 i1 : Int)
    unfold own_e5; omega
  have t := tab5 ⟨own_e5 i1, hlt⟩
  have eL : f0_v74b i0 i1 i2 = F_f1 (5 : Int32) (Int32.ofNat (own_e5 i1)) := by unfold f0_v74b; rw [e]
  rw [eL]; exact t
theorem own_all5 (i0 i1 i2 : Int32) : 1 ≤ (f0_v87b i0 i1 i2).toInt ∧ (f0_v101b i0 i1 i2).toInt = pw 5 (own_e5 i1) 1 + (((i2.toInt64) &&& (2147483647 : Int64)) % (f0_v87b i0 i1 i2)).toInt ∧ 0 ≤ (((i2.toInt64) &&& (2147483647 : Int64)) % (f0_v87b i0 i1 i2)).toInt ∧ (((i2.toInt64) &&& (2147483647 : Int64)) % (f0_v87b i0 i1 i2)).toInt < pw 5 (own_e5 i1) 1 ∧ pw 5 (own_e5 i1) 1 + (((i2.toInt64) &&& (2147483647 : Int64)) % (f0_v87b i0 i1 i2)).toInt < 2147483648 := by
  obtain ⟨h1, h2, h3, h4⟩ := own_L5 i0 i1 i2
  obtain ⟨s1, s2, s3⟩ := own_sp (f0_v74b i0 i1 i2) _ h1 h2 h3
  have s1' : 1 ≤ (f0_v87b i0 i1 i2).toInt := s1
  have o := own_off i2 (f0_v87b i0 i1 i2) s1'
  have s2' : (f0_v87b i0 i1 i2).toInt ≤ pw 5 (own_e5 i1) 1 := s2
  have s3' : pw 5 (own_e5 i1) 1 + (f0_v87b i0 i1 i2).toInt ≤ 2147483648 := s3
  have c := c_ladd (f0_v74b i0 i1 i2) (((i2.toInt64) &&& (2147483647 : Int64)) % (f0_v87b i0 i1 i2))
  have r := rng64 (f0_v101b i0 i1 i2)
  have ec : f0_v101b i0 i1 i2 = (f0_v74b i0 i1 i2) + (((i2.toInt64) &&& (2147483647 : Int64)) % (f0_v87b i0 i1 i2)) := rfl
  rw [← ec] at c
  omega
theorem own_nz5 (i0 i1 i2 : Int32) : f0_v87b i0 i1 i2 ≠ 0 := fun w => by
  have := (own_all5 i0 i1 i2).1
  rw [w] at this; exact absurd this (by decide)
theorem own_both5 (i0 i1 i2 : Int32) : posOk ((5 : Int32).toInt64) (((f0_v101b i0 i1 i2).toInt32).toInt64) (own_e5 i1) 1 ∧ (posV ((5 : Int32).toInt64) (((f0_v101b i0 i1 i2).toInt32).toInt64) (own_e5 i1) 0 1).toInt = gs 5 (own_e5 i1) 1 + 1 + (((i2.toInt64) &&& (2147483647 : Int64)) % (f0_v87b i0 i1 i2)).toInt := by
  obtain ⟨h1, h2, h3, h4⟩ := own_L5 i0 i1 i2
  obtain ⟨k1, k2, k3, k4, k5⟩ := own_all5 i0 i1 i2
  have cc := c_l2i (f0_v101b i0 i1 i2)
  have r := rng32 ((f0_v101b i0 i1 i2).toInt32)
  have e : (((f0_v101b i0 i1 i2).toInt32).toInt64).toInt = pw 5 (own_e5 i1) 1 + (((i2.toInt64) &&& (2147483647 : Int64)) % (f0_v87b i0 i1 i2)).toInt := by
    rw [Int32.toInt_toInt64]; omega
  have t := own_pos ((5 : Int32).toInt64) (((f0_v101b i0 i1 i2).toInt32).toInt64) 5 (by decide) (by decide) (by decide) (by omega) (own_e5 i1) 0 1 0 1 (by decide) (by decide) (by decide) (by decide) (by omega) (by omega) (by omega)
  refine ⟨t.1, ?_⟩
  rw [t.2]; omega
theorem own_ok5 (i0 i1 i2 : Int32) : posOk ((5 : Int32).toInt64) (((f0_v101b i0 i1 i2).toInt32).toInt64) (own_e5 i1) 1 := (own_both5 i0 i1 i2).1
theorem law_fin5 (i0 i1 i2 : Int32) : (F_f8 ((f0_v101b i0 i1 i2).toInt32) (5 : Int32) (own_e5 i1)).toInt64 = f0_v142b i0 i1 i2 := by
  obtain ⟨h1, h2, h3, h4⟩ := own_L5 i0 i1 i2
  obtain ⟨k1, k2, k3, k4, k5⟩ := own_all5 i0 i1 i2
  have b := (own_both5 i0 i1 i2).2
  have eF : F_f8 ((f0_v101b i0 i1 i2).toInt32) (5 : Int32) (own_e5 i1) = posV ((5 : Int32).toInt64) (((f0_v101b i0 i1 i2).toInt32).toInt64) (own_e5 i1) 0 1 := rfl
  apply Int64.toInt_inj.mp
  rw [Int32.toInt_toInt64, eF, b]
  unfold f0_v142b
  generalize (((i2.toInt64) &&& (2147483647 : Int64)) % (f0_v87b i0 i1 i2)).toInt = off at *
  generalize f0_v74b i0 i1 i2 = Lv at *
  generalize f0_v101b i0 i1 i2 = Cv at *
  generalize pw 5 (own_e5 i1) 1 = p at *
  generalize gs 5 (own_e5 i1) 1 = g at *
  have o1 : (1 : Int64).toInt = 1 := by decide
  have d1 := c_lsub Lv 1
  have rd1 := rng64 (Lv - 1)
  have v1 : (Lv - 1).toInt = p - 1 := by clear b k2 h4; omega
  have d2 : ((Lv - 1) / (4 : Int64)).toInt = (Lv - 1).toInt / 4 := (c_ldiv (Lv - 1) (4 : Int64) 4 (by decide) (by decide)).1 (by omega)
  have v2 : ((Lv - 1) / (4 : Int64)).toInt = g := by rw [d2, v1]; omega
  have gb : 0 ≤ g ∧ g < 2147483648 := by omega
  have d3 := c_ladd ((Lv - 1) / (4 : Int64)) 1
  have d4 := c_lsub Cv Lv
  have d5 := c_ladd ((Lv - 1) / (4 : Int64) + 1) (Cv - Lv)
  have r3 := rng64 ((Lv - 1) / (4 : Int64) + 1)
  have r4 := rng64 (Cv - Lv)
  have r5 := rng64 ((Lv - 1) / (4 : Int64) + 1 + (Cv - Lv))
  have v3 : ((Lv - 1) / (4 : Int64) + 1).toInt = g + 1 := by clear b k2 h4 d2; omega
  have v4 : (Cv - Lv).toInt = off := by clear b h4 d2 v2 d3; omega
  rw [v3, v4] at d5
  clear d1 d2 d3 d4 h4
  omega
theorem tab7 : ∀ k : Fin 12, (F_f1 (7 : Int32) (Int32.ofNat k.val)).toInt = pw 7 k.val 1 ∧ 1 ≤ pw 7 k.val 1 ∧ pw 7 k.val 1 ≤ 2147483647 ∧ gs 7 k.val 1 * 6 = pw 7 k.val 1 - 1 := by decide +kernel
theorem own_L7 (i0 i1 i2 : Int32) : (f0_v74c i0 i1 i2).toInt = pw 7 (own_e7 i1) 1 ∧ 1 ≤ pw 7 (own_e7 i1) 1 ∧ pw 7 (own_e7 i1) 1 ≤ 2147483647 ∧ gs 7 (own_e7 i1) 1 * 6 = pw 7 (own_e7 i1) 1 - 1 := by
  have a := c_mask i1 2147483647 31 (by decide) (by decide)
  have m := (c_irem (i1 &&& 2147483647) 12 12 (by decide)).1 (by omega)
  have hlt : own_e7 i1 < 12 := by unfold own_e7; omega
  have all : ∀ k : Fin 12, (Int32.ofNat k.val).toInt = k.val := by decide +kernel
  have e : ((i1 &&& (2147483647 : Int32)) % (12 : Int32)) = Int32.ofNat (own_e7 i1) := by
    apply Int32.toInt_inj.mp
    rw [all ⟨own_e7 i1, hlt⟩]
    show _ = (own_e7 i1 : Int)
    unfold own_e7; omega
  have t := tab7 ⟨own_e7 i1, hlt⟩
  have eL : f0_v74c i0 i1 i2 = F_f1 (7 : Int32) (Int32.ofNat (own_e7 i1)) := by unfold f0_v74c; rw [e]
  rw [eL]; exact t
theorem own_all7 (i0 i1 i2 : Int32) : 1 ≤ (f0_v87c i0 i1 i2).toInt ∧ (f0_v101c i0 i1 i2).toInt = pw 7 (own_e7 i1) 1 + (((i2.toInt64) &&& (2147483647 : Int64)) % (f0_v87c i0 i1 i2)).toInt ∧ 0 ≤ (((i2.toInt64) &&& (2147483647 : Int64)) % (f0_v87c i0 i1 i2)).toInt ∧ (((i2.toInt64) &&& (2147483647 : Int64)) % (f0_v87c i0 i1 i2)).toInt < pw 7 (own_e7 i1) 1 ∧ pw 7 (own_e7 i1) 1 + (((i2.toInt64) &&& (2147483647 : Int64)) % (f0_v87c i0 i1 i2)).toInt < 2147483648 := by
  obtain ⟨h1, h2, h3, h4⟩ := own_L7 i0 i1 i2
  obtain ⟨s1, s2, s3⟩ := own_sp (f0_v74c i0 i1 i2) _ h1 h2 h3
  have s1' : 1 ≤ (f0_v87c i0 i1 i2).toInt := s1
  have o := own_off i2 (f0_v87c i0 i1 i2) s1'
  have s2' : (f0_v87c i0 i1 i2).toInt ≤ pw 7 (own_e7 i1) 1 := s2
  have s3' : pw 7 (own_e7 i1) 1 + (f0_v87c i0 i1 i2).toInt ≤ 2147483648 := s3
  have c := c_ladd (f0_v74c i0 i1 i2) (((i2.toInt64) &&& (2147483647 : Int64)) % (f0_v87c i0 i1 i2))
  have r := rng64 (f0_v101c i0 i1 i2)
  have ec : f0_v101c i0 i1 i2 = (f0_v74c i0 i1 i2) + (((i2.toInt64) &&& (2147483647 : Int64)) % (f0_v87c i0 i1 i2)) := rfl
  rw [← ec] at c
  omega
theorem own_nz7 (i0 i1 i2 : Int32) : f0_v87c i0 i1 i2 ≠ 0 := fun w => by
  have := (own_all7 i0 i1 i2).1
  rw [w] at this; exact absurd this (by decide)
theorem own_both7 (i0 i1 i2 : Int32) : posOk ((7 : Int32).toInt64) (((f0_v101c i0 i1 i2).toInt32).toInt64) (own_e7 i1) 1 ∧ (posV ((7 : Int32).toInt64) (((f0_v101c i0 i1 i2).toInt32).toInt64) (own_e7 i1) 0 1).toInt = gs 7 (own_e7 i1) 1 + 1 + (((i2.toInt64) &&& (2147483647 : Int64)) % (f0_v87c i0 i1 i2)).toInt := by
  obtain ⟨h1, h2, h3, h4⟩ := own_L7 i0 i1 i2
  obtain ⟨k1, k2, k3, k4, k5⟩ := own_all7 i0 i1 i2
  have cc := c_l2i (f0_v101c i0 i1 i2)
  have r := rng32 ((f0_v101c i0 i1 i2).toInt32)
  have e : (((f0_v101c i0 i1 i2).toInt32).toInt64).toInt = pw 7 (own_e7 i1) 1 + (((i2.toInt64) &&& (2147483647 : Int64)) % (f0_v87c i0 i1 i2)).toInt := by
    rw [Int32.toInt_toInt64]; omega
  have t := own_pos ((7 : Int32).toInt64) (((f0_v101c i0 i1 i2).toInt32).toInt64) 7 (by decide) (by decide) (by decide) (by omega) (own_e7 i1) 0 1 0 1 (by decide) (by decide) (by decide) (by decide) (by omega) (by omega) (by omega)
  refine ⟨t.1, ?_⟩
  rw [t.2]; omega
theorem own_ok7 (i0 i1 i2 : Int32) : posOk ((7 : Int32).toInt64) (((f0_v101c i0 i1 i2).toInt32).toInt64) (own_e7 i1) 1 := (own_both7 i0 i1 i2).1
theorem law_fin7 (i0 i1 i2 : Int32) : (F_f8 ((f0_v101c i0 i1 i2).toInt32) (7 : Int32) (own_e7 i1)).toInt64 = f0_v142c i0 i1 i2 := by
  obtain ⟨h1, h2, h3, h4⟩ := own_L7 i0 i1 i2
  obtain ⟨k1, k2, k3, k4, k5⟩ := own_all7 i0 i1 i2
  have b := (own_both7 i0 i1 i2).2
  have eF : F_f8 ((f0_v101c i0 i1 i2).toInt32) (7 : Int32) (own_e7 i1) = posV ((7 : Int32).toInt64) (((f0_v101c i0 i1 i2).toInt32).toInt64) (own_e7 i1) 0 1 := rfl
  apply Int64.toInt_inj.mp
  rw [Int32.toInt_toInt64, eF, b]
  unfold f0_v142c
  generalize (((i2.toInt64) &&& (2147483647 : Int64)) % (f0_v87c i0 i1 i2)).toInt = off at *
  generalize f0_v74c i0 i1 i2 = Lv at *
  generalize f0_v101c i0 i1 i2 = Cv at *
  generalize pw 7 (own_e7 i1) 1 = p at *
  generalize gs 7 (own_e7 i1) 1 = g at *
  have o1 : (1 : Int64).toInt = 1 := by decide
  have d1 := c_lsub Lv 1
  have rd1 := rng64 (Lv - 1)
  have v1 : (Lv - 1).toInt = p - 1 := by clear b k2 h4; omega
  have d2 : ((Lv - 1) / (6 : Int64)).toInt = (Lv - 1).toInt / 6 := (c_ldiv (Lv - 1) (6 : Int64) 6 (by decide) (by decide)).1 (by omega)
  have v2 : ((Lv - 1) / (6 : Int64)).toInt = g := by rw [d2, v1]; omega
  have gb : 0 ≤ g ∧ g < 2147483648 := by omega
  have d3 := c_ladd ((Lv - 1) / (6 : Int64)) 1
  have d4 := c_lsub Cv Lv
  have d5 := c_ladd ((Lv - 1) / (6 : Int64) + 1) (Cv - Lv)
  have r3 := rng64 ((Lv - 1) / (6 : Int64) + 1)
  have r4 := rng64 (Cv - Lv)
  have r5 := rng64 ((Lv - 1) / (6 : Int64) + 1 + (Cv - Lv))
  have v3 : ((Lv - 1) / (6 : Int64) + 1).toInt = g + 1 := by clear b k2 h4 d2; omega
  have v4 : (Cv - Lv).toInt = off := by clear b h4 d2 v2 d3; omega
  rw [v3, v4] at d5
  clear d1 d2 d3 d4 h4
  omega
theorem ef_0 (m : MethodId) (x0 : Int32) (x1 : Int32) (x2 : Int32) : entryFrame m #[(.int x0), (.int x1), (.int x2)] maxLocals = mkF m 0 #[.val (.int x0), .val (.int x1), .val (.int x2), .unset, .unset, .unset, .unset, .unset, .unset, .unset, .unset, .unset, .unset, .unset, .unset, .unset, .unset] [] := by first | (simp [entryFrame, mkF, argsToLocals, Value.category, maxLocals]; done) | rfl
theorem pd_1 : parseMethodDescriptor "(JJ)J" = some ⟨[.long, .long], some .long⟩ := by decide +kernel
theorem pd_2 : parseMethodDescriptor "(I)V" = some ⟨[.int], none⟩ := by decide +kernel
theorem pd_7 : parseMethodDescriptor "(I)I" = some ⟨[.int], some .int⟩ := by decide +kernel
set_option maxRecDepth 65536 in
set_option maxHeartbeats 40000000 in
theorem rm0 (l : Launch) (Z : State) (a0 : Array Value) (hw : ∀ d ∈ tables_1, d.before a0 Z = true) (ws : List Jvm.Cond) (i0 : Int32) (i1 : Int32) (i2 : Int32)  (h0 : Heap) (n0 : Nat) (Z0 : n0 ≤ h0.size) :
    MetFree l x (head1 (Jvm.Cond.code x code maxLocals ret :: ws) room_1) (fun a U => a = #[(.int i0), (.int i1), (.int i2)] ∧ Z.Warmed39 U.vm ∧ U.heap = h0) (fun _ _ _ _ _ => True) (fun _ U o U' => ∃ v L, o = .returned v ∧ QL n0 v U'.heap L ∧ FrameEnd U o U' L room_1.cells room_1.slots) := by
  refine MetFree.of_bodySF (plainFor_of_name pn_0) hisR ?_
  intro p e s m args below meth c s₁ Bd hml0 hP hK
  obtain ⟨rfl, hZ, hh⟩ := hP
  have hx := Bd.exec
  have hby := Bd.bytes
  have hml : c.maxLocals = 17 := hml0
  have hown : s.vm.findClass "com/example/bitmend/bitmend/PositionalColumnsPositionPinLaw" = some m.cls := findClass_of_methodNamed Bd.named
  have hnm := (name_of_methodNamed Bd.named Bd.method).1
  have hret := Bd.returns
  have hlk : meth.locks = false := BodyLoose.notSynchronized Bd
  have X0 : Stand p l e room_1 s m #[(.int i0), (.int i1), (.int i2)] below meth c s₁ [] 0 0 := Stand.of_body Bd
  have e0 : s₁.heap = h0 := by rw [← hh, Bd.state]; rfl
  have N0 := Fr.nil n0
  show Outs p e below s (QL n0) _ _ _
  refine Outs.of (U' := s₁.setTop (mkF m 0 #[.val (.int i0), .val (.int i1), .val (.int i2), .unset, .unset, .unset, .unset, .unset, .unset, .unset, .unset, .unset, .unset, .unset, .unset, .unset, .unset] [])) (fun t k => castTop (ef_0 m i0 i1 i2) k) ?_
  refine Outs.of (U' := s₁.setTop (mkF m 4 #[.val (.int i0), .val (.int i1), .val (.int i2), .val (.int (i0 &&& (3 : Int32))), .unset, .unset, .unset, .unset, .unset, .unset, .unset, .unset, .unset, .unset, .unset, .unset, .unset] [])) (fun t k => ?_) ?_
  · refine XS.iloadN X0.here hx rfl (hb hby at_0) rfl ?_
    refine XS.iconst X0.here hx rfl (hb hby at_1) ?_
    refine XS.iand X0.here hx rfl (hb hby at_2) rfl ?_
    refine XS.istoreN X0.here hx rfl (hb hby at_3) rfl (l' := #[.val (.int i0), .val (.int i1), .val (.int i2), .val (.int (i0 &&& (3 : Int32))), .unset, .unset, .unset, .unset, .unset, .unset, .unset, .unset, .unset, .unset, .unset, .unset, .unset]) rfl ?_
    exact k
  rcases own_k i0 with qk | qk | qk | qk
  · rw [qk]
    show Outs p e below s _ _ _ (s₁.setTop (mkF m 4 #[.val (.int i0), .val (.int i1), .val (.int i2), .val (.int (0 : Int32)), .unset, .unset, .unset, .unset, .unset, .unset, .unset, .unset, .unset, .unset, .unset, .unset, .unset] []))
    refine Outs.of (U' := s₁.setTop (mkF m 71 #[.val (.int i0), .val (.int i1), .val (.int i2), .val (.int (0 : Int32)), .val (.int (2 : Int32)), .val (.int (30 : Int32)), .val (.int ((i1 &&& (2147483647 : Int32)) % (31 : Int32))), .unset, .unset, .unset, .unset, .unset, .unset, .unset, .unset, .unset, .unset] [(.int ((i1 &&& (2147483647 : Int32)) % (31 : Int32))), (.int (2 : Int32))])) (fun t k => ?_) ?_
    · refine XS.iloadN X0.here hx rfl (hb hby at_4) rfl ?_
      refine XS.ifNo X0.here hx rfl (hb hby at_5) rfl ((if0 _ _).trans (teq (show (0 : Int32) = (0 : Int32) from (by decide))).2) ?_
      refine XS.iconst X0.here hx rfl (hb hby at_8) ?_
      refine XS.istore X0.here hx rfl (hb hby at_9) rfl (l' := #[.val (.int i0), .val (.int i1), .val (.int i2), .val (.int (0 : Int32)), .val (.int (2 : Int32)), .unset, .unset, .unset, .unset, .unset, .unset, .unset, .unset, .unset, .unset, .unset, .unset]) rfl ?_
      refine XS.bipush X0.here hx rfl (hb hby at_11) ?_
      refine XS.istore X0.here hx rfl (hb hby at_13) rfl (l' := #[.val (.int i0), .val (.int i1), .val (.int i2), .val (.int (0 : Int32)), .val (.int (2 : Int32)), .val (.int (30 : Int32)), .unset, .unset, .unset, .unset, .unset, .unset, .unset, .unset, .unset, .unset, .unset]) rfl ?_
      refine XS.goto X0.here hx rfl (pc0 := 15) (pc' := 56) rfl (hb hby at_15) (by decide) (by decide) ?_
      refine XS.iloadN X0.here hx rfl (hb hby at_56) rfl ?_
      refine X0.ldcInt hx hown (mvT hZ (hw _ (List.mem_of_getElem? (i := 0) rfl))) (g := (mkF m 57 #[.val (.int i0), .val (.int i1), .val (.int i2), .val (.int (0 : Int32)), .val (.int (2 : Int32)), .val (.int (30 : Int32)), .unset, .unset, .unset, .unset, .unset, .unset, .unset, .unset, .unset, .unset, .unset] [(.int i1)])) rfl (hb hby at_57) _ ?_
      refine XS.iand X0.here hx rfl (hb hby at_59) rfl ?_
      refine XS.iload X0.here hx rfl (hb hby at_60) rfl ?_
      refine XS.iconst X0.here hx rfl (hb hby at_62) ?_
      refine XS.iadd X0.here hx rfl (hb hby at_63) rfl ?_
      refine iremM X0 hx rfl (hb hby at_64) rfl (by decide) ?_
      refine XS.istore X0.here hx rfl (hb hby at_65) rfl (l' := #[.val (.int i0), .val (.int i1), .val (.int i2), .val (.int (0 : Int32)), .val (.int (2 : Int32)), .val (.int (30 : Int32)), .val (.int ((i1 &&& (2147483647 : Int32)) % (31 : Int32))), .unset, .unset, .unset, .unset, .unset, .unset, .unset, .unset, .unset, .unset]) rfl ?_
      refine XS.iload X0.here hx rfl (hb hby at_67) rfl ?_
      refine XS.iload X0.here hx rfl (hb hby at_69) rfl ?_
      exact k
    obtain ⟨_, _, ⟨T1, L1, k1, n1⟩, -, X1, ⟨Lc1, hQ1, l1, y1, z1⟩, st1⟩ := Jvm.LawKit.callS X0 hx (y := (⟨"com/example/bitmend/bitmend/PositionalColumnsPositionPinLaw", "power", "(II)J"⟩ : MethodName)) hown (mvT hZ (hw _ (List.mem_of_getElem? (i := 1) rfl))) (mvT hZ (hw _ (List.mem_of_getElem? (i := 2) rfl))) (mvT hZ (hw _ (List.mem_of_getElem? (i := 3) rfl))) (mvT hZ (hw _ (List.mem_of_getElem? (i := 4) rfl))) (by decide) (backOf (W := 0) (rm1 l Z a0 hw [] (2 : Int32) ((i1 &&& (2147483647 : Int32)) % (31 : Int32)) h0 n0 ) hZ (hw _ (List.mem_of_getElem? (i := 4) rfl)) (hw _ (List.mem_of_getElem? (i := 3) rfl)) (by decide) (by decide)) (g := (mkF m 71 #[.val (.int i0), .val (.int i1), .val (.int i2), .val (.int (0 : Int32)), .val (.int (2 : Int32)), .val (.int (30 : Int32)), .val (.int ((i1 &&& (2147483647 : Int32)) % (31 : Int32))), .unset, .unset, .unset, .unset, .unset, .unset, .unset, .unset, .unset, .unset] [(.int ((i1 &&& (2147483647 : Int32)) % (31 : Int32))), (.int (2 : Int32))])) rfl (by rw [hml]; rfl) (argsL := [(.int (2 : Int32)), (.int ((i1 &&& (2147483647 : Int32)) % (31 : Int32)))]) (rest := []) (lenOf pd_0 rfl) rfl (by show 2 * 0 + _ ≤ _; exact Nat.le_of_eq rfl) (hb hby at_71) (fun _ _ => ⟨rfl, e0, (by decide : 0 + 0 ≤ _), (by decide : 0 + 0 ≤ _)⟩)
    dsimp only [Pt.U, Pt.locs, Pt.cells, Pt.slots] at X1 l1 y1 z1 st1 hQ1
    subst l1 y1 z1
    obtain ⟨rfl, N1q, e1⟩ := hQ1
    have N1 := Fr.app N0 N1q
    obtain ⟨Lh1, X1, N1⟩ := hide X1 N1 (C := 0) (S := 0) (by decide) (by decide)
    refine Outs.of st1 ?_
    show Outs p e below s _ _ _ (T1.setTop (mkF m 74 #[.val (.int i0), .val (.int i1), .val (.int i2), .val (.int (0 : Int32)), .val (.int (2 : Int32)), .val (.int (30 : Int32)), .val (.int ((i1 &&& (2147483647 : Int32)) % (31 : Int32))), .unset, .unset, .unset, .unset, .unset, .unset, .unset, .unset, .unset, .unset] [(.long (F_f1 (2 : Int32) ((i1 &&& (2147483647 : Int32)) % (31 : Int32))))]))
    refine Outs.of (U' := T1.setTop (mkF m 84 #[.val (.int i0), .val (.int i1), .val (.int i2), .val (.int (0 : Int32)), .val (.int (2 : Int32)), .val (.int (30 : Int32)), .val (.int ((i1 &&& (2147483647 : Int32)) % (31 : Int32))), .val (.long (f0_v74 i0 i1 i2)), .second, .unset, .unset, .unset, .unset, .unset, .unset, .unset, .unset] [(.long ((2147483648 : Int64) - (f0_v74 i0 i1 i2))), (.long (f0_v74 i0 i1 i2))])) (fun t k => ?_) ?_
    · refine XS.lstore X1.here hx rfl (hb hby at_74) rfl (l' := #[.val (.int i0), .val (.int i1), .val (.int i2), .val (.int (0 : Int32)), .val (.int (2 : Int32)), .val (.int (30 : Int32)), .val (.int ((i1 &&& (2147483647 : Int32)) % (31 : Int32))), .val (.long (f0_v74 i0 i1 i2)), .second, .unset, .unset, .unset, .unset, .unset, .unset, .unset, .unset]) rfl ?_
      refine XS.lload X1.here hx rfl (hb hby at_76) rfl ?_
      refine X1.ldc2Long hx hown (mvT hZ (hw _ (List.mem_of_getElem? (i := 5) rfl))) (g := (mkF m 78 #[.val (.int i0), .val (.int i1), .val (.int i2), .val (.int (0 : Int32)), .val (.int (2 : Int32)), .val (.int (30 : Int32)), .val (.int ((i1 &&& (2147483647 : Int32)) % (31 : Int32))), .val (.long (f0_v74 i0 i1 i2)), .second, .unset, .unset, .unset, .unset, .unset, .unset, .unset, .unset] [(.long (f0_v74 i0 i1 i2))])) rfl (hb hby at_78) _ ?_
      refine XS.lload X1.here hx rfl (hb hby at_81) rfl ?_
      refine XS.lsub X1.here hx rfl (hb hby at_83) rfl ?_
      exact k
    obtain ⟨_, _, ⟨T2, L2, k2, n2⟩, -, X2, ⟨Lc2, hQ2, l2, y2, z2⟩, st2⟩ := Jvm.LawKit.callS X1 hx (y := (⟨"java/lang/Math", "min", "(JJ)J"⟩ : MethodName)) hown (mvT hZ (hw _ (List.mem_of_getElem? (i := 6) rfl))) (mvT hZ (hw _ (List.mem_of_getElem? (i := 7) rfl))) (mvT hZ (hw _ (List.mem_of_getElem? (i := 8) rfl))) (mvT hZ (hw _ (List.mem_of_getElem? (i := 9) rfl))) (by decide) (backOf (W := 0) (rm2 l Z a0 hw [] (f0_v74 i0 i1 i2) ((2147483648 : Int64) - (f0_v74 i0 i1 i2)) h0 n0 ) hZ (hw _ (List.mem_of_getElem? (i := 9) rfl)) (hw _ (List.mem_of_getElem? (i := 8) rfl)) (by decide) (by decide)) (g := (mkF m 84 #[.val (.int i0), .val (.int i1), .val (.int i2), .val (.int (0 : Int32)), .val (.int (2 : Int32)), .val (.int (30 : Int32)), .val (.int ((i1 &&& (2147483647 : Int32)) % (31 : Int32))), .val (.long (f0_v74 i0 i1 i2)), .second, .unset, .unset, .unset, .unset, .unset, .unset, .unset, .unset] [(.long ((2147483648 : Int64) - (f0_v74 i0 i1 i2))), (.long (f0_v74 i0 i1 i2))])) rfl (by rw [hml]; rfl) (argsL := [(.long (f0_v74 i0 i1 i2)), (.long ((2147483648 : Int64) - (f0_v74 i0 i1 i2)))]) (rest := []) (lenOf pd_1 rfl) rfl (by show 2 * 0 + _ ≤ _; exact Nat.le_of_eq rfl) (hb hby at_84) (fun _ _ => ⟨rfl, e1, (by decide : 0 + 0 ≤ _), (by decide : 0 + 0 ≤ _)⟩)
    dsimp only [Pt.U, Pt.locs, Pt.cells, Pt.slots] at X2 l2 y2 z2 st2 hQ2
    subst l2 y2 z2
    obtain ⟨rfl, N2q, e2⟩ := hQ2
    have N2 := Fr.app N1 N2q
    obtain ⟨Lh2, X2, N2⟩ := hide X2 N2 (C := 0) (S := 0) (by decide) (by decide)
    refine Outs.of st2 ?_
    show Outs p e below s _ _ _ (T2.setTop (mkF m 87 #[.val (.int i0), .val (.int i1), .val (.int i2), .val (.int (0 : Int32)), .val (.int (2 : Int32)), .val (.int (30 : Int32)), .val (.int ((i1 &&& (2147483647 : Int32)) % (31 : Int32))), .val (.long (f0_v74 i0 i1 i2)), .second, .unset, .unset, .unset, .unset, .unset, .unset, .unset, .unset] [(.long (F_f2 (f0_v74 i0 i1 i2) ((2147483648 : Int64) - (f0_v74 i0 i1 i2))))]))
    refine Outs.of (U' := T2.setTop (mkF m 103 #[.val (.int i0), .val (.int i1), .val (.int i2), .val (.int (0 : Int32)), .val (.int (2 : Int32)), .val (.int (30 : Int32)), .val (.int ((i1 &&& (2147483647 : Int32)) % (31 : Int32))), .val (.long (f0_v74 i0 i1 i2)), .second, .val (.long (f0_v87 i0 i1 i2)), .second, .val (.long (f0_v101 i0 i1 i2)), .second, .unset, .unset, .unset, .unset] [])) (fun t k => ?_) ?_
    · refine XS.lstore X2.here hx rfl (hb hby at_87) rfl (l' := #[.val (.int i0), .val (.int i1), .val (.int i2), .val (.int (0 : Int32)), .val (.int (2 : Int32)), .val (.int (30 : Int32)), .val (.int ((i1 &&& (2147483647 : Int32)) % (31 : Int32))), .val (.long (f0_v74 i0 i1 i2)), .second, .val (.long (f0_v87 i0 i1 i2)), .second, .unset, .unset, .unset, .unset, .unset, .unset]) rfl ?_
      refine XS.lload X2.here hx rfl (hb hby at_89) rfl ?_
      refine XS.iloadN X2.here hx rfl (hb hby at_91) rfl ?_
      refine XS.i2l X2.here hx rfl (hb hby at_92) rfl ?_
      refine X2.ldc2Long hx hown (mvT hZ (hw _ (List.mem_of_getElem? (i := 10) rfl))) (g := (mkF m 93 #[.val (.int i0), .val (.int i1), .val (.int i2), .val (.int (0 : Int32)), .val (.int (2 : Int32)), .val (.int (30 : Int32)), .val (.int ((i1 &&& (2147483647 : Int32)) % (31 : Int32))), .val (.long (f0_v74 i0 i1 i2)), .second, .val (.long (f0_v87 i0 i1 i2)), .second, .unset, .unset, .unset, .unset, .unset, .unset] [(.long (i2.toInt64)), (.long (f0_v74 i0 i1 i2))])) rfl (hb hby at_93) _ ?_
      refine XS.land X2.here hx rfl (hb hby at_96) rfl ?_
      refine XS.lload X2.here hx rfl (hb hby at_97) rfl ?_
      refine lremM X2 hx rfl (hb hby at_99) rfl (own_nz2 i0 i1 i2) ?_
      refine XS.ladd X2.here hx rfl (hb hby at_100) rfl ?_
      refine XS.lstore X2.here hx rfl (hb hby at_101) rfl (l' := #[.val (.int i0), .val (.int i1), .val (.int i2), .val (.int (0 : Int32)), .val (.int (2 : Int32)), .val (.int (30 : Int32)), .val (.int ((i1 &&& (2147483647 : Int32)) % (31 : Int32))), .val (.long (f0_v74 i0 i1 i2)), .second, .val (.long (f0_v87 i0 i1 i2)), .second, .val (.long (f0_v101 i0 i1 i2)), .second, .unset, .unset, .unset, .unset]) rfl ?_
      exact k
    obtain ⟨T3, h3, X3, e3, E3, A3, D3, -, st3⟩ := newO X2 hx hZ hown (hw _ (List.mem_of_getElem? (i := 11) rfl)) (hw _ (List.mem_of_getElem? (i := 12) rfl)) (hw _ (List.mem_of_getElem? (i := 13) rfl)) e2 (g := (mkF m 103 #[.val (.int i0), .val (.int i1), .val (.int i2), .val (.int (0 : Int32)), .val (.int (2 : Int32)), .val (.int (30 : Int32)), .val (.int ((i1 &&& (2147483647 : Int32)) % (31 : Int32))), .val (.long (f0_v74 i0 i1 i2)), .second, .val (.long (f0_v87 i0 i1 i2)), .second, .val (.long (f0_v101 i0 i1 i2)), .second, .unset, .unset, .unset, .unset] [])) rfl (hb hby at_103) (by decide) (by decide)
    obtain ⟨b3, g3⟩ : ∃ z, z = h0.size := ⟨_, rfl⟩
    rw [← g3] at A3 D3 st3
    have g_b3 : n0 ≤ b3 := Nat.le_trans Z0 (Nat.le_of_eq g3.symm)
    have F3_21 : Fld Z h3 b3 "com/example/bitmend/bitmend/PositionalColumns" "fieldSize" "I" (.int (0 : Int32)) := D3 (Or.inr (hw _ (List.mem_of_getElem? (i := 21) rfl))) (ty := .int) (by decide)
    have F3_40 : Fld Z h3 b3 "com/example/bitmend/bitmend/PositionalColumns" "checkPositions" "[J" .null := D3 (Or.inr (hw _ (List.mem_of_getElem? (i := 40) rfl))) (ty := (.array .long)) (by decide)
    refine Outs.of st3 ?_
    show Outs p e below s _ _ _ (T3.setTop (mkF m 106 #[.val (.int i0), .val (.int i1), .val (.int i2), .val (.int (0 : Int32)), .val (.int (2 : Int32)), .val (.int (30 : Int32)), .val (.int ((i1 &&& (2147483647 : Int32)) % (31 : Int32))), .val (.long (f0_v74 i0 i1 i2)), .second, .val (.long (f0_v87 i0 i1 i2)), .second, .val (.long (f0_v101 i0 i1 i2)), .second, .unset, .unset, .unset, .unset] [(.ref b3)]))
    refine Outs.of (U' := T3.setTop (mkF m 109 #[.val (.int i0), .val (.int i1), .val (.int i2), .val (.int (0 : Int32)), .val (.int (2 : Int32)), .val (.int (30 : Int32)), .val (.int ((i1 &&& (2147483647 : Int32)) % (31 : Int32))), .val (.long (f0_v74 i0 i1 i2)), .second, .val (.long (f0_v87 i0 i1 i2)), .second, .val (.long (f0_v101 i0 i1 i2)), .second, .unset, .unset, .unset, .unset] [(.int (2 : Int32)), (.ref b3), (.ref b3)])) (fun t k => ?_) ?_
    · refine XS.dup X3.here hx rfl (hb hby at_106) rfl rfl ?_
      refine XS.iload X3.here hx rfl (hb hby at_107) rfl ?_
      exact k
    obtain ⟨_, _, ⟨T4, L4, k4, n4⟩, -, X4, ⟨Lc4, hQ4, l4, y4, z4⟩, st4⟩ := X3.specialBack hx (y := (⟨"com/example/bitmend/bitmend/PositionalColumns", "<init>", "(I)V"⟩ : MethodName)) rfl hown (mvT hZ (hw _ (List.mem_of_getElem? (i := 14) rfl))) (mvT hZ (hw _ (List.mem_of_getElem? (i := 15) rfl))) (mvT hZ (hw _ (List.mem_of_getElem? (i := 16) rfl))) (by decide) (backOf (W := 1) (rmct2 l Z a0 hw [] b3 h3 n0 (Nat.le_trans Z0 E3.1) A3 g_b3 F3_21 F3_40) hZ (hw _ (List.mem_of_getElem? (i := 16) rfl)) (hw _ (List.mem_of_getElem? (i := 13) rfl)) (by decide) (by decide)) (g := (mkF m 109 #[.val (.int i0), .val (.int i1), .val (.int i2), .val (.int (0 : Int32)), .val (.int (2 : Int32)), .val (.int (30 : Int32)), .val (.int ((i1 &&& (2147483647 : Int32)) % (31 : Int32))), .val (.long (f0_v74 i0 i1 i2)), .second, .val (.long (f0_v87 i0 i1 i2)), .second, .val (.long (f0_v101 i0 i1 i2)), .second, .unset, .unset, .unset, .unset] [(.int (2 : Int32)), (.ref b3), (.ref b3)])) rfl (by rw [hml]; rfl) (Steps.refl _) (a := b3) (argsL := [(.int (2 : Int32))]) (rest := [(.ref b3)]) (lenOf pd_2 rfl) rfl (by show 2 * 0 + _ ≤ _; exact Nat.le_of_eq rfl) (hb hby at_109) (fun _ _ => ⟨rfl, e3, (by decide : 1 + 2 ≤ _), (by decide : 2 + 65 ≤ _)⟩)
    dsimp only [Pt.U, Pt.locs, Pt.cells, Pt.slots] at X4 l4 y4 z4 st4 hQ4
    subst l4 y4 z4
    obtain ⟨rfl, N4q, K4, u4_0, u4_1⟩ := hQ4
    have N4 := Fr.app N2 N4q
    obtain ⟨Lh4, X4, N4⟩ := hide X4 N4 (C := 3) (S := 67) (by decide) (by decide)
    refine Outs.to st4 ?_
    show Outs p e below s _ _ _ (T4.setTop (mkF m 112 #[.val (.int i0), .val (.int i1), .val (.int i2), .val (.int (0 : Int32)), .val (.int (2 : Int32)), .val (.int (30 : Int32)), .val (.int ((i1 &&& (2147483647 : Int32)) % (31 : Int32))), .val (.long (f0_v74 i0 i1 i2)), .second, .val (.long (f0_v87 i0 i1 i2)), .second, .val (.long (f0_v101 i0 i1 i2)), .second, .unset, .unset, .unset, .unset] [(.ref b3)]))
    refine Outs.of (U' := T4.setTop (mkF m 119 #[.val (.int i0), .val (.int i1), .val (.int i2), .val (.int (0 : Int32)), .val (.int (2 : Int32)), .val (.int (30 : Int32)), .val (.int ((i1 &&& (2147483647 : Int32)) % (31 : Int32))), .val (.long (f0_v74 i0 i1 i2)), .second, .val (.long (f0_v87 i0 i1 i2)), .second, .val (.long (f0_v101 i0 i1 i2)), .second, .val (.ref b3), .unset, .unset, .unset] [(.int ((f0_v101 i0 i1 i2).toInt32)), (.ref b3)])) (fun t k => ?_) ?_
    · refine XS.astore X4.here hx rfl (hb hby at_112) rfl rfl (l' := #[.val (.int i0), .val (.int i1), .val (.int i2), .val (.int (0 : Int32)), .val (.int (2 : Int32)), .val (.int (30 : Int32)), .val (.int ((i1 &&& (2147483647 : Int32)) % (31 : Int32))), .val (.long (f0_v74 i0 i1 i2)), .second, .val (.long (f0_v87 i0 i1 i2)), .second, .val (.long (f0_v101 i0 i1 i2)), .second, .val (.ref b3), .unset, .unset, .unset]) rfl ?_
      refine XS.aload X4.here hx rfl (hb hby at_114) rfl rfl ?_
      refine XS.lload X4.here hx rfl (hb hby at_116) rfl ?_
      refine XS.l2i X4.here hx rfl (hb hby at_118) rfl ?_
      exact k
    obtain ⟨cq5, kq5, q5a, q5b, q5c⟩ := isOf hZ rfl u4_0
    obtain ⟨_, _, ⟨T5, L5, k5, n5⟩, -, X5, ⟨Lc5, hQ5, l5, y5, z5⟩, st5⟩ := X4.virtualBack hx (y := (⟨"com/example/bitmend/bitmend/PositionalColumns", "position", "(I)I"⟩ : MethodName)) (z := (⟨"com/example/bitmend/bitmend/PositionalColumns", "position", "(I)I"⟩ : MethodName)) hown (mvT hZ (hw _ (List.mem_of_getElem? (i := 41) rfl))) (mvT hZ (hw _ (List.mem_of_getElem? (i := 42) rfl))) (notFace_of_selects (args := #[]) (mvT hZ (hw _ (List.mem_of_getElem? (i := 44) rfl)))) (mvT hZ (hw _ (List.mem_of_getElem? (i := 44) rfl))) (mvT hZ (hw _ (List.mem_of_getElem? (i := 43) rfl))) (by decide) (backOf (W := 0) (rm8 l Z a0 hw [] b3 ((f0_v101 i0 i1 i2).toInt32) (2 : Int32) (own_e2 i1) T4.heap n0 u4_1 (own_ok2 i0 i1 i2)) hZ (hw _ (List.mem_of_getElem? (i := 45) rfl)) (hw _ (List.mem_of_getElem? (i := 13) rfl)) (by decide) (by decide)) q5a q5c (g := (mkF m 119 #[.val (.int i0), .val (.int i1), .val (.int i2), .val (.int (0 : Int32)), .val (.int (2 : Int32)), .val (.int (30 : Int32)), .val (.int ((i1 &&& (2147483647 : Int32)) % (31 : Int32))), .val (.long (f0_v74 i0 i1 i2)), .second, .val (.long (f0_v87 i0 i1 i2)), .second, .val (.long (f0_v101 i0 i1 i2)), .second, .val (.ref b3), .unset, .unset, .unset] [(.int ((f0_v101 i0 i1 i2).toInt32)), (.ref b3)])) rfl (by rw [hml]; rfl) (Steps.refl _) (argsL := [(.int ((f0_v101 i0 i1 i2).toInt32))]) (rest := []) (lenOf pd_7 rfl) rfl (by show 2 * 0 + _ ≤ _; exact Nat.le_of_eq rfl) (hb hby at_119) (fun _ _ => ⟨rfl, rfl, (by decide : 3 + 0 ≤ _), (by decide : 67 + 0 ≤ _)⟩)
    dsimp only [Pt.U, Pt.locs, Pt.cells, Pt.slots] at X5 l5 y5 z5 st5 hQ5
    subst l5 y5 z5
    obtain ⟨rfl, N5q, e5⟩ := hQ5
    have N5 := Fr.app N4 N5q
    obtain ⟨Lh5, X5, N5⟩ := hide X5 N5 (C := 3) (S := 67) (by decide) (by decide)
    refine Outs.to st5 ?_
    show Outs p e below s _ _ _ (T5.setTop (mkF m 122 #[.val (.int i0), .val (.int i1), .val (.int i2), .val (.int (0 : Int32)), .val (.int (2 : Int32)), .val (.int (30 : Int32)), .val (.int ((i1 &&& (2147483647 : Int32)) % (31 : Int32))), .val (.long (f0_v74 i0 i1 i2)), .second, .val (.long (f0_v87 i0 i1 i2)), .second, .val (.long (f0_v101 i0 i1 i2)), .second, .val (.ref b3), .unset, .unset, .unset] [(.int (F_f8 ((f0_v101 i0 i1 i2).toInt32) (2 : Int32) (own_e2 i1)))]))
    refine Outs.of (U' := T5.setTop (mkF m 158 #[.val (.int i0), .val (.int i1), .val (.int i2), .val (.int (0 : Int32)), .val (.int (2 : Int32)), .val (.int (30 : Int32)), .val (.int ((i1 &&& (2147483647 : Int32)) % (31 : Int32))), .val (.long (f0_v74 i0 i1 i2)), .second, .val (.long (f0_v87 i0 i1 i2)), .second, .val (.long (f0_v101 i0 i1 i2)), .second, .val (.ref b3), .val (.int (F_f8 ((f0_v101 i0 i1 i2).toInt32) (2 : Int32) (own_e2 i1))), .val (.long (f0_v142 i0 i1 i2)), .second] [(.int (1 : Int32))])) (fun t k => ?_) ?_
    · refine XS.istore X5.here hx rfl (hb hby at_122) rfl (l' := #[.val (.int i0), .val (.int i1), .val (.int i2), .val (.int (0 : Int32)), .val (.int (2 : Int32)), .val (.int (30 : Int32)), .val (.int ((i1 &&& (2147483647 : Int32)) % (31 : Int32))), .val (.long (f0_v74 i0 i1 i2)), .second, .val (.long (f0_v87 i0 i1 i2)), .second, .val (.long (f0_v101 i0 i1 i2)), .second, .val (.ref b3), .val (.int (F_f8 ((f0_v101 i0 i1 i2).toInt32) (2 : Int32) (own_e2 i1))), .unset, .unset]) rfl ?_
      refine XS.lload X5.here hx rfl (hb hby at_124) rfl ?_
      refine XS.lconst X5.here hx rfl (hb hby at_126) ?_
      refine XS.lsub X5.here hx rfl (hb hby at_127) rfl ?_
      refine XS.iload X5.here hx rfl (hb hby at_128) rfl ?_
      refine XS.iconst X5.here hx rfl (hb hby at_130) ?_
      refine XS.isub X5.here hx rfl (hb hby at_131) rfl ?_
      refine XS.i2l X5.here hx rfl (hb hby at_132) rfl ?_
      refine XS.ldiv X5.here hx rfl (hb hby at_133) rfl (by decide) ?_
      refine XS.lconst X5.here hx rfl (hb hby at_134) ?_
      refine XS.ladd X5.here hx rfl (hb hby at_135) rfl ?_
      refine XS.lload X5.here hx rfl (hb hby at_136) rfl ?_
      refine XS.lload X5.here hx rfl (hb hby at_138) rfl ?_
      refine XS.lsub X5.here hx rfl (hb hby at_140) rfl ?_
      refine XS.ladd X5.here hx rfl (hb hby at_141) rfl ?_
      refine XS.lstore X5.here hx rfl (hb hby at_142) rfl (l' := #[.val (.int i0), .val (.int i1), .val (.int i2), .val (.int (0 : Int32)), .val (.int (2 : Int32)), .val (.int (30 : Int32)), .val (.int ((i1 &&& (2147483647 : Int32)) % (31 : Int32))), .val (.long (f0_v74 i0 i1 i2)), .second, .val (.long (f0_v87 i0 i1 i2)), .second, .val (.long (f0_v101 i0 i1 i2)), .second, .val (.ref b3), .val (.int (F_f8 ((f0_v101 i0 i1 i2).toInt32) (2 : Int32) (own_e2 i1))), .val (.long (f0_v142 i0 i1 i2)), .second]) rfl ?_
      refine XS.iload X5.here hx rfl (hb hby at_144) rfl ?_
      refine XS.i2l X5.here hx rfl (hb hby at_146) rfl ?_
      refine XS.lload X5.here hx rfl (hb hby at_147) rfl ?_
      refine XS.lcmp X5.here hx rfl (hb hby at_149) rfl ?_
      refine XS.ifNo X5.here hx rfl (hb hby at_150) rfl ((if0 _ _).trans (teq ((lw_eq _ _).mpr (law_fin2 i0 i1 i2))).2) ?_
      refine XS.iconst X5.here hx rfl (hb hby at_153) ?_
      refine XS.goto X5.here hx rfl (pc0 := 154) (pc' := 158) rfl (hb hby at_154) (by decide) (by decide) ?_
      exact k
    exact Outs.retN (t := .boolean) (z := (1 : Int32)) X5 hx hret (by simp) (hb hby at_158) hlk (by decide) (by decide) e5 ⟨rfl, N5⟩
  · rw [qk]
    show Outs p e below s _ _ _ (s₁.setTop (mkF m 4 #[.val (.int i0), .val (.int i1), .val (.int i2), .val (.int (1 : Int32)), .unset, .unset, .unset, .unset, .unset, .unset, .unset, .unset, .unset, .unset, .unset, .unset, .unset] []))
    refine Outs.of (U' := s₁.setTop (mkF m 71 #[.val (.int i0), .val (.int i1), .val (.int i2), .val (.int (1 : Int32)), .val (.int (3 : Int32)), .val (.int (19 : Int32)), .val (.int ((i1 &&& (2147483647 : Int32)) % (20 : Int32))), .unset, .unset, .unset, .unset, .unset, .unset, .unset, .unset, .unset, .unset] [(.int ((i1 &&& (2147483647 : Int32)) % (20 : Int32))), (.int (3 : Int32))])) (fun t k => ?_) ?_
    · refine XS.iloadN X0.here hx rfl (hb hby at_4) rfl ?_
      refine XS.ifYes X0.here hx rfl (pc0 := 5) (pc' := 18) rfl (hb hby at_5) rfl ((if0 _ _).trans (feq (show ¬ ((1 : Int32) = (0 : Int32)) from (by decide))).2) (by decide) (by decide) ?_
      refine XS.iloadN X0.here hx rfl (hb hby at_18) rfl ?_
      refine XS.iconst X0.here hx rfl (hb hby at_19) ?_
      refine XS.icmpNo X0.here hx rfl (hb hby at_20) rfl (teq (show (1 : Int32) = (1 : Int32) from (by decide))).2 ?_
      refine XS.iconst X0.here hx rfl (hb hby at_23) ?_
      refine XS.istore X0.here hx rfl (hb hby at_24) rfl (l' := #[.val (.int i0), .val (.int i1), .val (.int i2), .val (.int (1 : Int32)), .val (.int (3 : Int32)), .unset, .unset, .unset, .unset, .unset, .unset, .unset, .unset, .unset, .unset, .unset, .unset]) rfl ?_
      refine XS.bipush X0.here hx rfl (hb hby at_26) ?_
      refine XS.istore X0.here hx rfl (hb hby at_28) rfl (l' := #[.val (.int i0), .val (.int i1), .val (.int i2), .val (.int (1 : Int32)), .val (.int (3 : Int32)), .val (.int (19 : Int32)), .unset, .unset, .unset, .unset, .unset, .unset, .unset, .unset, .unset, .unset, .unset]) rfl ?_
      refine XS.goto X0.here hx rfl (pc0 := 30) (pc' := 56) rfl (hb hby at_30) (by decide) (by decide) ?_
      refine XS.iloadN X0.here hx rfl (hb hby at_56) rfl ?_
      refine X0.ldcInt hx hown (mvT hZ (hw _ (List.mem_of_getElem? (i := 0) rfl))) (g := (mkF m 57 #[.val (.int i0), .val (.int i1), .val (.int i2), .val (.int (1 : Int32)), .val (.int (3 : Int32)), .val (.int (19 : Int32)), .unset, .unset, .unset, .unset, .unset, .unset, .unset, .unset, .unset, .unset, .unset] [(.int i1)])) rfl (hb hby at_57) _ ?_
      refine XS.iand X0.here hx rfl (hb hby at_59) rfl ?_
      refine XS.iload X0.here hx rfl (hb hby at_60) rfl ?_
      refine XS.iconst X0.here hx rfl (hb hby at_62) ?_
      refine XS.iadd X0.here hx rfl (hb hby at_63) rfl ?_
      refine iremM X0 hx rfl (hb hby at_64) rfl (by decide) ?_
      refine XS.istore X0.here hx rfl (hb hby at_65) rfl (l' := #[.val (.int i0), .val (.int i1), .val (.int i2), .val (.int (1 : Int32)), .val (.int (3 : Int32)), .val (.int (19 : Int32)), .val (.int ((i1 &&& (2147483647 : Int32)) % (20 : Int32))), .unset, .unset, .unset, .unset, .unset, .unset, .unset, .unset, .unset, .unset]) rfl ?_
      refine XS.iload X0.here hx rfl (hb hby at_67) rfl ?_
      refine XS.iload X0.here hx rfl (hb hby at_69) rfl ?_
      exact k
    obtain ⟨_, _, ⟨T6, L6, k6, n6⟩, -, X6, ⟨Lc6, hQ6, l6, y6, z6⟩, st6⟩ := Jvm.LawKit.callS X0 hx (y := (⟨"com/example/bitmend/bitmend/PositionalColumnsPositionPinLaw", "power", "(II)J"⟩ : MethodName)) hown (mvT hZ (hw _ (List.mem_of_getElem? (i := 1) rfl))) (mvT hZ (hw _ (List.mem_of_getElem? (i := 2) rfl))) (mvT hZ (hw _ (List.mem_of_getElem? (i := 3) rfl))) (mvT hZ (hw _ (List.mem_of_getElem? (i := 4) rfl))) (by decide) (backOf (W := 0) (rm1 l Z a0 hw [] (3 : Int32) ((i1 &&& (2147483647 : Int32)) % (20 : Int32)) h0 n0 ) hZ (hw _ (List.mem_of_getElem? (i := 4) rfl)) (hw _ (List.mem_of_getElem? (i := 3) rfl)) (by decide) (by decide)) (g := (mkF m 71 #[.val (.int i0), .val (.int i1), .val (.int i2), .val (.int (1 : Int32)), .val (.int (3 : Int32)), .val (.int (19 : Int32)), .val (.int ((i1 &&& (2147483647 : Int32)) % (20 : Int32))), .unset, .unset, .unset, .unset, .unset, .unset, .unset, .unset, .unset, .unset] [(.int ((i1 &&& (2147483647 : Int32)) % (20 : Int32))), (.int (3 : Int32))])) rfl (by rw [hml]; rfl) (argsL := [(.int (3 : Int32)), (.int ((i1 &&& (2147483647 : Int32)) % (20 : Int32)))]) (rest := []) (lenOf pd_0 rfl) rfl (by show 2 * 0 + _ ≤ _; exact Nat.le_of_eq rfl) (hb hby at_71) (fun _ _ => ⟨rfl, e0, (by decide : 0 + 0 ≤ _), (by decide : 0 + 0 ≤ _)⟩)
    dsimp only [Pt.U, Pt.locs, Pt.cells, Pt.slots] at X6 l6 y6 z6 st6 hQ6
    subst l6 y6 z6
    obtain ⟨rfl, N6q, e6⟩ := hQ6
    have N6 := Fr.app N0 N6q
    obtain ⟨Lh6, X6, N6⟩ := hide X6 N6 (C := 0) (S := 0) (by decide) (by decide)
    refine Outs.of st6 ?_
    show Outs p e below s _ _ _ (T6.setTop (mkF m 74 #[.val (.int i0), .val (.int i1), .val (.int i2), .val (.int (1 : Int32)), .val (.int (3 : Int32)), .val (.int (19 : Int32)), .val (.int ((i1 &&& (2147483647 : Int32)) % (20 : Int32))), .unset, .unset, .unset, .unset, .unset, .unset, .unset, .unset, .unset, .unset] [(.long (F_f1 (3 : Int32) ((i1 &&& (2147483647 : Int32)) % (20 : Int32))))]))
    refine Outs.of (U' := T6.setTop (mkF m 84 #[.val (.int i0), .val (.int i1), .val (.int i2), .val (.int (1 : Int32)), .val (.int (3 : Int32)), .val (.int (19 : Int32)), .val (.int ((i1 &&& (2147483647 : Int32)) % (20 : Int32))), .val (.long (f0_v74a i0 i1 i2)), .second, .unset, .unset, .unset, .unset, .unset, .unset, .unset, .unset] [(.long ((2147483648 : Int64) - (f0_v74a i0 i1 i2))), (.long (f0_v74a i0 i1 i2))])) (fun t k => ?_) ?_
    · refine XS.lstore X6.here hx rfl (hb hby at_74) rfl (l' := #[.val (.int i0), .val (.int i1), .val (.int i2), .val (.int (1 : Int32)), .val (.int (3 : Int32)), .val (.int (19 : Int32)), .val (.int ((i1 &&& (2147483647 : Int32)) % (20 : Int32))), .val (.long (f0_v74a i0 i1 i2)), .second, .unset, .unset, .unset, .unset, .unset, .unset, .unset, .unset]) rfl ?_
      refine XS.lload X6.here hx rfl (hb hby at_76) rfl ?_
      refine X6.ldc2Long hx hown (mvT hZ (hw _ (List.mem_of_getElem? (i := 5) rfl))) (g := (mkF m 78 #[.val (.int i0), .val (.int i1), .val (.int i2), .val (.int (1 : Int32)), .val (.int (3 : Int32)), .val (.int (19 : Int32)), .val (.int ((i1 &&& (2147483647 : Int32)) % (20 : Int32))), .val (.long (f0_v74a i0 i1 i2)), .second, .unset, .unset, .unset, .unset, .unset, .unset, .unset, .unset] [(.long (f0_v74a i0 i1 i2))])) rfl (hb hby at_78) _ ?_
      refine XS.lload X6.here hx rfl (hb hby at_81) rfl ?_
      refine XS.lsub X6.here hx rfl (hb hby at_83) rfl ?_
      exact k
    obtain ⟨_, _, ⟨T7, L7, k7, n7⟩, -, X7, ⟨Lc7, hQ7, l7, y7, z7⟩, st7⟩ := Jvm.LawKit.callS X6 hx (y := (⟨"java/lang/Math", "min", "(JJ)J"⟩ : MethodName)) hown (mvT hZ (hw _ (List.mem_of_getElem? (i := 6) rfl))) (mvT hZ (hw _ (List.mem_of_getElem? (i := 7) rfl))) (mvT hZ (hw _ (List.mem_of_getElem? (i := 8) rfl))) (mvT hZ (hw _ (List.mem_of_getElem? (i := 9) rfl))) (by decide) (backOf (W := 0) (rm2 l Z a0 hw [] (f0_v74a i0 i1 i2) ((2147483648 : Int64) - (f0_v74a i0 i1 i2)) h0 n0 ) hZ (hw _ (List.mem_of_getElem? (i := 9) rfl)) (hw _ (List.mem_of_getElem? (i := 8) rfl)) (by decide) (by decide)) (g := (mkF m 84 #[.val (.int i0), .val (.int i1), .val (.int i2), .val (.int (1 : Int32)), .val (.int (3 : Int32)), .val (.int (19 : Int32)), .val (.int ((i1 &&& (2147483647 : Int32)) % (20 : Int32))), .val (.long (f0_v74a i0 i1 i2)), .second, .unset, .unset, .unset, .unset, .unset, .unset, .unset, .unset] [(.long ((2147483648 : Int64) - (f0_v74a i0 i1 i2))), (.long (f0_v74a i0 i1 i2))])) rfl (by rw [hml]; rfl) (argsL := [(.long (f0_v74a i0 i1 i2)), (.long ((2147483648 : Int64) - (f0_v74a i0 i1 i2)))]) (rest := []) (lenOf pd_1 rfl) rfl (by show 2 * 0 + _ ≤ _; exact Nat.le_of_eq rfl) (hb hby at_84) (fun _ _ => ⟨rfl, e6, (by decide : 0 + 0 ≤ _), (by decide : 0 + 0 ≤ _)⟩)
    dsimp only [Pt.U, Pt.locs, Pt.cells, Pt.slots] at X7 l7 y7 z7 st7 hQ7
    subst l7 y7 z7
    obtain ⟨rfl, N7q, e7⟩ := hQ7
    have N7 := Fr.app N6 N7q
    obtain ⟨Lh7, X7, N7⟩ := hide X7 N7 (C := 0) (S := 0) (by decide) (by decide)
    refine Outs.of st7 ?_
    show Outs p e below s _ _ _ (T7.setTop (mkF m 87 #[.val (.int i0), .val (.int i1), .val (.int i2), .val (.int (1 : Int32)), .val (.int (3 : Int32)), .val (.int (19 : Int32)), .val (.int ((i1 &&& (2147483647 : Int32)) % (20 : Int32))), .val (.long (f0_v74a i0 i1 i2)), .second, .unset, .unset, .unset, .unset, .unset, .unset, .unset, .unset] [(.long (F_f2 (f0_v74a i0 i1 i2) ((2147483648 : Int64) - (f0_v74a i0 i1 i2))))]))
    refine Outs.of (U' := T7.setTop (mkF m 103 #[.val (.int i0), .val (.int i1), .val (.int i2), .val (.int (1 : Int32)), .val (.int (3 : Int32)), .val (.int (19 : Int32)), .val (.int ((i1 &&& (2147483647 : Int32)) % (20 : Int32))), .val (.long (f0_v74a i0 i1 i2)), .second, .val (.long (f0_v87a i0 i1 i2)), .second, .val (.long (f0_v101a i0 i1 i2)), .second, .unset, .unset, .unset, .unset] [])) (fun t k => ?_) ?_
    · refine XS.lstore X7.here hx rfl (hb hby at_87) rfl (l' := #[.val (.int i0), .val (.int i1), .val (.int i2), .val (.int (1 : Int32)), .val (.int (3 : Int32)), .val (.int (19 : Int32)), .val (.int ((i1 &&& (2147483647 : Int32)) % (20 : Int32))), .val (.long (f0_v74a i0 i1 i2)), .second, .val (.long (f0_v87a i0 i1 i2)), .second, .unset, .unset, .unset, .unset, .unset, .unset]) rfl ?_
      refine XS.lload X7.here hx rfl (hb hby at_89) rfl ?_
      refine XS.iloadN X7.here hx rfl (hb hby at_91) rfl ?_
      refine XS.i2l X7.here hx rfl (hb hby at_92) rfl ?_
      refine X7.ldc2Long hx hown (mvT hZ (hw _ (List.mem_of_getElem? (i := 10) rfl))) (g := (mkF m 93 #[.val (.int i0), .val (.int i1), .val (.int i2), .val (.int (1 : Int32)), .val (.int (3 : Int32)), .val (.int (19 : Int32)), .val (.int ((i1 &&& (2147483647 : Int32)) % (20 : Int32))), .val (.long (f0_v74a i0 i1 i2)), .second, .val (.long (f0_v87a i0 i1 i2)), .second, .unset, .unset, .unset, .unset, .unset, .unset] [(.long (i2.toInt64)), (.long (f0_v74a i0 i1 i2))])) rfl (hb hby at_93) _ ?_
      refine XS.land X7.here hx rfl (hb hby at_96) rfl ?_
      refine XS.lload X7.here hx rfl (hb hby at_97) rfl ?_
      refine lremM X7 hx rfl (hb hby at_99) rfl (own_nz3 i0 i1 i2) ?_
      refine XS.ladd X7.here hx rfl (hb hby at_100) rfl ?_
      refine XS.lstore X7.here hx rfl (hb hby at_101) rfl (l' := #[.val (.int i0), .val (.int i1), .val (.int i2), .val (.int (1 : Int32)), .val (.int (3 : Int32)), .val (.int (19 : Int32)), .val (.int ((i1 &&& (2147483647 : Int32)) % (20 : Int32))), .val (.long (f0_v74a i0 i1 i2)), .second, .val (.long (f0_v87a i0 i1 i2)), .second, .val (.long (f0_v101a i0 i1 i2)), .second, .unset, .unset, .unset, .unset]) rfl ?_
      exact k
    obtain ⟨T8, h8, X8, e8, E8, A8, D8, -, st8⟩ := newO X7 hx hZ hown (hw _ (List.mem_of_getElem? (i := 11) rfl)) (hw _ (List.mem_of_getElem? (i := 12) rfl)) (hw _ (List.mem_of_getElem? (i := 13) rfl)) e7 (g := (mkF m 103 #[.val (.int i0), .val (.int i1), .val (.int i2), .val (.int (1 : Int32)), .val (.int (3 : Int32)), .val (.int (19 : Int32)), .val (.int ((i1 &&& (2147483647 : Int32)) % (20 : Int32))), .val (.long (f0_v74a i0 i1 i2)), .second, .val (.long (f0_v87a i0 i1 i2)), .second, .val (.long (f0_v101a i0 i1 i2)), .second, .unset, .unset, .unset, .unset] [])) rfl (hb hby at_103) (by decide) (by decide)
    obtain ⟨b8, g8⟩ : ∃ z, z = h0.size := ⟨_, rfl⟩
    rw [← g8] at A8 D8 st8
    have g_b8 : n0 ≤ b8 := Nat.le_trans Z0 (Nat.le_of_eq g8.symm)
    have F8_21 : Fld Z h8 b8 "com/example/bitmend/bitmend/PositionalColumns" "fieldSize" "I" (.int (0 : Int32)) := D8 (Or.inr (hw _ (List.mem_of_getElem? (i := 21) rfl))) (ty := .int) (by decide)
    have F8_40 : Fld Z h8 b8 "com/example/bitmend/bitmend/PositionalColumns" "checkPositions" "[J" .null := D8 (Or.inr (hw _ (List.mem_of_getElem? (i := 40) rfl))) (ty := (.array .long)) (by decide)
    refine Outs.of st8 ?_
    show Outs p e below s _ _ _ (T8.setTop (mkF m 106 #[.val (.int i0), .val (.int i1), .val (.int i2), .val (.int (1 : Int32)), .val (.int (3 : Int32)), .val (.int (19 : Int32)), .val (.int ((i1 &&& (2147483647 : Int32)) % (20 : Int32))), .val (.long (f0_v74a i0 i1 i2)), .second, .val (.long (f0_v87a i0 i1 i2)), .second, .val (.long (f0_v101a i0 i1 i2)), .second, .unset, .unset, .unset, .unset] [(.ref b8)]))
    refine Outs.of (U' := T8.setTop (mkF m 109 #[.val (.int i0), .val (.int i1), .val (.int i2), .val (.int (1 : Int32)), .val (.int (3 : Int32)), .val (.int (19 : Int32)), .val (.int ((i1 &&& (2147483647 : Int32)) % (20 : Int32))), .val (.long (f0_v74a i0 i1 i2)), .second, .val (.long (f0_v87a i0 i1 i2)), .second, .val (.long (f0_v101a i0 i1 i2)), .second, .unset, .unset, .unset, .unset] [(.int (3 : Int32)), (.ref b8), (.ref b8)])) (fun t k => ?_) ?_
    · refine XS.dup X8.here hx rfl (hb hby at_106) rfl rfl ?_
      refine XS.iload X8.here hx rfl (hb hby at_107) rfl ?_
      exact k
    obtain ⟨_, _, ⟨T9, L9, k9, n9⟩, -, X9, ⟨Lc9, hQ9, l9, y9, z9⟩, st9⟩ := X8.specialBack hx (y := (⟨"com/example/bitmend/bitmend/PositionalColumns", "<init>", "(I)V"⟩ : MethodName)) rfl hown (mvT hZ (hw _ (List.mem_of_getElem? (i := 14) rfl))) (mvT hZ (hw _ (List.mem_of_getElem? (i := 15) rfl))) (mvT hZ (hw _ (List.mem_of_getElem? (i := 16) rfl))) (by decide) (backOf (W := 1) (rmct3 l Z a0 hw [] b8 h8 n0 (Nat.le_trans Z0 E8.1) A8 g_b8 F8_21 F8_40) hZ (hw _ (List.mem_of_getElem? (i := 16) rfl)) (hw _ (List.mem_of_getElem? (i := 13) rfl)) (by decide) (by decide)) (g := (mkF m 109 #[.val (.int i0), .val (.int i1), .val (.int i2), .val (.int (1 : Int32)), .val (.int (3 : Int32)), .val (.int (19 : Int32)), .val (.int ((i1 &&& (2147483647 : Int32)) % (20 : Int32))), .val (.long (f0_v74a i0 i1 i2)), .second, .val (.long (f0_v87a i0 i1 i2)), .second, .val (.long (f0_v101a i0 i1 i2)), .second, .unset, .unset, .unset, .unset] [(.int (3 : Int32)), (.ref b8), (.ref b8)])) rfl (by rw [hml]; rfl) (Steps.refl _) (a := b8) (argsL := [(.int (3 : Int32))]) (rest := [(.ref b8)]) (lenOf pd_2 rfl) rfl (by show 2 * 0 + _ ≤ _; exact Nat.le_of_eq rfl) (hb hby at_109) (fun _ _ => ⟨rfl, e8, (by decide : 1 + 2 ≤ _), (by decide : 2 + 55 ≤ _)⟩)
    dsimp only [Pt.U, Pt.locs, Pt.cells, Pt.slots] at X9 l9 y9 z9 st9 hQ9
    subst l9 y9 z9
    obtain ⟨rfl, N9q, K9, u9_0, u9_1⟩ := hQ9
    have N9 := Fr.app N7 N9q
    obtain ⟨Lh9, X9, N9⟩ := hide X9 N9 (C := 3) (S := 57) (by decide) (by decide)
    refine Outs.to st9 ?_
    show Outs p e below s _ _ _ (T9.setTop (mkF m 112 #[.val (.int i0), .val (.int i1), .val (.int i2), .val (.int (1 : Int32)), .val (.int (3 : Int32)), .val (.int (19 : Int32)), .val (.int ((i1 &&& (2147483647 : Int32)) % (20 : Int32))), .val (.long (f0_v74a i0 i1 i2)), .second, .val (.long (f0_v87a i0 i1 i2)), .second, .val (.long (f0_v101a i0 i1 i2)), .second, .unset, .unset, .unset, .unset] [(.ref b8)]))
    refine Outs.of (U' := T9.setTop (mkF m 119 #[.val (.int i0), .val (.int i1), .val (.int i2), .val (.int (1 : Int32)), .val (.int (3 : Int32)), .val (.int (19 : Int32)), .val (.int ((i1 &&& (2147483647 : Int32)) % (20 : Int32))), .val (.long (f0_v74a i0 i1 i2)), .second, .val (.long (f0_v87a i0 i1 i2)), .second, .val (.long (f0_v101a i0 i1 i2)), .second, .val (.ref b8), .unset, .unset, .unset] [(.int ((f0_v101a i0 i1 i2).toInt32)), (.ref b8)])) (fun t k => ?_) ?_
    · refine XS.astore X9.here hx rfl (hb hby at_112) rfl rfl (l' := #[.val (.int i0), .val (.int i1), .val (.int i2), .val (.int (1 : Int32)), .val (.int (3 : Int32)), .val (.int (19 : Int32)), .val (.int ((i1 &&& (2147483647 : Int32)) % (20 : Int32))), .val (.long (f0_v74a i0 i1 i2)), .second, .val (.long (f0_v87a i0 i1 i2)), .second, .val (.long (f0_v101a i0 i1 i2)), .second, .val (.ref b8), .unset, .unset, .unset]) rfl ?_
      refine XS.aload X9.here hx rfl (hb hby at_114) rfl rfl ?_
      refine XS.lload X9.here hx rfl (hb hby at_116) rfl ?_
      refine XS.l2i X9.here hx rfl (hb hby at_118) rfl ?_
      exact k
    obtain ⟨cq10, kq10, q10a, q10b, q10c⟩ := isOf hZ rfl u9_0
    obtain ⟨_, _, ⟨T10, L10, k10, n10⟩, -, X10, ⟨Lc10, hQ10, l10, y10, z10⟩, st10⟩ := X9.virtualBack hx (y := (⟨"com/example/bitmend/bitmend/PositionalColumns", "position", "(I)I"⟩ : MethodName)) (z := (⟨"com/example/bitmend/bitmend/PositionalColumns", "position", "(I)I"⟩ : MethodName)) hown (mvT hZ (hw _ (List.mem_of_getElem? (i := 41) rfl))) (mvT hZ (hw _ (List.mem_of_getElem? (i := 42) rfl))) (notFace_of_selects (args := #[]) (mvT hZ (hw _ (List.mem_of_getElem? (i := 44) rfl)))) (mvT hZ (hw _ (List.mem_of_getElem? (i := 44) rfl))) (mvT hZ (hw _ (List.mem_of_getElem? (i := 43) rfl))) (by decide) (backOf (W := 0) (rm8 l Z a0 hw [] b8 ((f0_v101a i0 i1 i2).toInt32) (3 : Int32) (own_e3 i1) T9.heap n0 u9_1 (own_ok3 i0 i1 i2)) hZ (hw _ (List.mem_of_getElem? (i := 45) rfl)) (hw _ (List.mem_of_getElem? (i := 13) rfl)) (by decide) (by decide)) q10a q10c (g := (mkF m 119 #[.val (.int i0), .val (.int i1), .val (.int i2), .val (.int (1 : Int32)), .val (.int (3 : Int32)), .val (.int (19 : Int32)), .val (.int ((i1 &&& (2147483647 : Int32)) % (20 : Int32))), .val (.long (f0_v74a i0 i1 i2)), .second, .val (.long (f0_v87a i0 i1 i2)), .second, .val (.long (f0_v101a i0 i1 i2)), .second, .val (.ref b8), .unset, .unset, .unset] [(.int ((f0_v101a i0 i1 i2).toInt32)), (.ref b8)])) rfl (by rw [hml]; rfl) (Steps.refl _) (argsL := [(.int ((f0_v101a i0 i1 i2).toInt32))]) (rest := []) (lenOf pd_7 rfl) rfl (by show 2 * 0 + _ ≤ _; exact Nat.le_of_eq rfl) (hb hby at_119) (fun _ _ => ⟨rfl, rfl, (by decide : 3 + 0 ≤ _), (by decide : 57 + 0 ≤ _)⟩)
    dsimp only [Pt.U, Pt.locs, Pt.cells, Pt.slots] at X10 l10 y10 z10 st10 hQ10
    subst l10 y10 z10
    obtain ⟨rfl, N10q, e10⟩ := hQ10
    have N10 := Fr.app N9 N10q
    obtain ⟨Lh10, X10, N10⟩ := hide X10 N10 (C := 3) (S := 57) (by decide) (by decide)
    refine Outs.to st10 ?_
    show Outs p e below s _ _ _ (T10.setTop (mkF m 122 #[.val (.int i0), .val (.int i1), .val (.int i2), .val (.int (1 : Int32)), .val (.int (3 : Int32)), .val (.int (19 : Int32)), .val (.int ((i1 &&& (2147483647 : Int32)) % (20 : Int32))), .val (.long (f0_v74a i0 i1 i2)), .second, .val (.long (f0_v87a i0 i1 i2)), .second, .val (.long (f0_v101a i0 i1 i2)), .second, .val (.ref b8), .unset, .unset, .unset] [(.int (F_f8 ((f0_v101a i0 i1 i2).toInt32) (3 : Int32) (own_e3 i1)))]))
    refine Outs.of (U' := T10.setTop (mkF m 158 #[.val (.int i0), .val (.int i1), .val (.int i2), .val (.int (1 : Int32)), .val (.int (3 : Int32)), .val (.int (19 : Int32)), .val (.int ((i1 &&& (2147483647 : Int32)) % (20 : Int32))), .val (.long (f0_v74a i0 i1 i2)), .second, .val (.long (f0_v87a i0 i1 i2)), .second, .val (.long (f0_v101a i0 i1 i2)), .second, .val (.ref b8), .val (.int (F_f8 ((f0_v101a i0 i1 i2).toInt32) (3 : Int32) (own_e3 i1))), .val (.long (f0_v142a i0 i1 i2)), .second] [(.int (1 : Int32))])) (fun t k => ?_) ?_
    · refine XS.istore X10.here hx rfl (hb hby at_122) rfl (l' := #[.val (.int i0), .val (.int i1), .val (.int i2), .val (.int (1 : Int32)), .val (.int (3 : Int32)), .val (.int (19 : Int32)), .val (.int ((i1 &&& (2147483647 : Int32)) % (20 : Int32))), .val (.long (f0_v74a i0 i1 i2)), .second, .val (.long (f0_v87a i0 i1 i2)), .second, .val (.long (f0_v101a i0 i1 i2)), .second, .val (.ref b8), .val (.int (F_f8 ((f0_v101a i0 i1 i2).toInt32) (3 : Int32) (own_e3 i1))), .unset, .unset]) rfl ?_
      refine XS.lload X10.here hx rfl (hb hby at_124) rfl ?_
      refine XS.lconst X10.here hx rfl (hb hby at_126) ?_
      refine XS.lsub X10.here hx rfl (hb hby at_127) rfl ?_
      refine XS.iload X10.here hx rfl (hb hby at_128) rfl ?_
      refine XS.iconst X10.here hx rfl (hb hby at_130) ?_
      refine XS.isub X10.here hx rfl (hb hby at_131) rfl ?_
      refine XS.i2l X10.here hx rfl (hb hby at_132) rfl ?_
      refine XS.ldiv X10.here hx rfl (hb hby at_133) rfl (by decide) ?_
      refine XS.lconst X10.here hx rfl (hb hby at_134) ?_
      refine XS.ladd X10.here hx rfl (hb hby at_135) rfl ?_
      refine XS.lload X10.here hx rfl (hb hby at_136) rfl ?_
      refine XS.lload X10.here hx rfl (hb hby at_138) rfl ?_
      refine XS.lsub X10.here hx rfl (hb hby at_140) rfl ?_
      refine XS.ladd X10.here hx rfl (hb hby at_141) rfl ?_
      refine XS.lstore X10.here hx rfl (hb hby at_142) rfl (l' := #[.val (.int i0), .val (.int i1), .val (.int i2), .val (.int (1 : Int32)), .val (.int (3 : Int32)), .val (.int (19 : Int32)), .val (.int ((i1 &&& (2147483647 : Int32)) % (20 : Int32))), .val (.long (f0_v74a i0 i1 i2)), .second, .val (.long (f0_v87a i0 i1 i2)), .second, .val (.long (f0_v101a i0 i1 i2)), .second, .val (.ref b8), .val (.int (F_f8 ((f0_v101a i0 i1 i2).toInt32) (3 : Int32) (own_e3 i1))), .val (.long (f0_v142a i0 i1 i2)), .second]) rfl ?_
      refine XS.iload X10.here hx rfl (hb hby at_144) rfl ?_
      refine XS.i2l X10.here hx rfl (hb hby at_146) rfl ?_
      refine XS.lload X10.here hx rfl (hb hby at_147) rfl ?_
      refine XS.lcmp X10.here hx rfl (hb hby at_149) rfl ?_
      refine XS.ifNo X10.here hx rfl (hb hby at_150) rfl ((if0 _ _).trans (teq ((lw_eq _ _).mpr (law_fin3 i0 i1 i2))).2) ?_
      refine XS.iconst X10.here hx rfl (hb hby at_153) ?_
      refine XS.goto X10.here hx rfl (pc0 := 154) (pc' := 158) rfl (hb hby at_154) (by decide) (by decide) ?_
      exact k
    exact Outs.retN (t := .boolean) (z := (1 : Int32)) X10 hx hret (by simp) (hb hby at_158) hlk (by decide) (by decide) e10 ⟨rfl, N10⟩
  · rw [qk]
    show Outs p e below s _ _ _ (s₁.setTop (mkF m 4 #[.val (.int i0), .val (.int i1), .val (.int i2), .val (.int (2 : Int32)), .unset, .unset, .unset, .unset, .unset, .unset, .unset, .unset, .unset, .unset, .unset, .unset, .unset] []))
    refine Outs.of (U' := s₁.setTop (mkF m 71 #[.val (.int i0), .val (.int i1), .val (.int i2), .val (.int (2 : Int32)), .val (.int (5 : Int32)), .val (.int (13 : Int32)), .val (.int ((i1 &&& (2147483647 : Int32)) % (14 : Int32))), .unset, .unset, .unset, .unset, .unset, .unset, .unset, .unset, .unset, .unset] [(.int ((i1 &&& (2147483647 : Int32)) % (14 : Int32))), (.int (5 : Int32))])) (fun t k => ?_) ?_
    · refine XS.iloadN X0.here hx rfl (hb hby at_4) rfl ?_
      refine XS.ifYes X0.here hx rfl (pc0 := 5) (pc' := 18) rfl (hb hby at_5) rfl ((if0 _ _).trans (feq (show ¬ ((2 : Int32) = (0 : Int32)) from (by decide))).2) (by decide) (by decide) ?_
      refine XS.iloadN X0.here hx rfl (hb hby at_18) rfl ?_
      refine XS.iconst X0.here hx rfl (hb hby at_19) ?_
      refine XS.icmpYes X0.here hx rfl (pc0 := 20) (pc' := 33) rfl (hb hby at_20) rfl (feq (show ¬ ((2 : Int32) = (1 : Int32)) from (by decide))).2 (by decide) (by decide) ?_
      refine XS.iloadN X0.here hx rfl (hb hby at_33) rfl ?_
      refine XS.iconst X0.here hx rfl (hb hby at_34) ?_
      refine XS.icmpNo X0.here hx rfl (hb hby at_35) rfl (teq (show (2 : Int32) = (2 : Int32) from (by decide))).2 ?_
      refine XS.iconst X0.here hx rfl (hb hby at_38) ?_
      refine XS.istore X0.here hx rfl (hb hby at_39) rfl (l' := #[.val (.int i0), .val (.int i1), .val (.int i2), .val (.int (2 : Int32)), .val (.int (5 : Int32)), .unset, .unset, .unset, .unset, .unset, .unset, .unset, .unset, .unset, .unset, .unset, .unset]) rfl ?_
      refine XS.bipush X0.here hx rfl (hb hby at_41) ?_
      refine XS.istore X0.here hx rfl (hb hby at_43) rfl (l' := #[.val (.int i0), .val (.int i1), .val (.int i2), .val (.int (2 : Int32)), .val (.int (5 : Int32)), .val (.int (13 : Int32)), .unset, .unset, .unset, .unset, .unset, .unset, .unset, .unset, .unset, .unset, .unset]) rfl ?_
      refine XS.goto X0.here hx rfl (pc0 := 45) (pc' := 56) rfl (hb hby at_45) (by decide) (by decide) ?_
      refine XS.iloadN X0.here hx rfl (hb hby at_56) rfl ?_
      refine X0.ldcInt hx hown (mvT hZ (hw _ (List.mem_of_getElem? (i := 0) rfl))) (g := (mkF m 57 #[.val (.int i0), .val (.int i1), .val (.int i2), .val (.int (2 : Int32)), .val (.int (5 : Int32)), .val (.int (13 : Int32)), .unset, .unset, .unset, .unset, .unset, .unset, .unset, .unset, .unset, .unset, .unset] [(.int i1)])) rfl (hb hby at_57) _ ?_
      refine XS.iand X0.here hx rfl (hb hby at_59) rfl ?_
      refine XS.iload X0.here hx rfl (hb hby at_60) rfl ?_
      refine XS.iconst X0.here hx rfl (hb hby at_62) ?_
      refine XS.iadd X0.here hx rfl (hb hby at_63) rfl ?_
      refine iremM X0 hx rfl (hb hby at_64) rfl (by decide) ?_
      refine XS.istore X0.here hx rfl (hb hby at_65) rfl (l' := #[.val (.int i0), .val (.int i1), .val (.int i2), .val (.int (2 : Int32)), .val (.int (5 : Int32)), .val (.int (13 : Int32)), .val (.int ((i1 &&& (2147483647 : Int32)) % (14 : Int32))), .unset, .unset, .unset, .unset, .unset, .unset, .unset, .unset, .unset, .unset]) rfl ?_
      refine XS.iload X0.here hx rfl (hb hby at_67) rfl ?_
      refine XS.iload X0.here hx rfl (hb hby at_69) rfl ?_
      exact k
    obtain ⟨_, _, ⟨T11, L11, k11, n11⟩, -, X11, ⟨Lc11, hQ11, l11, y11, z11⟩, st11⟩ := Jvm.LawKit.callS X0 hx (y := (⟨"com/example/bitmend/bitmend/PositionalColumnsPositionPinLaw", "power", "(II)J"⟩ : MethodName)) hown (mvT hZ (hw _ (List.mem_of_getElem? (i := 1) rfl))) (mvT hZ (hw _ (List.mem_of_getElem? (i := 2) rfl))) (mvT hZ (hw _ (List.mem_of_getElem? (i := 3) rfl))) (mvT hZ (hw _ (List.mem_of_getElem? (i := 4) rfl))) (by decide) (backOf (W := 0) (rm1 l Z a0 hw [] (5 : Int32) ((i1 &&& (2147483647 : Int32)) % (14 : Int32)) h0 n0 ) hZ (hw _ (List.mem_of_getElem? (i := 4) rfl)) (hw _ (List.mem_of_getElem? (i := 3) rfl)) (by decide) (by decide)) (g := (mkF m 71 #[.val (.int i0), .val (.int i1), .val (.int i2), .val (.int (2 : Int32)), .val (.int (5 : Int32)), .val (.int (13 : Int32)), .val (.int ((i1 &&& (2147483647 : Int32)) % (14 : Int32))), .unset, .unset, .unset, .unset, .unset, .unset, .unset, .unset, .unset, .unset] [(.int ((i1 &&& (2147483647 : Int32)) % (14 : Int32))), (.int (5 : Int32))])) rfl (by rw [hml]; rfl) (argsL := [(.int (5 : Int32)), (.int ((i1 &&& (2147483647 : Int32)) % (14 : Int32)))]) (rest := []) (lenOf pd_0 rfl) rfl (by show 2 * 0 + _ ≤ _; exact Nat.le_of_eq rfl) (hb hby at_71) (fun _ _ => ⟨rfl, e0, (by decide : 0 + 0 ≤ _), (by decide : 0 + 0 ≤ _)⟩)
    dsimp only [Pt.U, Pt.locs, Pt.cells, Pt.slots] at X11 l11 y11 z11 st11 hQ11
    subst l11 y11 z11
    obtain ⟨rfl, N11q, e11⟩ := hQ11
    have N11 := Fr.app N0 N11q
    obtain ⟨Lh11, X11, N11⟩ := hide X11 N11 (C := 0) (S := 0) (by decide) (by decide)
    refine Outs.of st11 ?_
    show Outs p e below s _ _ _ (T11.setTop (mkF m 74 #[.val (.int i0), .val (.int i1), .val (.int i2), .val (.int (2 : Int32)), .val (.int (5 : Int32)), .val (.int (13 : Int32)), .val (.int ((i1 &&& (2147483647 : Int32)) % (14 : Int32))), .unset, .unset, .unset, .unset, .unset, .unset, .unset, .unset, .unset, .unset] [(.long (F_f1 (5 : Int32) ((i1 &&& (2147483647 : Int32)) % (14 : Int32))))]))
    refine Outs.of (U' := T11.setTop (mkF m 84 #[.val (.int i0), .val (.int i1), .val (.int i2), .val (.int (2 : Int32)), .val (.int (5 : Int32)), .val (.int (13 : Int32)), .val (.int ((i1 &&& (2147483647 : Int32)) % (14 : Int32))), .val (.long (f0_v74b i0 i1 i2)), .second, .unset, .unset, .unset, .unset, .unset, .unset, .unset, .unset] [(.long ((2147483648 : Int64) - (f0_v74b i0 i1 i2))), (.long (f0_v74b i0 i1 i2))])) (fun t k => ?_) ?_
    · refine XS.lstore X11.here hx rfl (hb hby at_74) rfl (l' := #[.val (.int i0), .val (.int i1), .val (.int i2), .val (.int (2 : Int32)), .val (.int (5 : Int32)), .val (.int (13 : Int32)), .val (.int ((i1 &&& (2147483647 : Int32)) % (14 : Int32))), .val (.long (f0_v74b i0 i1 i2)), .second, .unset, .unset, .unset, .unset, .unset, .unset, .unset, .unset]) rfl ?_
      refine XS.lload X11.here hx rfl (hb hby at_76) rfl ?_
      refine X11.ldc2Long hx hown (mvT hZ (hw _ (List.mem_of_getElem? (i := 5) rfl))) (g := (mkF m 78 #[.val (.int i0), .val (.int i1), .val (.int i2), .val (.int (2 : Int32)), .val (.int (5 : Int32)), .val (.int (13 : Int32)), .val (.int ((i1 &&& (2147483647 : Int32)) % (14 : Int32))), .val (.long (f0_v74b i0 i1 i2)), .second, .unset, .unset, .unset, .unset, .unset, .unset, .unset, .unset] [(.long (f0_v74b i0 i1 i2))])) rfl (hb hby at_78) _ ?_
      refine XS.lload X11.here hx rfl (hb hby at_81) rfl ?_
      refine XS.lsub X11.here hx rfl (hb hby at_83) rfl ?_
      exact k
    obtain ⟨_, _, ⟨T12, L12, k12, n12⟩, -, X12, ⟨Lc12, hQ12, l12, y12, z12⟩, st12⟩ := Jvm.LawKit.callS X11 hx (y := (⟨"java/lang/Math", "min", "(JJ)J"⟩ : MethodName)) hown (mvT hZ (hw _ (List.mem_of_getElem? (i := 6) rfl))) (mvT hZ (hw _ (List.mem_of_getElem? (i := 7) rfl))) (mvT hZ (hw _ (List.mem_of_getElem? (i := 8) rfl))) (mvT hZ (hw _ (List.mem_of_getElem? (i := 9) rfl))) (by decide) (backOf (W := 0) (rm2 l Z a0 hw [] (f0_v74b i0 i1 i2) ((2147483648 : Int64) - (f0_v74b i0 i1 i2)) h0 n0 ) hZ (hw _ (List.mem_of_getElem? (i := 9) rfl)) (hw _ (List.mem_of_getElem? (i := 8) rfl)) (by decide) (by decide)) (g := (mkF m 84 #[.val (.int i0), .val (.int i1), .val (.int i2), .val (.int (2 : Int32)), .val (.int (5 : Int32)), .val (.int (13 : Int32)), .val (.int ((i1 &&& (2147483647 : Int32)) % (14 : Int32))), .val (.long (f0_v74b i0 i1 i2)), .second, .unset, .unset, .unset, .unset, .unset, .unset, .unset, .unset] [(.long ((2147483648 : Int64) - (f0_v74b i0 i1 i2))), (.long (f0_v74b i0 i1 i2))])) rfl (by rw [hml]; rfl) (argsL := [(.long (f0_v74b i0 i1 i2)), (.long ((2147483648 : Int64) - (f0_v74b i0 i1 i2)))]) (rest := []) (lenOf pd_1 rfl) rfl (by show 2 * 0 + _ ≤ _; exact Nat.le_of_eq rfl) (hb hby at_84) (fun _ _ => ⟨rfl, e11, (by decide : 0 + 0 ≤ _), (by decide : 0 + 0 ≤ _)⟩)
    dsimp only [Pt.U, Pt.locs, Pt.cells, Pt.slots] at X12 l12 y12 z12 st12 hQ12
    subst l12 y12 z12
    obtain ⟨rfl, N12q, e12⟩ := hQ12
    have N12 := Fr.app N11 N12q
    obtain ⟨Lh12, X12, N12⟩ := hide X12 N12 (C := 0) (S := 0) (by decide) (by decide)
    refine Outs.of st12 ?_
    show Outs p e below s _ _ _ (T12.setTop (mkF m 87 #[.val (.int i0), .val (.int i1), .val (.int i2), .val (.int (2 : Int32)), .val (.int (5 : Int32)), .val (.int (13 : Int32)), .val (.int ((i1 &&& (2147483647 : Int32)) % (14 : Int32))), .val (.long (f0_v74b i0 i1 i2)), .second, .unset, .unset, .unset, .unset, .unset, .unset, .unset, .unset] [(.long (F_f2 (f0_v74b i0 i1 i2) ((2147483648 : Int64) - (f0_v74b i0 i1 i2))))]))
    refine Outs.of (U' := T12.setTop (mkF m 103 #[.val (.int i0), .val (.int i1), .val (.int i2), .val (.int (2 : Int32)), .val (.int (5 : Int32)), .val (.int (13 : Int32)), .val (.int ((i1 &&& (2147483647 : Int32)) % (14 : Int32))), .val (.long (f0_v74b i0 i1 i2)), .second, .val (.long (f0_v87b i0 i1 i2)), .second, .val (.long (f0_v101b i0 i1 i2)), .second, .unset, .unset, .unset, .unset] [])) (fun t k => ?_) ?_
    · refine XS.lstore X12.here hx rfl (hb hby at_87) rfl (l' := #[.val (.int i0), .val (.int i1), .val (.int i2), .val (.int (2 : Int32)), .val (.int (5 : Int32)), .val (.int (13 : Int32)), .val (.int ((i1 &&& (2147483647 : Int32)) % (14 : Int32))), .val (.long (f0_v74b i0 i1 i2)), .second, .val (.long (f0_v87b i0 i1 i2)), .second, .unset, .unset, .unset, .unset, .unset, .unset]) rfl ?_
      refine XS.lload X12.here hx rfl (hb hby at_89) rfl ?_
      refine XS.iloadN X12.here hx rfl (hb hby at_91) rfl ?_
      refine XS.i2l X12.here hx rfl (hb hby at_92) rfl ?_
      refine X12.ldc2Long hx hown (mvT hZ (hw _ (List.mem_of_getElem? (i := 10) rfl))) (g := (mkF m 93 #[.val (.int i0), .val (.int i1), .val (.int i2), .val (.int (2 : Int32)), .val (.int (5 : Int32)), .val (.int (13 : Int32)), .val (.int ((i1 &&& (2147483647 : Int32)) % (14 : Int32))), .val (.long (f0_v74b i0 i1 i2)), .second, .val (.long (f0_v87b i0 i1 i2)), .second, .unset, .unset, .unset, .unset, .unset, .unset] [(.long (i2.toInt64)), (.long (f0_v74b i0 i1 i2))])) rfl (hb hby at_93) _ ?_
      refine XS.land X12.here hx rfl (hb hby at_96) rfl ?_
      refine XS.lload X12.here hx rfl (hb hby at_97) rfl ?_
      refine lremM X12 hx rfl (hb hby at_99) rfl (own_nz5 i0 i1 i2) ?_
      refine XS.ladd X12.here hx rfl (hb hby at_100) rfl ?_
      refine XS.lstore X12.here hx rfl (hb hby at_101) rfl (l' := #[.val (.int i0), .val (.int i1), .val (.int i2), .val (.int (2 : Int32)), .val (.int (5 : Int32)), .val (.int (13 : Int32)), .val (.int ((i1 &&& (2147483647 : Int32)) % (14 : Int32))), .val (.long (f0_v74b i0 i1 i2)), .second, .val (.long (f0_v87b i0 i1 i2)), .second, .val (.long (f0_v101b i0 i1 i2)), .second, .unset, .unset, .unset, .unset]) rfl ?_
      exact k
    obtain ⟨T13, h13, X13, e13, E13, A13, D13, -, st13⟩ := newO X12 hx hZ hown (hw _ (List.mem_of_getElem? (i := 11) rfl)) (hw _ (List.mem_of_getElem? (i := 12) rfl)) (hw _ (List.mem_of_getElem? (i := 13) rfl)) e12 (g := (mkF m 103 #[.val (.int i0), .val (.int i1), .val (.int i2), .val (.int (2 : Int32)), .val (.int (5 : Int32)), .val (.int (13 : Int32)), .val (.int ((i1 &&& (2147483647 : Int32)) % (14 : Int32))), .val (.long (f0_v74b i0 i1 i2)), .second, .val (.long (f0_v87b i0 i1 i2)), .second, .val (.long (f0_v101b i0 i1 i2)), .second, .unset, .unset, .unset, .unset] [])) rfl (hb hby at_103) (by decide) (by decide)
    obtain ⟨b13, g13⟩ : ∃ z, z = h0.size := ⟨_, rfl⟩
    rw [← g13] at A13 D13 st13
    have g_b13 : n0 ≤ b13 := Nat.le_trans Z0 (Nat.le_of_eq g13.symm)
    have F13_21 : Fld Z h13 b13 "com/example/bitmend/bitmend/PositionalColumns" "fieldSize" "I" (.int (0 : Int32)) := D13 (Or.inr (hw _ (List.mem_of_getElem? (i := 21) rfl))) (ty := .int) (by decide)
    have F13_40 : Fld Z h13 b13 "com/example/bitmend/bitmend/PositionalColumns" "checkPositions" "[J" .null := D13 (Or.inr (hw _ (List.mem_of_getElem? (i := 40) rfl))) (ty := (.array .long)) (by decide)
    refine Outs.of st13 ?_
    show Outs p e below s _ _ _ (T13.setTop (mkF m 106 #[.val (.int i0), .val (.int i1), .val (.int i2), .val (.int (2 : Int32)), .val (.int (5 : Int32)), .val (.int (13 : Int32)), .val (.int ((i1 &&& (2147483647 : Int32)) % (14 : Int32))), .val (.long (f0_v74b i0 i1 i2)), .second, .val (.long (f0_v87b i0 i1 i2)), .second, .val (.long (f0_v101b i0 i1 i2)), .second, .unset, .unset, .unset, .unset] [(.ref b13)]))
    refine Outs.of (U' := T13.setTop (mkF m 109 #[.val (.int i0), .val (.int i1), .val (.int i2), .val (.int (2 : Int32)), .val (.int (5 : Int32)), .val (.int (13 : Int32)), .val (.int ((i1 &&& (2147483647 : Int32)) % (14 : Int32))), .val (.long (f0_v74b i0 i1 i2)), .second, .val (.long (f0_v87b i0 i1 i2)), .second, .val (.long (f0_v101b i0 i1 i2)), .second, .unset, .unset, .unset, .unset] [(.int (5 : Int32)), (.ref b13), (.ref b13)])) (fun t k => ?_) ?_
    · refine XS.dup X13.here hx rfl (hb hby at_106) rfl rfl ?_
      refine XS.iload X13.here hx rfl (hb hby at_107) rfl ?_
      exact k
    obtain ⟨_, _, ⟨T14, L14, k14, n14⟩, -, X14, ⟨Lc14, hQ14, l14, y14, z14⟩, st14⟩ := X13.specialBack hx (y := (⟨"com/example/bitmend/bitmend/PositionalColumns", "<init>", "(I)V"⟩ : MethodName)) rfl hown (mvT hZ (hw _ (List.mem_of_getElem? (i := 14) rfl))) (mvT hZ (hw _ (List.mem_of_getElem? (i := 15) rfl))) (mvT hZ (hw _ (List.mem_of_getElem? (i := 16) rfl))) (by decide) (backOf (W := 1) (rmct5 l Z a0 hw [] b13 h13 n0 (Nat.le_trans Z0 E13.1) A13 g_b13 F13_21 F13_40) hZ (hw _ (List.mem_of_getElem? (i := 16) rfl)) (hw _ (List.mem_of_getElem? (i := 13) rfl)) (by decide) (by decide)) (g := (mkF m 109 #[.val (.int i0), .val (.int i1), .val (.int i2), .val (.int (2 : Int32)), .val (.int (5 : Int32)), .val (.int (13 : Int32)), .val (.int ((i1 &&& (2147483647 : Int32)) % (14 : Int32))), .val (.long (f0_v74b i0 i1 i2)), .second, .val (.long (f0_v87b i0 i1 i2)), .second, .val (.long (f0_v101b i0 i1 i2)), .second, .unset, .unset, .unset, .unset] [(.int (5 : Int32)), (.ref b13), (.ref b13)])) rfl (by rw [hml]; rfl) (Steps.refl _) (a := b13) (argsL := [(.int (5 : Int32))]) (rest := [(.ref b13)]) (lenOf pd_2 rfl) rfl (by show 2 * 0 + _ ≤ _; exact Nat.le_of_eq rfl) (hb hby at_109) (fun _ _ => ⟨rfl, e13, (by decide : 1 + 2 ≤ _), (by decide : 2 + 49 ≤ _)⟩)
    dsimp only [Pt.U, Pt.locs, Pt.cells, Pt.slots] at X14 l14 y14 z14 st14 hQ14
    subst l14 y14 z14
    obtain ⟨rfl, N14q, K14, u14_0, u14_1⟩ := hQ14
    have N14 := Fr.app N12 N14q
    obtain ⟨Lh14, X14, N14⟩ := hide X14 N14 (C := 3) (S := 51) (by decide) (by decide)
    refine Outs.to st14 ?_
    show Outs p e below s _ _ _ (T14.setTop (mkF m 112 #[.val (.int i0), .val (.int i1), .val (.int i2), .val (.int (2 : Int32)), .val (.int (5 : Int32)), .val (.int (13 : Int32)), .val (.int ((i1 &&& (2147483647 : Int32)) % (14 : Int32))), .val (.long (f0_v74b i0 i1 i2)), .second, .val (.long (f0_v87b i0 i1 i2)), .second, .val (.long (f0_v101b i0 i1 i2)), .second, .unset, .unset, .unset, .unset] [(.ref b13)]))
    refine Outs.of (U' := T14.setTop (mkF m 119 #[.val (.int i0), .val (.int i1), .val (.int i2), .val (.int (2 : Int32)), .val (.int (5 : Int32)), .val (.int (13 : Int32)), .val (.int ((i1 &&& (2147483647 : Int32)) % (14 : Int32))), .val (.long (f0_v74b i0 i1 i2)), .second, .val (.long (f0_v87b i0 i1 i2)), .second, .val (.long (f0_v101b i0 i1 i2)), .second, .val (.ref b13), .unset, .unset, .unset] [(.int ((f0_v101b i0 i1 i2).toInt32)), (.ref b13)])) (fun t k => ?_) ?_
    · refine XS.astore X14.here hx rfl (hb hby at_112) rfl rfl (l' := #[.val (.int i0), .val (.int i1), .val (.int i2), .val (.int (2 : Int32)), .val (.int (5 : Int32)), .val (.int (13 : Int32)), .val (.int ((i1 &&& (2147483647 : Int32)) % (14 : Int32))), .val (.long (f0_v74b i0 i1 i2)), .second, .val (.long (f0_v87b i0 i1 i2)), .second, .val (.long (f0_v101b i0 i1 i2)), .second, .val (.ref b13), .unset, .unset, .unset]) rfl ?_
      refine XS.aload X14.here hx rfl (hb hby at_114) rfl rfl ?_
      refine XS.lload X14.here hx rfl (hb hby at_116) rfl ?_
      refine XS.l2i X14.here hx rfl (hb hby at_118) rfl ?_
      exact k
    obtain ⟨cq15, kq15, q15a, q15b, q15c⟩ := isOf hZ rfl u14_0
    obtain ⟨_, _, ⟨T15, L15, k15, n15⟩, -, X15, ⟨Lc15, hQ15, l15, y15, z15⟩, st15⟩ := X14.virtualBack hx (y := (⟨"com/example/bitmend/bitmend/PositionalColumns", "position", "(I)I"⟩ : MethodName)) (z := (⟨"com/example/bitmend/bitmend/PositionalColumns", "position", "(I)I"⟩ : MethodName)) hown (mvT hZ (hw _ (List.mem_of_getElem? (i := 41) rfl))) (mvT hZ (hw _ (List.mem_of_getElem? (i := 42) rfl))) (notFace_of_selects (args := #[]) (mvT hZ (hw _ (List.mem_of_getElem? (i := 44) rfl)))) (mvT hZ (hw _ (List.mem_of_getElem? (i := 44) rfl))) (mvT hZ (hw _ (List.mem_of_getElem? (i := 43) rfl))) (by decide) (backOf (W := 0) (rm8 l Z a0 hw [] b13 ((f0_v101b i0 i1 i2).toInt32) (5 : Int32) (own_e5 i1) T14.heap n0 u14_1 (own_ok5 i0 i1 i2)) hZ (hw _ (List.mem_of_getElem? (i := 45) rfl)) (hw _ (List.mem_of_getElem? (i := 13) rfl)) (by decide) (by decide)) q15a q15c (g := (mkF m 119 #[.val (.int i0), .val (.int i1), .val (.int i2), .val (.int (2 : Int32)), .val (.int (5 : Int32)), .val (.int (13 : Int32)), .val (.int ((i1 &&& (2147483647 : Int32)) % (14 : Int32))), .val (.long (f0_v74b i0 i1 i2)), .second, .val (.long (f0_v87b i0 i1 i2)), .second, .val (.long (f0_v101b i0 i1 i2)), .second, .val (.ref b13), .unset, .unset, .unset] [(.int ((f0_v101b i0 i1 i2).toInt32)), (.ref b13)])) rfl (by rw [hml]; rfl) (Steps.refl _) (argsL := [(.int ((f0_v101b i0 i1 i2).toInt32))]) (rest := []) (lenOf pd_7 rfl) rfl (by show 2 * 0 + _ ≤ _; exact Nat.le_of_eq rfl) (hb hby at_119) (fun _ _ => ⟨rfl, rfl, (by decide : 3 + 0 ≤ _), (by decide : 51 + 0 ≤ _)⟩)
    dsimp only [Pt.U, Pt.locs, Pt.cells, Pt.slots] at X15 l15 y15 z15 st15 hQ15
    subst l15 y15 z15
    obtain ⟨rfl, N15q, e15⟩ := hQ15
    have N15 := Fr.app N14 N15q
    obtain ⟨Lh15, X15, N15⟩ := hide X15 N15 (C := 3) (S := 51) (by decide) (by decide)
    refine Outs.to st15 ?_
    show Outs p e below s _ _ _ (T15.setTop (mkF m 122 #[.val (.int i0), .val (.int i1), .val (.int i2), .val (.int (2 : Int32)), .val (.int (5 : Int32)), .val (.int (13 : Int32)), .val (.int ((i1 &&& (2147483647 : Int32)) % (14 : Int32))), .val (.long (f0_v74b i0 i1 i2)), .second, .val (.long (f0_v87b i0 i1 i2)), .second, .val (.long (f0_v101b i0 i1 i2)), .second, .val (.ref b13), .unset, .unset, .unset] [(.int (F_f8 ((f0_v101b i0 i1 i2).toInt32) (5 : Int32) (own_e5 i1)))]))
    refine Outs.of (U' := T15.setTop (mkF m 158 #[.val (.int i0), .val (.int i1), .val (.int i2), .val (.int (2 : Int32)), .val (.int (5 : Int32)), .val (.int (13 : Int32)), .val (.int ((i1 &&& (2147483647 : Int32)) % (14 : Int32))), .val (.long (f0_v74b i0 i1 i2)), .second, .val (.long (f0_v87b i0 i1 i2)), .second, .val (.long (f0_v101b i0 i1 i2)), .second, .val (.ref b13), .val (.int (F_f8 ((f0_v101b i0 i1 i2).toInt32) (5 : Int32) (own_e5 i1))), .val (.long (f0_v142b i0 i1 i2)), .second] [(.int (1 : Int32))])) (fun t k => ?_) ?_
    · refine XS.istore X15.here hx rfl (hb hby at_122) rfl (l' := #[.val (.int i0), .val (.int i1), .val (.int i2), .val (.int (2 : Int32)), .val (.int (5 : Int32)), .val (.int (13 : Int32)), .val (.int ((i1 &&& (2147483647 : Int32)) % (14 : Int32))), .val (.long (f0_v74b i0 i1 i2)), .second, .val (.long (f0_v87b i0 i1 i2)), .second, .val (.long (f0_v101b i0 i1 i2)), .second, .val (.ref b13), .val (.int (F_f8 ((f0_v101b i0 i1 i2).toInt32) (5 : Int32) (own_e5 i1))), .unset, .unset]) rfl ?_
      refine XS.lload X15.here hx rfl (hb hby at_124) rfl ?_
      refine XS.lconst X15.here hx rfl (hb hby at_126) ?_
      refine XS.lsub X15.here hx rfl (hb hby at_127) rfl ?_
      refine XS.iload X15.here hx rfl (hb hby at_128) rfl ?_
      refine XS.iconst X15.here hx rfl (hb hby at_130) ?_
      refine XS.isub X15.here hx rfl (hb hby at_131) rfl ?_
      refine XS.i2l X15.here hx rfl (hb hby at_132) rfl ?_
      refine XS.ldiv X15.here hx rfl (hb hby at_133) rfl (by decide) ?_
      refine XS.lconst X15.here hx rfl (hb hby at_134) ?_
      refine XS.ladd X15.here hx rfl (hb hby at_135) rfl ?_
      refine XS.lload X15.here hx rfl (hb hby at_136) rfl ?_
      refine XS.lload X15.here hx rfl (hb hby at_138) rfl ?_
      refine XS.lsub X15.here hx rfl (hb hby at_140) rfl ?_
      refine XS.ladd X15.here hx rfl (hb hby at_141) rfl ?_
      refine XS.lstore X15.here hx rfl (hb hby at_142) rfl (l' := #[.val (.int i0), .val (.int i1), .val (.int i2), .val (.int (2 : Int32)), .val (.int (5 : Int32)), .val (.int (13 : Int32)), .val (.int ((i1 &&& (2147483647 : Int32)) % (14 : Int32))), .val (.long (f0_v74b i0 i1 i2)), .second, .val (.long (f0_v87b i0 i1 i2)), .second, .val (.long (f0_v101b i0 i1 i2)), .second, .val (.ref b13), .val (.int (F_f8 ((f0_v101b i0 i1 i2).toInt32) (5 : Int32) (own_e5 i1))), .val (.long (f0_v142b i0 i1 i2)), .second]) rfl ?_
      refine XS.iload X15.here hx rfl (hb hby at_144) rfl ?_
      refine XS.i2l X15.here hx rfl (hb hby at_146) rfl ?_
      refine XS.lload X15.here hx rfl (hb hby at_147) rfl ?_
      refine XS.lcmp X15.here hx rfl (hb hby at_149) rfl ?_
      refine XS.ifNo X15.here hx rfl (hb hby at_150) rfl ((if0 _ _).trans (teq ((lw_eq _ _).mpr (law_fin5 i0 i1 i2))).2) ?_
      refine XS.iconst X15.here hx rfl (hb hby at_153) ?_
      refine XS.goto X15.here hx rfl (pc0 := 154) (pc' := 158) rfl (hb hby at_154) (by decide) (by decide) ?_
      exact k
    exact Outs.retN (t := .boolean) (z := (1 : Int32)) X15 hx hret (by simp) (hb hby at_158) hlk (by decide) (by decide) e15 ⟨rfl, N15⟩
  · rw [qk]
    show Outs p e below s _ _ _ (s₁.setTop (mkF m 4 #[.val (.int i0), .val (.int i1), .val (.int i2), .val (.int (3 : Int32)), .unset, .unset, .unset, .unset, .unset, .unset, .unset, .unset, .unset, .unset, .unset, .unset, .unset] []))
    refine Outs.of (U' := s₁.setTop (mkF m 71 #[.val (.int i0), .val (.int i1), .val (.int i2), .val (.int (3 : Int32)), .val (.int (7 : Int32)), .val (.int (11 : Int32)), .val (.int ((i1 &&& (2147483647 : Int32)) % (12 : Int32))), .unset, .unset, .unset, .unset, .unset, .unset, .unset, .unset, .unset, .unset] [(.int ((i1 &&& (2147483647 : Int32)) % (12 : Int32))), (.int (7 : Int32))])) (fun t k => ?_) ?_
    · refine XS.iloadN X0.here hx rfl (hb hby at_4) rfl ?_
      refine XS.ifYes X0.here hx rfl (pc0 := 5) (pc' := 18) rfl (hb hby at_5) rfl ((if0 _ _).trans (feq (show ¬ ((3 : Int32) = (0 : Int32)) from (by decide))).2) (by decide) (by decide) ?_
      refine XS.iloadN X0.here hx rfl (hb hby at_18) rfl ?_
      refine XS.iconst X0.here hx rfl (hb hby at_19) ?_
      refine XS.icmpYes X0.here hx rfl (pc0 := 20) (pc' := 33) rfl (hb hby at_20) rfl (feq (show ¬ ((3 : Int32) = (1 : Int32)) from (by decide))).2 (by decide) (by decide) ?_
      refine XS.iloadN X0.here hx rfl (hb hby at_33) rfl ?_
      refine XS.iconst X0.here hx rfl (hb hby at_34) ?_
      refine XS.icmpYes X0.here hx rfl (pc0 := 35) (pc' := 48) rfl (hb hby at_35) rfl (feq (show ¬ ((3 : Int32) = (2 : Int32)) from (by decide))).2 (by decide) (by decide) ?_
      refine XS.bipush X0.here hx rfl (hb hby at_48) ?_
      refine XS.istore X0.here hx rfl (hb hby at_50) rfl (l' := #[.val (.int i0), .val (.int i1), .val (.int i2), .val (.int (3 : Int32)), .val (.int (7 : Int32)), .unset, .unset, .unset, .unset, .unset, .unset, .unset, .unset, .unset, .unset, .unset, .unset]) rfl ?_
      refine XS.bipush X0.here hx rfl (hb hby at_52) ?_
      refine XS.istore X0.here hx rfl (hb hby at_54) rfl (l' := #[.val (.int i0), .val (.int i1), .val (.int i2), .val (.int (3 : Int32)), .val (.int (7 : Int32)), .val (.int (11 : Int32)), .unset, .unset, .unset, .unset, .unset, .unset, .unset, .unset, .unset, .unset, .unset]) rfl ?_
      refine XS.iloadN X0.here hx rfl (hb hby at_56) rfl ?_
      refine X0.ldcInt hx hown (mvT hZ (hw _ (List.mem_of_getElem? (i := 0) rfl))) (g := (mkF m 57 #[.val (.int i0), .val (.int i1), .val (.int i2), .val (.int (3 : Int32)), .val (.int (7 : Int32)), .val (.int (11 : Int32)), .unset, .unset, .unset, .unset, .unset, .unset, .unset, .unset, .unset, .unset, .unset] [(.int i1)])) rfl (hb hby at_57) _ ?_
      refine XS.iand X0.here hx rfl (hb hby at_59) rfl ?_
      refine XS.iload X0.here hx rfl (hb hby at_60) rfl ?_
      refine XS.iconst X0.here hx rfl (hb hby at_62) ?_
      refine XS.iadd X0.here hx rfl (hb hby at_63) rfl ?_
      refine iremM X0 hx rfl (hb hby at_64) rfl (by decide) ?_
      refine XS.istore X0.here hx rfl (hb hby at_65) rfl (l' := #[.val (.int i0), .val (.int i1), .val (.int i2), .val (.int (3 : Int32)), .val (.int (7 : Int32)), .val (.int (11 : Int32)), .val (.int ((i1 &&& (2147483647 : Int32)) % (12 : Int32))), .unset, .unset, .unset, .unset, .unset, .unset, .unset, .unset, .unset, .unset]) rfl ?_
      refine XS.iload X0.here hx rfl (hb hby at_67) rfl ?_
      refine XS.iload X0.here hx rfl (hb hby at_69) rfl ?_
      exact k
    obtain ⟨_, _, ⟨T16, L16, k16, n16⟩, -, X16, ⟨Lc16, hQ16, l16, y16, z16⟩, st16⟩ := Jvm.LawKit.callS X0 hx (y := (⟨"com/example/bitmend/bitmend/PositionalColumnsPositionPinLaw", "power", "(II)J"⟩ : MethodName)) hown (mvT hZ (hw _ (List.mem_of_getElem? (i := 1) rfl))) (mvT hZ (hw _ (List.mem_of_getElem? (i := 2) rfl))) (mvT hZ (hw _ (List.mem_of_getElem? (i := 3) rfl))) (mvT hZ (hw _ (List.mem_of_getElem? (i := 4) rfl))) (by decide) (backOf (W := 0) (rm1 l Z a0 hw [] (7 : Int32) ((i1 &&& (2147483647 : Int32)) % (12 : Int32)) h0 n0 ) hZ (hw _ (List.mem_of_getElem? (i := 4) rfl)) (hw _ (List.mem_of_getElem? (i := 3) rfl)) (by decide) (by decide)) (g := (mkF m 71 #[.val (.int i0), .val (.int i1), .val (.int i2), .val (.int (3 : Int32)), .val (.int (7 : Int32)), .val (.int (11 : Int32)), .val (.int ((i1 &&& (2147483647 : Int32)) % (12 : Int32))), .unset, .unset, .unset, .unset, .unset, .unset, .unset, .unset, .unset, .unset] [(.int ((i1 &&& (2147483647 : Int32)) % (12 : Int32))), (.int (7 : Int32))])) rfl (by rw [hml]; rfl) (argsL := [(.int (7 : Int32)), (.int ((i1 &&& (2147483647 : Int32)) % (12 : Int32)))]) (rest := []) (lenOf pd_0 rfl) rfl (by show 2 * 0 + _ ≤ _; exact Nat.le_of_eq rfl) (hb hby at_71) (fun _ _ => ⟨rfl, e0, (by decide : 0 + 0 ≤ _), (by decide : 0 + 0 ≤ _)⟩)
    dsimp only [Pt.U, Pt.locs, Pt.cells, Pt.slots] at X16 l16 y16 z16 st16 hQ16
    subst l16 y16 z16
    obtain ⟨rfl, N16q, e16⟩ := hQ16
    have N16 := Fr.app N0 N16q
    obtain ⟨Lh16, X16, N16⟩ := hide X16 N16 (C := 0) (S := 0) (by decide) (by decide)
    refine Outs.of st16 ?_
    show Outs p e below s _ _ _ (T16.setTop (mkF m 74 #[.val (.int i0), .val (.int i1), .val (.int i2), .val (.int (3 : Int32)), .val (.int (7 : Int32)), .val (.int (11 : Int32)), .val (.int ((i1 &&& (2147483647 : Int32)) % (12 : Int32))), .unset, .unset, .unset, .unset, .unset, .unset, .unset, .unset, .unset, .unset] [(.long (F_f1 (7 : Int32) ((i1 &&& (2147483647 : Int32)) % (12 : Int32))))]))
    refine Outs.of (U' := T16.setTop (mkF m 84 #[.val (.int i0), .val (.int i1), .val (.int i2), .val (.int (3 : Int32)), .val (.int (7 : Int32)), .val (.int (11 : Int32)), .val (.int ((i1 &&& (2147483647 : Int32)) % (12 : Int32))), .val (.long (f0_v74c i0 i1 i2)), .second, .unset, .unset, .unset, .unset, .unset, .unset, .unset, .unset] [(.long ((2147483648 : Int64) - (f0_v74c i0 i1 i2))), (.long (f0_v74c i0 i1 i2))])) (fun t k => ?_) ?_
    · refine XS.lstore X16.here hx rfl (hb hby at_74) rfl (l' := #[.val (.int i0), .val (.int i1), .val (.int i2), .val (.int (3 : Int32)), .val (.int (7 : Int32)), .val (.int (11 : Int32)), .val (.int ((i1 &&& (2147483647 : Int32)) % (12 : Int32))), .val (.long (f0_v74c i0 i1 i2)), .second, .unset, .unset, .unset, .unset, .unset, .unset, .unset, .unset]) rfl ?_
      refine XS.lload X16.here hx rfl (hb hby at_76) rfl ?_
      refine X16.ldc2Long hx hown (mvT hZ (hw _ (List.mem_of_getElem? (i := 5) rfl))) (g := (mkF m 78 #[.val (.int i0), .val (.int i1), .val (.int i2), .val (.int (3 : Int32)), .val (.int (7 : Int32)), .val (.int (11 : Int32)), .val (.int ((i1 &&& (2147483647 : Int32)) % (12 : Int32))), .val (.long (f0_v74c i0 i1 i2)), .second, .unset, .unset, .unset, .unset, .unset, .unset, .unset, .unset] [(.long (f0_v74c i0 i1 i2))])) rfl (hb hby at_78) _ ?_
      refine XS.lload X16.here hx rfl (hb hby at_81) rfl ?_
      refine XS.lsub X16.here hx rfl (hb hby at_83) rfl ?_
      exact k
    obtain ⟨_, _, ⟨T17, L17, k17, n17⟩, -, X17, ⟨Lc17, hQ17, l17, y17, z17⟩, st17⟩ := Jvm.LawKit.callS X16 hx (y := (⟨"java/lang/Math", "min", "(JJ)J"⟩ : MethodName)) hown (mvT hZ (hw _ (List.mem_of_getElem? (i := 6) rfl))) (mvT hZ (hw _ (List.mem_of_getElem? (i := 7) rfl))) (mvT hZ (hw _ (List.mem_of_getElem? (i := 8) rfl))) (mvT hZ (hw _ (List.mem_of_getElem? (i := 9) rfl))) (by decide) (backOf (W := 0) (rm2 l Z a0 hw [] (f0_v74c i0 i1 i2) ((2147483648 : Int64) - (f0_v74c i0 i1 i2)) h0 n0 ) hZ (hw _ (List.mem_of_getElem? (i := 9) rfl)) (hw _ (List.mem_of_getElem? (i := 8) rfl)) (by decide) (by decide)) (g := (mkF m 84 #[.val (.int i0), .val (.int i1), .val (.int i2), .val (.int (3 : Int32)), .val (.int (7 : Int32)), .val (.int (11 : Int32)), .val (.int ((i1 &&& (2147483647 : Int32)) % (12 : Int32))), .val (.long (f0_v74c i0 i1 i2)), .second, .unset, .unset, .unset, .unset, .unset, .unset, .unset, .unset] [(.long ((2147483648 : Int64) - (f0_v74c i0 i1 i2))), (.long (f0_v74c i0 i1 i2))])) rfl (by rw [hml]; rfl) (argsL := [(.long (f0_v74c i0 i1 i2)), (.long ((2147483648 : Int64) - (f0_v74c i0 i1 i2)))]) (rest := []) (lenOf pd_1 rfl) rfl (by show 2 * 0 + _ ≤ _; exact Nat.le_of_eq rfl) (hb hby at_84) (fun _ _ => ⟨rfl, e16, (by decide : 0 + 0 ≤ _), (by decide : 0 + 0 ≤ _)⟩)
    dsimp only [Pt.U, Pt.locs, Pt.cells, Pt.slots] at X17 l17 y17 z17 st17 hQ17
    subst l17 y17 z17
    obtain ⟨rfl, N17q, e17⟩ := hQ17
    have N17 := Fr.app N16 N17q
    obtain ⟨Lh17, X17, N17⟩ := hide X17 N17 (C := 0) (S := 0) (by decide) (by decide)
    refine Outs.of st17 ?_
    show Outs p e below s _ _ _ (T17.setTop (mkF m 87 #[.val (.int i0), .val (.int i1), .val (.int i2), .val (.int (3 : Int32)), .val (.int (7 : Int32)), .val (.int (11 : Int32)), .val (.int ((i1 &&& (2147483647 : Int32)) % (12 : Int32))), .val (.long (f0_v74c i0 i1 i2)), .second, .unset, .unset, .unset, .unset, .unset, .unset, .unset, .unset] [(.long (F_f2 (f0_v74c i0 i1 i2) ((2147483648 : Int64) - (f0_v74c i0 i1 i2))))]))
    refine Outs.of (U' := T17.setTop (mkF m 103 #[.val (.int i0), .val (.int i1), .val (.int i2), .val (.int (3 : Int32)), .val (.int (7 : Int32)), .val (.int (11 : Int32)), .val (.int ((i1 &&& (2147483647 : Int32)) % (12 : Int32))), .val (.long (f0_v74c i0 i1 i2)), .second, .val (.long (f0_v87c i0 i1 i2)), .second, .val (.long (f0_v101c i0 i1 i2)), .second, .unset, .unset, .unset, .unset] [])) (fun t k => ?_) ?_
    · refine XS.lstore X17.here hx rfl (hb hby at_87) rfl (l' := #[.val (.int i0), .val (.int i1), .val (.int i2), .val (.int (3 : Int32)), .val (.int (7 : Int32)), .val (.int (11 : Int32)), .val (.int ((i1 &&& (2147483647 : Int32)) % (12 : Int32))), .val (.long (f0_v74c i0 i1 i2)), .second, .val (.long (f0_v87c i0 i1 i2)), .second, .unset, .unset, .unset, .unset, .unset, .unset]) rfl ?_
      refine XS.lload X17.here hx rfl (hb hby at_89) rfl ?_
      refine XS.iloadN X17.here hx rfl (hb hby at_91) rfl ?_
      refine XS.i2l X17.here hx rfl (hb hby at_92) rfl ?_
      refine X17.ldc2Long hx hown (mvT hZ (hw _ (List.mem_of_getElem? (i := 10) rfl))) (g := (mkF m 93 #[.val (.int i0), .val (.int i1), .val (.int i2), .val (.int (3 : Int32)), .val (.int (7 : Int32)), .val (.int (11 : Int32)), .val (.int ((i1 &&& (2147483647 : Int32)) % (12 : Int32))), .val (.long (f0_v74c i0 i1 i2)), .second, .val (.long (f0_v87c i0 i1 i2)), .second, .unset, .unset, .unset, .unset, .unset, .unset] [(.long (i2.toInt64)), (.long (f0_v74c i0 i1 i2))])) rfl (hb hby at_93) _ ?_
      refine XS.land X17.here hx rfl (hb hby at_96) rfl ?_
      refine XS.lload X17.here hx rfl (hb hby at_97) rfl ?_
      refine lremM X17 hx rfl (hb hby at_99) rfl (own_nz7 i0 i1 i2) ?_
      refine XS.ladd X17.here hx rfl (hb hby at_100) rfl ?_
      refine XS.lstore X17.here hx rfl (hb hby at_101) rfl (l' := #[.val (.int i0), .val (.int i1), .val (.int i2), .val (.int (3 : Int32)), .val (.int (7 : Int32)), .val (.int (11 : Int32)), .val (.int ((i1 &&& (2147483647 : Int32)) % (12 : Int32))), .val (.long (f0_v74c i0 i1 i2)), .second, .val (.long (f0_v87c i0 i1 i2)), .second, .val (.long (f0_v101c i0 i1 i2)), .second, .unset, .unset, .unset, .unset]) rfl ?_
      exact k
    obtain ⟨T18, h18, X18, e18, E18, A18, D18, -, st18⟩ := newO X17 hx hZ hown (hw _ (List.mem_of_getElem? (i := 11) rfl)) (hw _ (List.mem_of_getElem? (i := 12) rfl)) (hw _ (List.mem_of_getElem? (i := 13) rfl)) e17 (g := (mkF m 103 #[.val (.int i0), .val (.int i1), .val (.int i2), .val (.int (3 : Int32)), .val (.int (7 : Int32)), .val (.int (11 : Int32)), .val (.int ((i1 &&& (2147483647 : Int32)) % (12 : Int32))), .val (.long (f0_v74c i0 i1 i2)), .second, .val (.long (f0_v87c i0 i1 i2)), .second, .val (.long (f0_v101c i0 i1 i2)), .second, .unset, .unset, .unset, .unset] [])) rfl (hb hby at_103) (by decide) (by decide)
    obtain ⟨b18, g18⟩ : ∃ z, z = h0.size := ⟨_, rfl⟩
    rw [← g18] at A18 D18 st18
    have g_b18 : n0 ≤ b18 := Nat.le_trans Z0 (Nat.le_of_eq g18.symm)
    have F18_21 : Fld Z h18 b18 "com/example/bitmend/bitmend/PositionalColumns" "fieldSize" "I" (.int (0 : Int32)) := D18 (Or.inr (hw _ (List.mem_of_getElem? (i := 21) rfl))) (ty := .int) (by decide)
    have F18_40 : Fld Z h18 b18 "com/example/bitmend/bitmend/PositionalColumns" "checkPositions" "[J" .null := D18 (Or.inr (hw _ (List.mem_of_getElem? (i := 40) rfl))) (ty := (.array .long)) (by decide)
    refine Outs.of st18 ?_
    show Outs p e below s _ _ _ (T18.setTop (mkF m 106 #[.val (.int i0), .val (.int i1), .val (.int i2), .val (.int (3 : Int32)), .val (.int (7 : Int32)), .val (.int (11 : Int32)), .val (.int ((i1 &&& (2147483647 : Int32)) % (12 : Int32))), .val (.long (f0_v74c i0 i1 i2)), .second, .val (.long (f0_v87c i0 i1 i2)), .second, .val (.long (f0_v101c i0 i1 i2)), .second, .unset, .unset, .unset, .unset] [(.ref b18)]))
    refine Outs.of (U' := T18.setTop (mkF m 109 #[.val (.int i0), .val (.int i1), .val (.int i2), .val (.int (3 : Int32)), .val (.int (7 : Int32)), .val (.int (11 : Int32)), .val (.int ((i1 &&& (2147483647 : Int32)) % (12 : Int32))), .val (.long (f0_v74c i0 i1 i2)), .second, .val (.long (f0_v87c i0 i1 i2)), .second, .val (.long (f0_v101c i0 i1 i2)), .second, .unset, .unset, .unset, .unset] [(.int (7 : Int32)), (.ref b18), (.ref b18)])) (fun t k => ?_) ?_
    · refine XS.dup X18.here hx rfl (hb hby at_106) rfl rfl ?_
      refine XS.iload X18.here hx rfl (hb hby at_107) rfl ?_
      exact k
    obtain ⟨_, _, ⟨T19, L19, k19, n19⟩, -, X19, ⟨Lc19, hQ19, l19, y19, z19⟩, st19⟩ := X18.specialBack hx (y := (⟨"com/example/bitmend/bitmend/PositionalColumns", "<init>", "(I)V"⟩ : MethodName)) rfl hown (mvT hZ (hw _ (List.mem_of_getElem? (i := 14) rfl))) (mvT hZ (hw _ (List.mem_of_getElem? (i := 15) rfl))) (mvT hZ (hw _ (List.mem_of_getElem? (i := 16) rfl))) (by decide) (backOf (W := 1) (rmct7 l Z a0 hw [] b18 h18 n0 (Nat.le_trans Z0 E18.1) A18 g_b18 F18_21 F18_40) hZ (hw _ (List.mem_of_getElem? (i := 16) rfl)) (hw _ (List.mem_of_getElem? (i := 13) rfl)) (by decide) (by decide)) (g := (mkF m 109 #[.val (.int i0), .val (.int i1), .val (.int i2), .val (.int (3 : Int32)), .val (.int (7 : Int32)), .val (.int (11 : Int32)), .val (.int ((i1 &&& (2147483647 : Int32)) % (12 : Int32))), .val (.long (f0_v74c i0 i1 i2)), .second, .val (.long (f0_v87c i0 i1 i2)), .second, .val (.long (f0_v101c i0 i1 i2)), .second, .unset, .unset, .unset, .unset] [(.int (7 : Int32)), (.ref b18), (.ref b18)])) rfl (by rw [hml]; rfl) (Steps.refl _) (a := b18) (argsL := [(.int (7 : Int32))]) (rest := [(.ref b18)]) (lenOf pd_2 rfl) rfl (by show 2 * 0 + _ ≤ _; exact Nat.le_of_eq rfl) (hb hby at_109) (fun _ _ => ⟨rfl, e18, (by decide : 1 + 2 ≤ _), (by decide : 2 + 46 ≤ _)⟩)
    dsimp only [Pt.U, Pt.locs, Pt.cells, Pt.slots] at X19 l19 y19 z19 st19 hQ19
    subst l19 y19 z19
    obtain ⟨rfl, N19q, K19, u19_0, u19_1⟩ := hQ19
    have N19 := Fr.app N17 N19q
    obtain ⟨Lh19, X19, N19⟩ := hide X19 N19 (C := 3) (S := 48) (by decide) (by decide)
    refine Outs.to st19 ?_
    show Outs p e below s _ _ _ (T19.setTop (mkF m 112 #[.val (.int i0), .val (.int i1), .val (.int i2), .val (.int (3 : Int32)), .val (.int (7 : Int32)), .val (.int (11 : Int32)), .val (.int ((i1 &&& (2147483647 : Int32)) % (12 : Int32))), .val (.long (f0_v74c i0 i1 i2)), .second, .val (.long (f0_v87c i0 i1 i2)), .second, .val (.long (f0_v101c i0 i1 i2)), .second, .unset, .unset, .unset, .unset] [(.ref b18)]))
    refine Outs.of (U' := T19.setTop (mkF m 119 #[.val (.int i0), .val (.int i1), .val (.int i2), .val (.int (3 : Int32)), .val (.int (7 : Int32)), .val (.int (11 : Int32)), .val (.int ((i1 &&& (2147483647 : Int32)) % (12 : Int32))), .val (.long (f0_v74c i0 i1 i2)), .second, .val (.long (f0_v87c i0 i1 i2)), .second, .val (.long (f0_v101c i0 i1 i2)), .second, .val (.ref b18), .unset, .unset, .unset] [(.int ((f0_v101c i0 i1 i2).toInt32)), (.ref b18)])) (fun t k => ?_) ?_
    · refine XS.astore X19.here hx rfl (hb hby at_112) rfl rfl (l' := #[.val (.int i0), .val (.int i1), .val (.int i2), .val (.int (3 : Int32)), .val (.int (7 : Int32)), .val (.int (11 : Int32)), .val (.int ((i1 &&& (2147483647 : Int32)) % (12 : Int32))), .val (.long (f0_v74c i0 i1 i2)), .second, .val (.long (f0_v87c i0 i1 i2)), .second, .val (.long (f0_v101c i0 i1 i2)), .second, .val (.ref b18), .unset, .unset, .unset]) rfl ?_
      refine XS.aload X19.here hx rfl (hb hby at_114) rfl rfl ?_
      refine XS.lload X19.here hx rfl (hb hby at_116) rfl ?_
      refine XS.l2i X19.here hx rfl (hb hby at_118) rfl ?_
      exact k
    obtain ⟨cq20, kq20, q20a, q20b, q20c⟩ := isOf hZ rfl u19_0
    obtain ⟨_, _, ⟨T20, L20, k20, n20⟩, -, X20, ⟨Lc20, hQ20, l20, y20, z20⟩, st20⟩ := X19.virtualBack hx (y := (⟨"com/example/bitmend/bitmend/PositionalColumns", "position", "(I)I"⟩ : MethodName)) (z := (⟨"com/example/bitmend/bitmend/PositionalColumns", "position", "(I)I"⟩ : MethodName)) hown (mvT hZ (hw _ (List.mem_of_getElem? (i := 41) rfl))) (mvT hZ (hw _ (List.mem_of_getElem? (i := 42) rfl))) (notFace_of_selects (args := #[]) (mvT hZ (hw _ (List.mem_of_getElem? (i := 44) rfl)))) (mvT hZ (hw _ (List.mem_of_getElem? (i := 44) rfl))) (mvT hZ (hw _ (List.mem_of_getElem? (i := 43) rfl))) (by decide) (backOf (W := 0) (rm8 l Z a0 hw [] b18 ((f0_v101c i0 i1 i2).toInt32) (7 : Int32) (own_e7 i1) T19.heap n0 u19_1 (own_ok7 i0 i1 i2)) hZ (hw _ (List.mem_of_getElem? (i := 45) rfl)) (hw _ (List.mem_of_getElem? (i := 13) rfl)) (by decide) (by decide)) q20a q20c (g := (mkF m 119 #[.val (.int i0), .val (.int i1), .val (.int i2), .val (.int (3 : Int32)), .val (.int (7 : Int32)), .val (.int (11 : Int32)), .val (.int ((i1 &&& (2147483647 : Int32)) % (12 : Int32))), .val (.long (f0_v74c i0 i1 i2)), .second, .val (.long (f0_v87c i0 i1 i2)), .second, .val (.long (f0_v101c i0 i1 i2)), .second, .val (.ref b18), .unset, .unset, .unset] [(.int ((f0_v101c i0 i1 i2).toInt32)), (.ref b18)])) rfl (by rw [hml]; rfl) (Steps.refl _) (argsL := [(.int ((f0_v101c i0 i1 i2).toInt32))]) (rest := []) (lenOf pd_7 rfl) rfl (by show 2 * 0 + _ ≤ _; exact Nat.le_of_eq rfl) (hb hby at_119) (fun _ _ => ⟨rfl, rfl, (by decide : 3 + 0 ≤ _), (by decide : 48 + 0 ≤ _)⟩)
    dsimp only [Pt.U, Pt.locs, Pt.cells, Pt.slots] at X20 l20 y20 z20 st20 hQ20
    subst l20 y20 z20
    obtain ⟨rfl, N20q, e20⟩ := hQ20
    have N20 := Fr.app N19 N20q
    obtain ⟨Lh20, X20, N20⟩ := hide X20 N20 (C := 3) (S := 48) (by decide) (by decide)
    refine Outs.to st20 ?_
    show Outs p e below s _ _ _ (T20.setTop (mkF m 122 #[.val (.int i0), .val (.int i1), .val (.int i2), .val (.int (3 : Int32)), .val (.int (7 : Int32)), .val (.int (11 : Int32)), .val (.int ((i1 &&& (2147483647 : Int32)) % (12 : Int32))), .val (.long (f0_v74c i0 i1 i2)), .second, .val (.long (f0_v87c i0 i1 i2)), .second, .val (.long (f0_v101c i0 i1 i2)), .second, .val (.ref b18), .unset, .unset, .unset] [(.int (F_f8 ((f0_v101c i0 i1 i2).toInt32) (7 : Int32) (own_e7 i1)))]))
    refine Outs.of (U' := T20.setTop (mkF m 158 #[.val (.int i0), .val (.int i1), .val (.int i2), .val (.int (3 : Int32)), .val (.int (7 : Int32)), .val (.int (11 : Int32)), .val (.int ((i1 &&& (2147483647 : Int32)) % (12 : Int32))), .val (.long (f0_v74c i0 i1 i2)), .second, .val (.long (f0_v87c i0 i1 i2)), .second, .val (.long (f0_v101c i0 i1 i2)), .second, .val (.ref b18), .val (.int (F_f8 ((f0_v101c i0 i1 i2).toInt32) (7 : Int32) (own_e7 i1))), .val (.long (f0_v142c i0 i1 i2)), .second] [(.int (1 : Int32))])) (fun t k => ?_) ?_
    · refine XS.istore X20.here hx rfl (hb hby at_122) rfl (l' := #[.val (.int i0), .val (.int i1), .val (.int i2), .val (.int (3 : Int32)), .val (.int (7 : Int32)), .val (.int (11 : Int32)), .val (.int ((i1 &&& (2147483647 : Int32)) % (12 : Int32))), .val (.long (f0_v74c i0 i1 i2)), .second, .val (.long (f0_v87c i0 i1 i2)), .second, .val (.long (f0_v101c i0 i1 i2)), .second, .val (.ref b18), .val (.int (F_f8 ((f0_v101c i0 i1 i2).toInt32) (7 : Int32) (own_e7 i1))), .unset, .unset]) rfl ?_
      refine XS.lload X20.here hx rfl (hb hby at_124) rfl ?_
      refine XS.lconst X20.here hx rfl (hb hby at_126) ?_
      refine XS.lsub X20.here hx rfl (hb hby at_127) rfl ?_
      refine XS.iload X20.here hx rfl (hb hby at_128) rfl ?_
      refine XS.iconst X20.here hx rfl (hb hby at_130) ?_
      refine XS.isub X20.here hx rfl (hb hby at_131) rfl ?_
      refine XS.i2l X20.here hx rfl (hb hby at_132) rfl ?_
      refine XS.ldiv X20.here hx rfl (hb hby at_133) rfl (by decide) ?_
      refine XS.lconst X20.here hx rfl (hb hby at_134) ?_
      refine XS.ladd X20.here hx rfl (hb hby at_135) rfl ?_
      refine XS.lload X20.here hx rfl (hb hby at_136) rfl ?_
      refine XS.lload X20.here hx rfl (hb hby at_138) rfl ?_
      refine XS.lsub X20.here hx rfl (hb hby at_140) rfl ?_
      refine XS.ladd X20.here hx rfl (hb hby at_141) rfl ?_
      refine XS.lstore X20.here hx rfl (hb hby at_142) rfl (l' := #[.val (.int i0), .val (.int i1), .val (.int i2), .val (.int (3 : Int32)), .val (.int (7 : Int32)), .val (.int (11 : Int32)), .val (.int ((i1 &&& (2147483647 : Int32)) % (12 : Int32))), .val (.long (f0_v74c i0 i1 i2)), .second, .val (.long (f0_v87c i0 i1 i2)), .second, .val (.long (f0_v101c i0 i1 i2)), .second, .val (.ref b18), .val (.int (F_f8 ((f0_v101c i0 i1 i2).toInt32) (7 : Int32) (own_e7 i1))), .val (.long (f0_v142c i0 i1 i2)), .second]) rfl ?_
      refine XS.iload X20.here hx rfl (hb hby at_144) rfl ?_
      refine XS.i2l X20.here hx rfl (hb hby at_146) rfl ?_
      refine XS.lload X20.here hx rfl (hb hby at_147) rfl ?_
      refine XS.lcmp X20.here hx rfl (hb hby at_149) rfl ?_
      refine XS.ifNo X20.here hx rfl (hb hby at_150) rfl ((if0 _ _).trans (teq ((lw_eq _ _).mpr (law_fin7 i0 i1 i2))).2) ?_
      refine XS.iconst X20.here hx rfl (hb hby at_153) ?_
      refine XS.goto X20.here hx rfl (pc0 := 154) (pc' := 158) rfl (hb hby at_154) (by decide) (by decide) ?_
      exact k
    exact Outs.retN (t := .boolean) (z := (1 : Int32)) X20 hx hret (by simp) (hb hby at_158) hlk (by decide) (by decide) e20 ⟨rfl, N20⟩
set_option maxRecDepth 65536 in
set_option maxHeartbeats 40000000 in
theorem comes_1 {Post : Tables → Env → Array Value → State → Outcome → State → Prop} (hpost : ∀ tb e args s v u, (limb_1_1.after args s (.returned v) u = true ∧ limb_1_2.after args s (.returned v) u = true ∧ True) → FrameEnd s (.returned v) u (Jvm.fieldLocs frame_1_writes args s ++ Jvm.arrayLocs frame_1_arrays args s ++ Jvm.staticLocs frame_1_statics s) 16 256 → Post tb e args s (.returned v) u) :
    ArmFor flags0 classFile x code maxLocals ret World_1 tables_1 room_1 Calls_1 rest_1 Pre_1 Post := by
  intro l hfl _ _ p e ha hc hk s m args below hf hA hF happ hP
  obtain ⟨hcalls, hrest, hpre⟩ := hP
  obtain ⟨-, -, -, hnamed, -, -, -, hat⟩ := (Spec.applies_iff hf).mp happ
  obtain ⟨hg, hn⟩ := and_e (Cond.before_iff.mp (show (Jvm.Cond.and given_1 narrow_1).before args s = true from hpre))
  obtain ⟨g1, g2⟩ := and_e hg
  obtain ⟨g3, g4⟩ := and_e g2
  obtain ⟨g5, g6⟩ := and_e g4
  obtain ⟨w0, w1, w2, rfl⟩ : ∃ w0 w1 w2 : Value, args = #[w0, w1, w2] := by
    have hs : args.size = 3 := by simpa [Cond.value, given_1] using g1
    obtain ⟨L⟩ := args
    match L, hs with
    | [w0, w1, w2], _ => exact ⟨w0, w1, w2, rfl⟩
  have hw := fun d (hd : d ∈ tables_1) => atoms_spec (ws := Jvm.Cond.code x code maxLocals ret :: tables_1) hat d (List.mem_cons_of_mem _ hd)
  obtain ⟨i0, ei0⟩ := is_v g3
  obtain rfl : w0 = (.int i0) := Option.some.inj ei0
  obtain ⟨i1, ei1⟩ := is_v g5
  obtain rfl : w1 = (.int i1) := Option.some.inj ei1
  obtain ⟨i2, ei2⟩ := is_v g6
  obtain rfl : w2 = (.int i2) := Option.some.inj ei2
  obtain ⟨n, o, h1, h2, h3, v, L, rfl, hQ0, hq⟩ := rm0 l s _ hw tables_1 i0 i1 i2 s.heap s.heap.size (Nat.le_refl _) p e ha hc hk s m _ below hf ((Spec.applies_iff_loose hf).mp happ).1 ⟨rfl, State.Warmed39.refl s, rfl⟩ trivial
  obtain ⟨rfl, N⟩ : v = some (.int 1) ∧ Fr s.heap.size L := hQ0
  refine ⟨n, _, h1, h2, h3, hpost _ _ _ _ _ _ ⟨Cond.after_iff.mpr rfl, Cond.after_iff.mpr (eq_i res_at (Term.int_eval (1)) rfl), trivial⟩ ⟨hq.1, hq.2.1, (hq.2.2.sift fun y hy => Or.inr (N y hy)).mono (by decide) (by decide)⟩⟩
theorem main_1_1 : Claimed_1_1 := comes_1 fun _ _ _ _ _ _ h hF => ⟨h.1, hF⟩
theorem main_1_2 : Claimed_1_2 := comes_1 fun _ _ _ _ _ _ h hF => ⟨h.2.1, hF⟩
end Jvm.Pilot.@@N@@
namespace Jvm.Pilot.@@N@@
open Jvm Jvm.ClassFile Sem Op Lib Jvm.Free Jvm.Stand Jvm.Pilot.@@N@@.Jvm.D
/-! MADE BY PROGRAM (witnessworld.py) out of the Statement's table words and the real class files: 15 classes; the members and pool entries that the words name. The judged class is class 1, her method 2. -/
namespace start1
open Jvm.ClassFile
def u (s : String) : CpInfo := .utf8 (stringToUtf16 s)
/-- a pool by its gaps: so many unusable entries, then the entry; so many at the end -/
def gap : Nat → List CpInfo → List CpInfo
  | 0, r => r
  | n + 1, r => .unusable :: gap n r
def poolList (es : List (Nat × CpInfo)) (last : Nat) : List CpInfo := es.foldr (fun e r => gap e.1 (e.2 :: r)) (gap last [])
def pool (es : List (Nat × CpInfo)) (last : Nat) : Array CpInfo := ⟨poolList es last⟩
def fileOf (pool : Array CpInfo) (this : Nat) (attrs : Array Attribute := #[]) (ms : Array MethodInfo := #[]) (fl : Nat := 33) (sup : Nat := 0) (ifs : Array Nat := #[]) (fds : Array FieldInfo := #[]) : ClassFile where
  minorVersion := 0
  majorVersion := 65
  constantPool := pool
  accessFlags := fl
  thisClass := this
  superClass := sup
  interfaces := ifs
  fields := fds
  methods := ms
  attributes := attrs
def plain (name : String) (sup : Option ClassId) : Class where
  name := name
  kind := .ordinary
  loader := none
  accessFlags := 33
  super := sup
  interfaces := #[]
  cf := none
  fields := #[]
  methods := #[]
  instanceTypes := #[]
  staticTypes := #[]
  resolved := #[]
  callSites := []
  init := .initialized
  statics := none
  mirror := none

def pool0 : Array CpInfo := pool [(5, u "<init>"), (0, u "()V"), (1, .class_ 10), (1, u "java/lang/Object")] 113

def k0c0 : Code := { maxStack := 0, maxLocals := 1, code := object_method_1_code, exceptionTable := #[], attributes := #[] }
def k0m0 : Method := { name := "<init>", desc := "()V", sig := { parameters := [], returnType := none }, accessFlags := 1, code := some k0c0 }
/-- java/lang/Object -/
def k0 : Class := { plain "java/lang/Object" none with
  accessFlags := 33
  interfaces := #[]
  cf := some (fileOf pool0 8 #[] #[{ accessFlags := 1, nameIndex := 5, descriptorIndex := 6, attributes := #[] }] 33 0 #[] #[])
  fields := #[]
  methods := #[k0m0]
  instanceTypes := #[]
  staticTypes := #[]
  resolved := Array.replicate 124 none
  statics := none }

def pool1 : Array CpInfo := pool [(2, .class_ 4), (1, u "java/lang/Object"), (0, u "<init>"), (0, u "()V"), (0, .integer 2147483647), (0, .methodref 9 10), (0, .class_ 11), (0, .nameAndType 12 13), (0, u "com/example/bitmend/bitmend/PositionalColumnsPositionPinLaw"), (0, u "power"), (0, u "(II)J"), (0, .long 2147483648), (1, .methodref 17 18), (0, .class_ 19), (0, .nameAndType 20 21), (0, u "java/lang/Math"), (0, u "min"), (0, u "(JJ)J"), (0, .long 2147483647), (1, .class_ 25), (0, u "com/example/bitmend/bitmend/PositionalColumns"), (0, .methodref 24 27), (0, .nameAndType 5 28), (0, u "(I)V"), (0, .methodref 24 30), (0, .nameAndType 31 32), (0, u "position"), (0, u "(I)I"), (3, u "law"), (0, u "(III)Z")] 2

def k1m0 : Method := { name := "<init>", desc := "()V", sig := { parameters := [], returnType := none }, accessFlags := 1, code := none }
def k1c1 : Code := { maxStack := 4, maxLocals := 6, code := method_2_code, exceptionTable := #[], attributes := #[] }
def k1m1 : Method := { name := "power", desc := "(II)J", sig := { parameters := [.int, .int], returnType := some .long }, accessFlags := 10, code := some k1c1 }
def k1c2 : Code := { maxStack := 6, maxLocals := 17, code := code, exceptionTable := #[], attributes := #[] }
def k1m2 : Method := { name := "law", desc := "(III)Z", sig := { parameters := [.int, .int, .int], returnType := some .boolean }, accessFlags := 9, code := some k1c2 }
/-- com/example/bitmend/bitmend/PositionalColumnsPositionPinLaw -/
def k1 : Class := { plain "com/example/bitmend/bitmend/PositionalColumnsPositionPinLaw" (some 0) with
  accessFlags := 49
  interfaces := #[]
  cf := some (fileOf pool1 9 #[] #[{ accessFlags := 1, nameIndex := 5, descriptorIndex := 6, attributes := #[] }, { accessFlags := 10, nameIndex := 12, descriptorIndex := 13, attributes := #[] }, { accessFlags := 9, nameIndex := 36, descriptorIndex := 37, attributes := #[] }] 49 2 #[] #[])
  fields := #[]
  methods := #[k1m0, k1m1, k1m2]
  instanceTypes := #[]
  staticTypes := #[]
  resolved := Array.replicate 40 none
  statics := none }

def pool2 : Array CpInfo := pool [(1, .class_ 2), (0, u "java/lang/Math"), (1, .class_ 6), (1, u "java/lang/Object"), (0, u "<init>"), (0, u "()V"), (89, .class_ 100), (1, u "java/lang/Math$RandomNumberGeneratorHolder"), (20, u "(JJ)J"), (50, u "negativeZeroFloatBits"), (0, u "J"), (2, u "negativeZeroDoubleBits"), (24, u "min"), (43, u "$assertionsDisabled"), (0, u "Z"), (88, u "(II)I"), (2, u "twoToTheDoubleScaleDown"), (0, u "D"), (4, u "twoToTheDoubleScaleUp"), (9, u "E"), (3, u "PI"), (2, u "TAU"), (2, u "DEGREES_TO_RADIANS"), (0, u "RADIANS_TO_DEGREES")] 94

def k2m0 : Method := { name := "<init>", desc := "()V", sig := { parameters := [], returnType := none }, accessFlags := 2, code := none }
def k2c1 : Code := { maxStack := 2, maxLocals := 2, code := jdk_29_method_69_code, exceptionTable := #[], attributes := #[] }
def k2m1 : Method := { name := "min", desc := "(II)I", sig := { parameters := [.int, .int], returnType := some .int }, accessFlags := 9, code := some k2c1 }
def k2c2 : Code := { maxStack := 4, maxLocals := 4, code := jdk_29_method_70_code, exceptionTable := #[], attributes := #[] }
def k2m2 : Method := { name := "min", desc := "(JJ)J", sig := { parameters := [.long, .long], returnType := some .long }, accessFlags := 9, code := some k2c2 }
/-- java/lang/Math -/
def k2 : Class := { plain "java/lang/Math" (some 0) with
  accessFlags := 49
  interfaces := #[]
  cf := some (fileOf pool2 1 #[.nestMembers #[98]] #[{ accessFlags := 2, nameIndex := 7, descriptorIndex := 8, attributes := #[] }, { accessFlags := 9, nameIndex := 201, descriptorIndex := 335, attributes := #[] }, { accessFlags := 9, nameIndex := 201, descriptorIndex := 121, attributes := #[] }] 49 4 #[] #[{ accessFlags := 25, nameIndex := 354, descriptorIndex := 339, attributes := #[] }, { accessFlags := 25, nameIndex := 358, descriptorIndex := 339, attributes := #[] }, { accessFlags := 25, nameIndex := 361, descriptorIndex := 339, attributes := #[] }, { accessFlags := 26, nameIndex := 364, descriptorIndex := 339, attributes := #[] }, { accessFlags := 26, nameIndex := 365, descriptorIndex := 339, attributes := #[] }, { accessFlags := 26, nameIndex := 172, descriptorIndex := 173, attributes := #[] }, { accessFlags := 26, nameIndex := 176, descriptorIndex := 173, attributes := #[] }, { accessFlags := 8, nameIndex := 344, descriptorIndex := 339, attributes := #[] }, { accessFlags := 8, nameIndex := 338, descriptorIndex := 339, attributes := #[] }, { accessFlags := 4120, nameIndex := 245, descriptorIndex := 246, attributes := #[] }])
  fields := #[{ name := "E", type := .double, accessFlags := 25, slot := 0, constantValue := 0 }, { name := "PI", type := .double, accessFlags := 25, slot := 1, constantValue := 0 }, { name := "TAU", type := .double, accessFlags := 25, slot := 2, constantValue := 0 }, { name := "DEGREES_TO_RADIANS", type := .double, accessFlags := 26, slot := 3, constantValue := 0 }, { name := "RADIANS_TO_DEGREES", type := .double, accessFlags := 26, slot := 4, constantValue := 0 }, { name := "negativeZeroFloatBits", type := .long, accessFlags := 26, slot := 5, constantValue := 0 }, { name := "negativeZeroDoubleBits", type := .long, accessFlags := 26, slot := 6, constantValue := 0 }, { name := "twoToTheDoubleScaleUp", type := .double, accessFlags := 8, slot := 7, constantValue := 0 }, { name := "twoToTheDoubleScaleDown", type := .double, accessFlags := 8, slot := 8, constantValue := 0 }, { name := "$assertionsDisabled", type := .boolean, accessFlags := 4120, slot := 9, constantValue := 0 }]
  methods := #[k2m0, k2m1, k2m2]
  instanceTypes := #[]
  staticTypes := #[.double, .double, .double, .double, .double, .long, .long, .double, .double, .boolean]
  resolved := Array.replicate 460 none
  statics := none }

def pool3 : Array CpInfo := pool [(1, .methodref 2 3), (0, .class_ 4), (0, .nameAndType 5 6), (0, u "java/lang/Object"), (0, u "<init>"), (0, u "()V"), (0, .fieldref 8 9), (0, .class_ 10), (0, .nameAndType 11 12), (0, u "com/example/bitmend/bitmend/PositionalColumns"), (0, u "fieldSize"), (0, u "I"), (2, .methodref 16 17), (0, .class_ 18), (0, .nameAndType 19 20), (0, u "com/example/bitmend/bitmend/CodeParameters"), (0, u "columns"), (0, u "(II)J"), (0, .long 2147483647), (1, .methodref 24 25), (0, .class_ 26), (0, .nameAndType 27 28), (0, u "java/util/Arrays"), (0, u "copyOf"), (0, u "([JI)[J"), (0, .fieldref 8 30), (0, .nameAndType 31 32), (0, u "checkPositions"), (0, u "[J"), (4, .class_ 38), (0, u "com/example/bitmend/bitmend/PositionalColumns$DataPositions"), (3, u "(I)V"), (5, u "(I)I"), (2, u "position")] 7

def k3c0 : Code := { maxStack := 6, maxLocals := 4, code := prog_34_method_1_code, exceptionTable := #[], attributes := #[] }
def k3m0 : Method := { name := "<init>", desc := "(I)V", sig := { parameters := [.int], returnType := none }, accessFlags := 0, code := some k3c0 }
def k3c1 : Code := { maxStack := 4, maxLocals := 6, code := prog_34_method_5_code, exceptionTable := #[], attributes := #[] }
def k3m1 : Method := { name := "position", desc := "(I)I", sig := { parameters := [.int], returnType := some .int }, accessFlags := 0, code := some k3c1 }
/-- com/example/bitmend/bitmend/PositionalColumns -/
def k3 : Class := { plain "com/example/bitmend/bitmend/PositionalColumns" (some 0) with
  accessFlags := 48
  interfaces := #[]
  cf := some (fileOf pool3 8 #[.nestMembers #[37]] #[{ accessFlags := 0, nameIndex := 5, descriptorIndex := 42, attributes := #[] }, { accessFlags := 0, nameIndex := 51, descriptorIndex := 48, attributes := #[] }] 48 2 #[] #[{ accessFlags := 18, nameIndex := 11, descriptorIndex := 12, attributes := #[] }, { accessFlags := 18, nameIndex := 31, descriptorIndex := 32, attributes := #[] }])
  fields := #[{ name := "fieldSize", type := .int, accessFlags := 18, slot := 0, constantValue := 0 }, { name := "checkPositions", type := (.array .long), accessFlags := 18, slot := 1, constantValue := 0 }]
  methods := #[k3m0, k3m1]
  instanceTypes := #[.int, (.array .long)]
  staticTypes := #[]
  resolved := Array.replicate 59 none
  statics := none }

def pool4 : Array CpInfo := pool [(4, .class_ 6), (1, u "java/lang/Object"), (3, .class_ 12), (1, u "com/example/bitmend/bitmend/CodeParameters"), (0, u "fieldSize"), (0, u "I"), (2, u "dataBits"), (2, u "checkBits"), (41, u "columns"), (0, u "(II)J"), (57, u "MAX_DATA_BITS"), (2, u "BINARY")] 45

def k4c0 : Code := { maxStack := 4, maxLocals := 5, code := prog_10_method_16_code, exceptionTable := #[], attributes := #[] }
def k4m0 : Method := { name := "columns", desc := "(II)J", sig := { parameters := [.int, .int], returnType := some .long }, accessFlags := 8, code := some k4c0 }
/-- com/example/bitmend/bitmend/CodeParameters -/
def k4 : Class := { plain "com/example/bitmend/bitmend/CodeParameters" (some 0) with
  accessFlags := 49
  interfaces := #[]
  cf := some (fileOf pool4 10 #[] #[{ accessFlags := 8, nameIndex := 62, descriptorIndex := 63, attributes := #[] }] 49 4 #[] #[{ accessFlags := 25, nameIndex := 121, descriptorIndex := 14, attributes := #[] }, { accessFlags := 26, nameIndex := 124, descriptorIndex := 14, attributes := #[] }, { accessFlags := 18, nameIndex := 13, descriptorIndex := 14, attributes := #[] }, { accessFlags := 18, nameIndex := 17, descriptorIndex := 14, attributes := #[] }, { accessFlags := 18, nameIndex := 20, descriptorIndex := 14, attributes := #[] }])
  fields := #[{ name := "MAX_DATA_BITS", type := .int, accessFlags := 25, slot := 0, constantValue := 0 }, { name := "BINARY", type := .int, accessFlags := 26, slot := 1, constantValue := 0 }, { name := "fieldSize", type := .int, accessFlags := 18, slot := 0, constantValue := 0 }, { name := "dataBits", type := .int, accessFlags := 18, slot := 1, constantValue := 0 }, { name := "checkBits", type := .int, accessFlags := 18, slot := 2, constantValue := 0 }]
  methods := #[k4m0]
  instanceTypes := #[.int, .int, .int]
  staticTypes := #[.int, .int]
  resolved := Array.replicate 170 none
  statics := none }

def pool5 : Array CpInfo := pool [(2, .class_ 4), (1, u "java/lang/Object"), (0, u "<init>"), (0, u "()V"), (7, .class_ 16), (1, u "java/util/Arrays"), (57, .class_ 76), (1, u "java/util/Arrays$NaturalOrder"), (36, .class_ 115), (1, u "java/util/Arrays$LegacyMergeSort"), (1, u "Z"), (32, .methodref 151 152), (0, .class_ 153), (0, .nameAndType 154 155), (0, u "java/lang/System"), (0, u "arraycopy"), (0, u "(Ljava/lang/Object;ILjava/lang/Object;II)V"), (146, u "copyOf"), (1, .methodref 305 306), (0, .class_ 307), (0, .nameAndType 308 309), (0, u "java/lang/Math"), (0, u "min"), (0, u "(II)I"), (65, .class_ 376), (0, u "java/util/Arrays$ArrayList"), (68, u "$assertionsDisabled"), (269, u "MIN_ARRAY_SORT_GRAN"), (0, u "I"), (2, u "INSERTIONSORT_THRESHOLD"), (152, u "([JI)[J"), (102, .class_ 976), (0, u "java/util/Arrays$ArrayItr")] 52

def k5m0 : Method := { name := "<init>", desc := "()V", sig := { parameters := [], returnType := none }, accessFlags := 2, code := none }
def k5c1 : Code := { maxStack := 6, maxLocals := 3, code := jdk_65_method_124_code, exceptionTable := #[], attributes := #[] }
def k5m1 : Method := { name := "copyOf", desc := "([JI)[J", sig := { parameters := [(.array .long), .int], returnType := some (.array .long) }, accessFlags := 9, code := some k5c1 }
/-- java/util/Arrays -/
def k5 : Class := { plain "java/util/Arrays" (some 0) with
  accessFlags := 49
  interfaces := #[]
  cf := some (fileOf pool5 14 #[.nestMembers #[975, 375, 113, 74]] #[{ accessFlags := 2, nameIndex := 5, descriptorIndex := 6, attributes := #[] }, { accessFlags := 9, nameIndex := 302, descriptorIndex := 872, attributes := #[] }] 49 2 #[] #[{ accessFlags := 26, nameIndex := 715, descriptorIndex := 716, attributes := #[] }, { accessFlags := 26, nameIndex := 719, descriptorIndex := 716, attributes := #[] }, { accessFlags := 4120, nameIndex := 445, descriptorIndex := 117, attributes := #[] }])
  fields := #[{ name := "MIN_ARRAY_SORT_GRAN", type := .int, accessFlags := 26, slot := 0, constantValue := 0 }, { name := "INSERTIONSORT_THRESHOLD", type := .int, accessFlags := 26, slot := 1, constantValue := 0 }, { name := "$assertionsDisabled", type := .boolean, accessFlags := 4120, slot := 2, constantValue := 0 }]
  methods := #[k5m0, k5m1]
  instanceTypes := #[]
  staticTypes := #[.int, .int, .boolean]
  resolved := Array.replicate 1029 none
  statics := none }

def pool6 : Array CpInfo := pool [(2, .class_ 4), (1, u "java/lang/Object"), (0, u "<init>"), (0, u "()V"), (1, .class_ 10), (1, u "java/lang/System"), (0, u "allowSecurityManager"), (0, u "I"), (16, u "cons"), (0, u "Ljava/io/Console;"), (77, .class_ 110), (1, u "java/lang/System$CallersHolder"), (43, u "initialErrStream"), (0, u "Ljava/io/PrintStream;"), (19, u "security"), (0, u "Ljava/lang/SecurityManager;"), (31, .class_ 209), (0, u "java/lang/System$1"), (7, u "props"), (0, u "Ljava/util/Properties;"), (2, u "lineSeparator"), (0, u "Ljava/lang/String;"), (96, .class_ 321), (1, u "java/lang/System$LoggerFinder"), (5, .class_ 328), (0, u "java/lang/System$Logger"), (67, u "err"), (2, u "out"), (91, u "notSupportedJnuEncoding"), (15, u "in"), (17, u "initialIn"), (0, u "Ljava/io/InputStream;"), (35, u "bootLayer"), (0, u "Ljava/lang/ModuleLayer;"), (99, .class_ 664), (0, u "java/lang/System$2"), (9, u "NEVER"), (2, u "MAYBE"), (49, u "arraycopy"), (0, u "(Ljava/lang/Object;ILjava/lang/Object;II)V"), (72, .class_ 802), (0, u "java/lang/System$Logger$Level")] 31

def k6m0 : Method := { name := "<init>", desc := "()V", sig := { parameters := [], returnType := none }, accessFlags := 2, code := none }
def k6m1 : Method := { name := "arraycopy", desc := "(Ljava/lang/Object;ILjava/lang/Object;II)V", sig := { parameters := [(.object "java/lang/Object"), .int, (.object "java/lang/Object"), .int, .int], returnType := none }, accessFlags := 265, code := none }
/-- java/lang/System -/
def k6 : Class := { plain "java/lang/System" (some 0) with
  accessFlags := 49
  interfaces := #[]
  cf := some (fileOf pool6 8 #[.nestMembers #[319, 327, 801, 108, 663, 208]] #[{ accessFlags := 2, nameIndex := 5, descriptorIndex := 6, attributes := #[] }, { accessFlags := 265, nameIndex := 727, descriptorIndex := 728, attributes := #[] }] 49 2 #[] #[{ accessFlags := 25, nameIndex := 507, descriptorIndex := 526, attributes := #[] }, { accessFlags := 25, nameIndex := 399, descriptorIndex := 155, attributes := #[] }, { accessFlags := 25, nameIndex := 396, descriptorIndex := 155, attributes := #[] }, { accessFlags := 10, nameIndex := 525, descriptorIndex := 526, attributes := #[] }, { accessFlags := 26, nameIndex := 674, descriptorIndex := 12, attributes := #[] }, { accessFlags := 26, nameIndex := 677, descriptorIndex := 12, attributes := #[] }, { accessFlags := 10, nameIndex := 11, descriptorIndex := 12, attributes := #[] }, { accessFlags := 74, nameIndex := 175, descriptorIndex := 176, attributes := #[] }, { accessFlags := 10, nameIndex := 491, descriptorIndex := 222, attributes := #[] }, { accessFlags := 74, nameIndex := 29, descriptorIndex := 30, attributes := #[] }, { accessFlags := 74, nameIndex := 154, descriptorIndex := 155, attributes := #[] }, { accessFlags := 10, nameIndex := 217, descriptorIndex := 218, attributes := #[] }, { accessFlags := 10, nameIndex := 221, descriptorIndex := 222, attributes := #[] }, { accessFlags := 8, nameIndex := 562, descriptorIndex := 563, attributes := #[] }])
  fields := #[{ name := "in", type := (.object "java/io/InputStream"), accessFlags := 25, slot := 0, constantValue := 0 }, { name := "out", type := (.object "java/io/PrintStream"), accessFlags := 25, slot := 1, constantValue := 0 }, { name := "err", type := (.object "java/io/PrintStream"), accessFlags := 25, slot := 2, constantValue := 0 }, { name := "initialIn", type := (.object "java/io/InputStream"), accessFlags := 10, slot := 3, constantValue := 0 }, { name := "NEVER", type := .int, accessFlags := 26, slot := 4, constantValue := 0 }, { name := "MAYBE", type := .int, accessFlags := 26, slot := 5, constantValue := 0 }, { name := "allowSecurityManager", type := .int, accessFlags := 10, slot := 6, constantValue := 0 }, { name := "security", type := (.object "java/lang/SecurityManager"), accessFlags := 74, slot := 7, constantValue := 0 }, { name := "notSupportedJnuEncoding", type := (.object "java/lang/String"), accessFlags := 10, slot := 8, constantValue := 0 }, { name := "cons", type := (.object "java/io/Console"), accessFlags := 74, slot := 9, constantValue := 0 }, { name := "initialErrStream", type := (.object "java/io/PrintStream"), accessFlags := 74, slot := 10, constantValue := 0 }, { name := "props", type := (.object "java/util/Properties"), accessFlags := 10, slot := 11, constantValue := 0 }, { name := "lineSeparator", type := (.object "java/lang/String"), accessFlags := 10, slot := 12, constantValue := 0 }, { name := "bootLayer", type := (.object "java/lang/ModuleLayer"), accessFlags := 8, slot := 13, constantValue := 0 }]
  methods := #[k6m0, k6m1]
  instanceTypes := #[]
  staticTypes := #[(.object "java/io/InputStream"), (.object "java/io/PrintStream"), (.object "java/io/PrintStream"), (.object "java/io/InputStream"), .int, .int, .int, (.object "java/lang/SecurityManager"), (.object "java/lang/String"), (.object "java/io/Console"), (.object "java/io/PrintStream"), (.object "java/util/Properties"), (.object "java/lang/String"), (.object "java/lang/ModuleLayer")]
  resolved := Array.replicate 834 none
  statics := none }

def pool7 : Array CpInfo := pool [(1, u "java/lang/Cloneable"), (0, .class_ 1), (0, u "java/lang/Object"), (0, .class_ 3)] 3

/-- java/lang/Cloneable -/
def k7 : Class := { plain "java/lang/Cloneable" (some 0) with
  accessFlags := 1537
  interfaces := #[]
  cf := some (fileOf pool7 2 #[] #[] 1537 4 #[] #[])
  fields := #[]
  methods := #[]
  instanceTypes := #[]
  staticTypes := #[]
  resolved := Array.replicate 8 none
  statics := none }

def pool8 : Array CpInfo := pool [(1, u "java/io/Serializable"), (0, .class_ 1), (0, u "java/lang/Object"), (0, .class_ 3)] 3

/-- java/io/Serializable -/
def k8 : Class := { plain "java/io/Serializable" (some 0) with
  accessFlags := 1537
  interfaces := #[]
  cf := some (fileOf pool8 2 #[] #[] 1537 4 #[] #[])
  fields := #[]
  methods := #[]
  instanceTypes := #[]
  staticTypes := #[]
  resolved := Array.replicate 8 none
  statics := none }

/-- the primitive byte -/
def k9 : Class := { plain "byte" none with kind := .primitive 'B', accessFlags := 0x411 }
/-- [B -/
def k10 : Class := { plain "[B" (some 0) with kind := .array 9 .byte, interfaces := #[7, 8], accessFlags := 1041 }

/-- the primitive int -/
def k11 : Class := { plain "int" none with kind := .primitive 'I', accessFlags := 0x411 }
/-- [I -/
def k12 : Class := { plain "[I" (some 0) with kind := .array 11 .int, interfaces := #[7, 8], accessFlags := 1041 }

/-- the primitive long -/
def k13 : Class := { plain "long" none with kind := .primitive 'J', accessFlags := 0x411 }
/-- [J -/
def k14 : Class := { plain "[J" (some 0) with kind := .array 13 .long, interfaces := #[7, 8], accessFlags := 1041 }

def heap : Heap := #[]
def classes : Array Class := #[k0, k1, k2, k3, k4, k5, k6, k7, k8, k9, k10, k11, k12, k13, k14]
def interned : List (Array UInt16 × Addr) := []
def slotsUsed : Nat := 0
def theMethod : MethodId := ⟨1, 2⟩
def args0 : Array Value := #[.int 1, .int 7, .int 9]
def aboutOver (below : List Frame) : State where
  vm := { classes := classes, interned := interned.toArray }
  heap := heap
  slotsUsed := slotsUsed
  threads := #[{ frames := .invoking theMethod args0 :: below }]
def below0 : List Frame := [.native { method := ⟨0, 0⟩, args := #[] }]
def about1 : State := aboutOver below0
def p0 : Program := .bare "" "" ""
def e0 : Env := launch0.env 0 0 0
theorem w_frames : about1.frames = Frame.invoking theMethod args0 :: below0 := rfl
set_option maxRecDepth 65536 in
theorem w_args : argsFit about1.vm theMethod args0 = true := by decide +kernel
set_option maxRecDepth 65536 in
theorem w_heap : heapFits about1 = true := by decide +kernel
set_option maxRecDepth 65536 in
theorem w_runnable : about1.curStatus? = some .runnable := by decide +kernel
set_option maxRecDepth 65536 in
theorem w_alone : about1.alone = true := by decide +kernel
set_option maxRecDepth 65536 in
theorem w_named : about1.methodNamed? x = some theMethod := by decide +kernel
set_option maxRecDepth 65536 in
theorem w_hears : about1.hears theMethod below0 = true := by decide +kernel
set_option maxRecDepth 65536 in
theorem w_ripe : about1.ripe theMethod args0 below0 = true := by decide +kernel
theorem w_running : about1.status = .running := rfl
set_option maxRecDepth 65536 in
theorem w_room : about1.hasRoom e0.platform room_1 = true :=
  launch0.hasRoom_least _ room_1 (by decide +kernel) (by decide +kernel) (by decide +kernel) (by decide +kernel) (by decide +kernel) (by decide +kernel)
theorem allAtoms_all (ts : List Jvm.Cond) (a : Array Jvm.Value) (st : Jvm.State) : (allAtoms ts).before a st = ts.all (fun c => c.before a st) := by
  induction ts with
  | nil => rfl
  | cons c t ih =>
    show (Jvm.Cond.and c (allAtoms t)).before a st = _
    rw [Jvm.Cond.before_and, ih, List.all_cons]
def words1 : List Jvm.Cond := Jvm.Cond.code x code maxLocals ret :: tables_1
/-- a 'code' word, met by the world's own term for the bytes: nothing is compared byte by byte -/
theorem code_word {y : MethodName} {bytes : ByteArray} {mx : Nat} {rt : Option FieldType} {a : Array Value} {s : State} {m : MethodId} {meth : Method} {c : Code} (h1 : s.methodNamed? y = some m) (h2 : s.vm.method? m = some meth) (h3 : meth.code = some c) (h4 : c.code = bytes)
    (h5 : (c.maxLocals == mx && c.exceptionTable.isEmpty && decide (c.maxStack ≤ mostOperands) && decide (meth.sig.returnType = rt) && !meth.locks && decide (parseMethodDescriptor y.desc = some meth.sig)) = true) : (Jvm.Cond.code y bytes mx rt).before a s = true := by
  simp only [Bool.and_eq_true, beq_iff_eq, Bool.not_eq_true', decide_eq_true_eq] at h5
  obtain ⟨⟨⟨⟨⟨g1, g2⟩, g3⟩, g4⟩, g5⟩, g6⟩ := h5
  simp [Cond.before, Cond.holds, Cond.value, h1, h2, h3, h4, g1, g2, g3, g4, g5, g6]
def isCode : Jvm.Cond → Bool
  | .code _ _ _ _ => true
  | _ => false
theorem all_split {L : List Jvm.Cond} {P : Jvm.Cond → Bool} (h1 : L.all (fun c => isCode c || P c) = true) (h2 : ∀ c ∈ L.filter isCode, P c = true) : L.all P = true := by
  refine List.all_eq_true.mpr fun c hc => ?_
  have h := List.all_eq_true.mp h1 c hc
  rcases Bool.eq_false_or_eq_true (isCode c) with hi | hi
  · exact h2 c (List.mem_filter.mpr ⟨hc, hi⟩)
  · simpa [hi] using h
set_option maxRecDepth 65536 in
theorem w_c0 : (Jvm.Cond.code x code maxLocals ret).before args0 about1 = true := code_word (m := ⟨1, 2⟩) (meth := k1m2) (c := k1c2) (by decide +kernel) rfl rfl rfl (by decide +kernel)
set_option maxRecDepth 65536 in
theorem w_c1 : (Jvm.Cond.code ({ cls := "com/example/bitmend/bitmend/PositionalColumnsPositionPinLaw", name := "power", desc := "(II)J" } : Jvm.MethodName) method_2_code (6 : Nat) (Option.some Jvm.ClassFile.FieldType.long)).before args0 about1 = true := code_word (m := ⟨1, 1⟩) (meth := k1m1) (c := k1c1) (by decide +kernel) rfl rfl rfl (by decide +kernel)
set_option maxRecDepth 65536 in
theorem w_c2 : (Jvm.Cond.code ({ cls := "java/lang/Math", name := "min", desc := "(JJ)J" } : Jvm.MethodName) jdk_29_method_70_code (4 : Nat) (Option.some Jvm.ClassFile.FieldType.long)).before args0 about1 = true := code_word (m := ⟨2, 2⟩) (meth := k2m2) (c := k2c2) (by decide +kernel) rfl rfl rfl (by decide +kernel)
set_option maxRecDepth 65536 in
theorem w_c3 : (Jvm.Cond.code ({ cls := "com/example/bitmend/bitmend/PositionalColumns", name := "<init>", desc := "(I)V" } : Jvm.MethodName) prog_34_method_1_code (4 : Nat) (Option.none : Option Jvm.ClassFile.FieldType)).before args0 about1 = true := code_word (m := ⟨3, 0⟩) (meth := k3m0) (c := k3c0) (by decide +kernel) rfl rfl rfl (by decide +kernel)
set_option maxRecDepth 65536 in
theorem w_c4 : (Jvm.Cond.code ({ cls := "java/lang/Object", name := "<init>", desc := "()V" } : Jvm.MethodName) object_method_1_code (1 : Nat) (Option.none : Option Jvm.ClassFile.FieldType)).before args0 about1 = true := code_word (m := ⟨0, 0⟩) (meth := k0m0) (c := k0c0) (by decide +kernel) rfl rfl rfl (by decide +kernel)
set_option maxRecDepth 65536 in
theorem w_c5 : (Jvm.Cond.code ({ cls := "com/example/bitmend/bitmend/CodeParameters", name := "columns", desc := "(II)J" } : Jvm.MethodName) prog_10_method_16_code (5 : Nat) (Option.some Jvm.ClassFile.FieldType.long)).before args0 about1 = true := code_word (m := ⟨4, 0⟩) (meth := k4m0) (c := k4c0) (by decide +kernel) rfl rfl rfl (by decide +kernel)
set_option maxRecDepth 65536 in
theorem w_c6 : (Jvm.Cond.code ({ cls := "java/util/Arrays", name := "copyOf", desc := "([JI)[J" } : Jvm.MethodName) jdk_65_method_124_code (3 : Nat) (Option.some (Jvm.ClassFile.FieldType.array Jvm.ClassFile.FieldType.long))).before args0 about1 = true := code_word (m := ⟨5, 1⟩) (meth := k5m1) (c := k5c1) (by decide +kernel) rfl rfl rfl (by decide +kernel)
set_option maxRecDepth 65536 in
theorem w_c7 : (Jvm.Cond.code ({ cls := "java/lang/Math", name := "min", desc := "(II)I" } : Jvm.MethodName) jdk_29_method_69_code (2 : Nat) (Option.some Jvm.ClassFile.FieldType.int)).before args0 about1 = true := code_word (m := ⟨2, 1⟩) (meth := k2m1) (c := k2c1) (by decide +kernel) rfl rfl rfl (by decide +kernel)
set_option maxRecDepth 65536 in
theorem w_c8 : (Jvm.Cond.code ({ cls := "com/example/bitmend/bitmend/PositionalColumns", name := "position", desc := "(I)I" } : Jvm.MethodName) prog_34_method_5_code (6 : Nat) (Option.some Jvm.ClassFile.FieldType.int)).before args0 about1 = true := code_word (m := ⟨3, 1⟩) (meth := k3m1) (c := k3c1) (by decide +kernel) rfl rfl rfl (by decide +kernel)
def codes1 : List Jvm.Cond := [Jvm.Cond.code x code maxLocals ret, Jvm.Cond.code ({ cls := "com/example/bitmend/bitmend/PositionalColumnsPositionPinLaw", name := "power", desc := "(II)J" } : Jvm.MethodName) method_2_code (6 : Nat) (Option.some Jvm.ClassFile.FieldType.long), Jvm.Cond.code ({ cls := "java/lang/Math", name := "min", desc := "(JJ)J" } : Jvm.MethodName) jdk_29_method_70_code (4 : Nat) (Option.some Jvm.ClassFile.FieldType.long), Jvm.Cond.code ({ cls := "com/example/bitmend/bitmend/PositionalColumns", name := "<init>", desc := "(I)V" } : Jvm.MethodName) prog_34_method_1_code (4 : Nat) (Option.none : Option Jvm.ClassFile.FieldType), Jvm.Cond.code ({ cls := "java/lang/Object", name := "<init>", desc := "()V" } : Jvm.MethodName) object_method_1_code (1 : Nat) (Option.none : Option Jvm.ClassFile.FieldType), Jvm.Cond.code ({ cls := "com/example/bitmend/bitmend/CodeParameters", name := "columns", desc := "(II)J" } : Jvm.MethodName) prog_10_method_16_code (5 : Nat) (Option.some Jvm.ClassFile.FieldType.long), Jvm.Cond.code ({ cls := "java/util/Arrays", name := "copyOf", desc := "([JI)[J" } : Jvm.MethodName) jdk_65_method_124_code (3 : Nat) (Option.some (Jvm.ClassFile.FieldType.array Jvm.ClassFile.FieldType.long)), Jvm.Cond.code ({ cls := "java/lang/Math", name := "min", desc := "(II)I" } : Jvm.MethodName) jdk_29_method_69_code (2 : Nat) (Option.some Jvm.ClassFile.FieldType.int), Jvm.Cond.code ({ cls := "com/example/bitmend/bitmend/PositionalColumns", name := "position", desc := "(I)I" } : Jvm.MethodName) prog_34_method_5_code (6 : Nat) (Option.some Jvm.ClassFile.FieldType.int)]
set_option maxRecDepth 65536 in
theorem codes_eq : words1.filter isCode = codes1 := rfl
theorem w_codes : ∀ c ∈ words1.filter isCode, c.before args0 about1 = true := by
  rw [codes_eq]
  intro c hc
  simp only [codes1, List.mem_cons, List.not_mem_nil, or_false] at hc
  rcases hc with rfl | rfl | rfl | rfl | rfl | rfl | rfl | rfl | rfl
  · exact w_c0
  · exact w_c1
  · exact w_c2
  · exact w_c3
  · exact w_c4
  · exact w_c5
  · exact w_c6
  · exact w_c7
  · exact w_c8
set_option maxRecDepth 65536 in
theorem w_t1 : (words1.take 24).all (fun c => isCode c || c.before args0 about1) = true := by decide +kernel
set_option maxRecDepth 65536 in
theorem w_t2 : (words1.drop 24).all (fun c => isCode c || c.before args0 about1) = true := by decide +kernel
theorem w_tables : (allAtoms (Jvm.Cond.code x code maxLocals ret :: tables_1)).before args0 about1 = true := by
  rw [allAtoms_all]
  show words1.all (fun c => c.before args0 about1) = true
  refine all_split ?_ w_codes
  rw [← List.take_append_drop 24 words1, List.all_append, w_t1, w_t2]
  rfl
set_option maxRecDepth 65536 in
theorem w_case : (Jvm.Cond.and given_1 narrow_1).before args0 about1 = true := by decide +kernel
theorem w_applies : (headSpec (Jvm.Cond.code x code maxLocals ret :: tables_1) room_1).applies x e0.platform about1 = true :=
  (Spec.applies_iff w_frames).mpr ⟨w_running, w_runnable, w_alone, w_named, w_hears, w_ripe, w_room, w_tables⟩
theorem atStart : AtStart classFile x code maxLocals ret World_1 tables_1 room_1 Calls_1 rest_1 Pre_1 launch0 p0 e0 about1 theMethod args0 below0 :=
  ⟨lists_1, trivial, launch0.admits_env _ _ _, launch0.least_env, fairChoices_fair.cas, fairChoices_fair.clock, w_frames, w_args, w_heap, w_applies, trivial, trivial, w_case⟩
end start1
theorem witness_1 : WitnessClaimed_1 := ⟨start1.p0, start1.e0, start1.about1, start1.theMethod, start1.args0, start1.below0, start1.atStart⟩
end Jvm.Pilot.@@N@@
