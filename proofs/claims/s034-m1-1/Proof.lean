import JvmDerived
import JvmDerived.Pilot.@@N@@Statement
import JvmDerived.Pilot.@@N@@Code
set_option linter.unusedVariables false
set_option linter.unusedSimpArgs false
namespace Jvm.RoadKit
open Sem ClassFile Op Lib Jvm.Stand Jvm.Free Jvm.LawKit
section Own
variable {p : Program} {l : Launch} {e : Env} {R : Room} {s : State} {m : MethodId} {args : Array Value} {below : List Frame} {meth : Method} {c : Code} {T : State} {locs : List Loc} {cells slots : Nat}
/-- from U the run ends, and Q holds of what it returns -/
def Outs (p : Program) (e : Env) (below : List Frame) (s : State) (Q : Option Value → Heap → List Loc → Prop) (C S : Nat) (U : State) : Prop :=
  ∃ s₂ o, Steps p.tables e below U s₂ ∧ s₂.status = .running ∧ Ended s₂ below o ∧ ∃ v L, o = .returned v ∧ Q v s₂.heap L ∧ FrameEnd s o s₂ L C S
variable {Q : Option Value → Heap → List Loc → Prop} {C S : Nat}
theorem Outs.of {U U' : State} (h : ∀ t, Steps p.tables e below U' t → Steps p.tables e below U t) (k : Outs p e below s Q C S U') : Outs p e below s Q C S U := by
  obtain ⟨t, o, st, r⟩ := k
  exact ⟨t, o, h t st, r⟩
theorem Outs.to {U U' : State} (h : Steps p.tables e below U U') (k : Outs p e below s Q C S U') : Outs p e below s Q C S U := by
  obtain ⟨t, o, st, r⟩ := k
  exact ⟨t, o, h.trans st, r⟩
theorem Outs.mono {U : State} {Q' : Option Value → Heap → List Loc → Prop} (k : Outs p e below s Q C S U) (h : ∀ v h L, Q v h L → Q' v h L) : Outs p e below s Q' C S U := by
  obtain ⟨t, o, st, h1, h2, v, L, h3, h4, h5⟩ := k
  exact ⟨t, o, st, h1, h2, v, L, h3, h _ _ _ h4, h5⟩
theorem Outs.ret (X : Stand p l e R s m args below meth c T locs cells slots) {g : JFrame} {v : Option Value} (hv : meth.sig.returnType = none → v = none) (hlk : meth.locks = false) (hC : cells ≤ C) (hS : slots ≤ S)
    (st : ∀ fs, (∀ (f : JFrame) (acts : List Action), f.method = m → f.locked = none → f.entered = [] → (doReturn e (T.setTop f) acts v).1 = T.setFrames fs) → Steps p.tables e below (T.setTop g) (T.setFrames fs))
    {h : Heap} (eT : T.heap = h) (q : Q v h locs) : Outs p e below s Q C S (T.setTop g) := by
  subst eT
  obtain ⟨fs, hr, hrun, hended, hW, hsame⟩ := X.leave (v := v) hv hlk
  exact ⟨_, _, st fs hr, hrun, hended, v, locs, rfl, q, ⟨_, rfl⟩, hW, hsame.mono hC hS⟩
theorem Outs.retI (X : Stand p l e R s m args below meth c T locs cells slots) (hx : p.tables.exec = Jvm.exec) {pc : Nat} {Ls : Array Slot} {z : Int32} {rest : List Value} (hret : meth.sig.returnType = some .int) (hd : decode c.code pc = .ok (.ireturn, 1)) (hlk : meth.locks = false) (hC : cells ≤ C) (hS : slots ≤ S)
    {h : Heap} (eT : T.heap = h) (q : Q (some (.int z)) h locs) : Outs p e below s Q C S (T.setTop (mkF m pc Ls (.int z :: rest))) :=
  Outs.ret X (fun h => by rw [hret] at h; cases h) hlk hC hS (fun fs hl => retOut X hx hret rfl (Or.inl ⟨rfl, Or.inl rfl, z, rfl⟩) hd hl) eT q
theorem Outs.retL (X : Stand p l e R s m args below meth c T locs cells slots) (hx : p.tables.exec = Jvm.exec) {pc : Nat} {Ls : Array Slot} {z : Int64} {rest : List Value} (hret : meth.sig.returnType = some .long) (hd : decode c.code pc = .ok (.lreturn, 1)) (hlk : meth.locks = false) (hC : cells ≤ C) (hS : slots ≤ S)
    {h : Heap} (eT : T.heap = h) (q : Q (some (.long z)) h locs) : Outs p e below s Q C S (T.setTop (mkF m pc Ls (.long z :: rest))) :=
  Outs.ret X (fun h => by rw [hret] at h; cases h) hlk hC hS (fun fs hl => retOut X hx hret rfl (Or.inr (Or.inl ⟨rfl, rfl, z, rfl⟩)) hd hl) eT q
theorem Outs.retN (X : Stand p l e R s m args below meth c T locs cells slots) (hx : p.tables.exec = Jvm.exec) {pc : Nat} {Ls : Array Slot} {z : Int32} {t : FieldType} {rest : List Value} (hret : meth.sig.returnType = some t) (ht : t = .boolean ∨ t = .byte ∨ t = .char ∨ t = .short) (hd : decode c.code pc = .ok (.ireturn, 1)) (hlk : meth.locks = false) (hC : cells ≤ C) (hS : slots ≤ S)
    {h : Heap} (eT : T.heap = h) (q : Q (some (.int (nar t z))) h locs) : Outs p e below s Q C S (T.setTop (mkF m pc Ls (.int z :: rest))) :=
  Outs.ret X (fun h => by rw [hret] at h; cases h) hlk hC hS (fun fs hl => Jvm.RoadKit.retN X hx hret ht hd hl) eT q
theorem Outs.retV (X : Stand p l e R s m args below meth c T locs cells slots) (hx : p.tables.exec = Jvm.exec) {pc : Nat} {Ls : Array Slot} (hret : meth.sig.returnType = none) (hd : decode c.code pc = .ok (.return_, 1)) (hlk : meth.locks = false) (hC : cells ≤ C) (hS : slots ≤ S)
    {h : Heap} (eT : T.heap = h) (q : Q none h locs) : Outs p e below s Q C S (T.setTop (mkF m pc Ls [])) :=
  Outs.ret X (fun _ => rfl) hlk hC hS (fun fs hl => X.returnOut hx hret hd hl) eT q
theorem Outs.retA (X : Stand p l e R s m args below meth c T locs cells slots) (hx : p.tables.exec = Jvm.exec) {pc : Nat} {Ls : Array Slot} {w : Value} {t : FieldType} {rest : List Value} (hret : meth.sig.returnType = some t) (ht : t.isReference = true) (hw : w.isRef = true) (hn : narrow t w = w) (hd : decode c.code pc = .ok (.areturn, 1)) (hlk : meth.locks = false) (hC : cells ≤ C) (hS : slots ≤ S)
    {h : Heap} (eT : T.heap = h) (q : Q (some w) h locs) : Outs p e below s Q C S (T.setTop (mkF m pc Ls (w :: rest))) :=
  Outs.ret X (fun h => by rw [hret] at h; cases h) hlk hC hS (fun fs hl => retOut X hx hret hn (Or.inr (Or.inr (Or.inr (Or.inr ⟨rfl, ht, hw⟩)))) hd hl) eT q
theorem lremM {g : JFrame} {target : State} (X : Stand p l e R s m args below meth c T locs cells slots) (hx : p.tables.exec = Jvm.exec) (hg : g.method = m) {x y : Int64} {rest : List Value} (hd : decode c.code g.pc = .ok (.lrem, 1)) (hs : g.stack = .long y :: .long x :: rest) (hy : y ≠ 0)
    (hr : Steps p.tables e below (T.setTop { g with pc := g.pc + 1, stack := .long (x % y) :: rest }) target) : Steps p.tables e below (T.setTop g) target :=
  XS.lrem X.here hx hg hd hs hy (by rw [lrem_mod]; exact hr)
/-- a body that returns v and leaves the heap as it was -/
def QR (z : Option Value) (h0 : Heap) (n0 : Nat) (v : Option Value) (h : Heap) (L : List Loc) : Prop := v = z ∧ Fr n0 L ∧ h = h0
/-- the law's own -/
def QL (n0 : Nat) (v : Option Value) (h : Heap) (L : List Loc) : Prop := v = some (.int 1) ∧ Fr n0 L
end Own
end Jvm.RoadKit
namespace Jvm.RoadKit
open Sem ClassFile Op Lib Jvm.Stand Jvm.Free Jvm.LawKit
section OwnHeap
variable {p : Program} {l : Launch} {e : Env} {R : Room} {s : State} {m : MethodId} {args : Array Value} {below : List Frame} {meth : Method} {c : Code} {T : State} {locs : List Loc} {cells slots : Nat} {Z : State} {a0 : Array Value} {h h' : Heap} {a b : Addr} {ty : FieldType} {n : Nat}
def upd {α : Type} (g : Nat → α) (k : Nat) (v : α) : Nat → α := fun j => if j = k then v else g j
theorem upd_same {α : Type} (g : Nat → α) (k : Nat) (v : α) : upd g k v k = v := if_pos rfl
theorem upd_ne {α : Type} (g : Nat → α) {k j : Nat} (v : α) (q : j ≠ k) : upd g k v j = g j := if_neg q
/-- an array of n places; place j holds f j -/
def AF (Z : State) (h : Heap) (a : Addr) (ty : FieldType) (n : Nat) (f : Nat → Value) : Prop :=
  ∃ c : Cell, Arr Z h a c ty ∧ c.slots.size = n ∧ n < 2147483648 ∧ ∀ j, j < n → c.slots[j]? = some (f j)
def AI (Z : State) (h : Heap) (a : Addr) (ty : FieldType) (n : Nat) (g : Nat → Int32) : Prop := AF Z h a ty n (fun j => .int (g j))
def AJ (Z : State) (h : Heap) (a : Addr) (ty : FieldType) (n : Nat) (g : Nat → Int64) : Prop := AF Z h a ty n (fun j => .long (g j))
theorem AF.lt {f : Nat → Value} (F : AF Z h a ty n f) : a < h.size := by obtain ⟨c, A, -⟩ := F; exact A.lt
theorem AF.ext {f : Nat → Value} (F : AF Z h a ty n f) (E : Ext h h') : AF Z h' a ty n f := by obtain ⟨c, A, r⟩ := F; exact ⟨c, A.ext E, r⟩
theorem AF.other {f : Nat → Value} {sl : Nat} {v : Value} (F : AF Z h b ty n f) (W : Wr h h' a sl v) (q : b ≠ a) : AF Z h' b ty n f := by obtain ⟨c, A, r⟩ := F; exact ⟨c, A.other W q, r⟩
theorem AF.keep {f : Nat → Value} {ws : List Addr} (F : AF Z h a ty n f) (K : Keep h h' ws) (q : a ∉ ws) : AF Z h' a ty n f := by obtain ⟨c, A, r⟩ := F; exact ⟨c, ⟨K.2.1 a c A.1 q, A.2⟩, r⟩
theorem AF.len {f : Nat → Value} (F : AF Z h a ty n f) : n < 2147483648 := by obtain ⟨c, A, -, M, -⟩ := F; exact M
theorem AF.cong {f f' : Nat → Value} (F : AF Z h a ty n f) (q : ∀ j, j < n → f j = f' j) : AF Z h a ty n f' := by
  obtain ⟨c, A, S, M, G⟩ := F
  exact ⟨c, A, S, M, fun j hj => by rw [← q j hj]; exact G j hj⟩
theorem AI.cong {g g' : Nat → Int32} (F : AI Z h a ty n g) (q : ∀ j, j < n → g j = g' j) : AI Z h a ty n g' := AF.cong F fun j hj => by rw [q j hj]
theorem AJ.cong {g g' : Nat → Int64} (F : AJ Z h a ty n g) (q : ∀ j, j < n → g j = g' j) : AJ Z h a ty n g' := AF.cong F fun j hj => by rw [q j hj]
theorem own_nat {j : Int32} {k : Nat} (hk : j.toInt = k) : j.toNatClampNeg = k := by
  show j.toInt.toNat = k
  rw [hk]; rfl
theorem own_in {cl : Cell} {j : Int32} {k : Nat} (S : cl.slots.size = n) (hk : j.toInt = k) (hn : k < n) : ¬ (j < 0 ∨ cl.slots.size ≤ j.toNatClampNeg) := by
  rw [own_nat hk, S, Int32.lt_iff_toInt_lt, hk]
  have : (0 : Int32).toInt = 0 := rfl
  omega
theorem AF.set {f : Nat → Value} {k : Nat} {v : Value} (F : AF Z h a ty n f) (W : Wr h h' a k v) : AF Z h' a ty n (upd f k v) := by
  obtain ⟨c, A, S, M, G⟩ := F
  refine ⟨c.setSlot k v, A.same W, by rw [sz_set]; exact S, M, fun j hj => ?_⟩
  have hz : j < c.slots.size := by omega
  simp only [Cell.setSlot, upd, Array.getElem?_setIfInBounds]
  by_cases q : j = k
  · subst q; simp [hz]
  · rw [if_neg (Ne.symm q), if_neg q]; exact G j hj
theorem AI.set {g : Nat → Int32} {k : Nat} {x : Int32} (F : AI Z h a ty n g) (W : Wr h h' a k (.int x)) : AI Z h' a ty n (upd g k x) :=
  AF.cong (AF.set F W) fun j _ => by simp only [upd]; split <;> rfl
theorem AJ.set {g : Nat → Int64} {k : Nat} {x : Int64} (F : AJ Z h a ty n g) (W : Wr h h' a k (.long x)) : AJ Z h' a ty n (upd g k x) :=
  AF.cong (AF.set F W) fun j _ => by simp only [upd]; split <;> rfl
theorem AF.fresh {k : ClassId} {z : Int32} {i : Nat} (A : Arr Z h a (newA k ty z) ty) (q : z.toInt = i) : AF Z h a ty i (fun _ => defaultValue ty) := by
  have S : (newA k ty z).slots.size = i := by rw [sz_new, own_nat q]
  refine ⟨_, A, S, ?_, fun j hj => ?_⟩
  · have := z.toInt_lt; omega
  · have hz : j < (newA k ty z).slots.size := by omega
    simp only [newA] at hz ⊢
    rw [Array.getElem?_eq_getElem hz]; simp
section Loads
theorem ldI (X : Stand p l e R s m args below meth c T locs cells slots) (hx : p.tables.exec = Jvm.exec) (hZ : Z.Warmed39 s.vm) (eT : T.heap = h) {g : Nat → Int32} (F : AI Z h a .int n g) {j : Int32} {k : Nat} (hk : j.toInt = k) (hn : k < n) {f : JFrame} (hg : f.method = m) {rest : List Value} (hs : f.stack = .int j :: .ref a :: rest) (hd : decode c.code f.pc = .ok (.iaload, 1)) :
    ∀ target, Steps p.tables e below (T.setTop { f with pc := f.pc + 1, stack := .int (g k) :: rest }) target → Steps p.tables e below (T.setTop f) target := by
  obtain ⟨cl, A, S, M, G⟩ := F
  intro target kt
  exact X.iaload hx (by rw [eT]; exact A.1) (State.isArrayOf_alike hZ.alike A.2.1) A.2.2 (own_in S hk hn) (by rw [own_nat hk]; exact G k hn) hg hs hd target kt
theorem ldB (X : Stand p l e R s m args below meth c T locs cells slots) (hx : p.tables.exec = Jvm.exec) (hZ : Z.Warmed39 s.vm) (eT : T.heap = h) {g : Nat → Int32} (F : AI Z h a .byte n g) {j : Int32} {k : Nat} (hk : j.toInt = k) (hn : k < n) {f : JFrame} (hg : f.method = m) {rest : List Value} (hs : f.stack = .int j :: .ref a :: rest) (hd : decode c.code f.pc = .ok (.baload, 1)) :
    ∀ target, Steps p.tables e below (T.setTop { f with pc := f.pc + 1, stack := .int (g k) :: rest }) target → Steps p.tables e below (T.setTop f) target := by
  obtain ⟨cl, A, S, M, G⟩ := F
  intro target kt
  exact X.baloadBytes hx (by rw [eT]; exact A.1) (State.isArrayOf_alike hZ.alike A.2.1) A.2.2 (own_in S hk hn) (by rw [own_nat hk]; exact G k hn) hg hs hd target kt
theorem ldJ (X : Stand p l e R s m args below meth c T locs cells slots) (hx : p.tables.exec = Jvm.exec) (hZ : Z.Warmed39 s.vm) (eT : T.heap = h) {g : Nat → Int64} (F : AJ Z h a .long n g) {j : Int32} {k : Nat} (hk : j.toInt = k) (hn : k < n) {f : JFrame} (hg : f.method = m) {rest : List Value} (hs : f.stack = .int j :: .ref a :: rest) (hd : decode c.code f.pc = .ok (.laload, 1)) :
    ∀ target, Steps p.tables e below (T.setTop { f with pc := f.pc + 1, stack := .long (g k) :: rest }) target → Steps p.tables e below (T.setTop f) target := by
  obtain ⟨cl, A, S, M, G⟩ := F
  intro target kt
  exact X.laload hx (by rw [eT]; exact A.1) (State.isArrayOf_alike hZ.alike A.2.1) A.2.2 (own_in S hk hn) (by rw [own_nat hk]; exact G k hn) hg hs hd target kt
theorem ldR (X : Stand p l e R s m args below meth c T locs cells slots) (hx : p.tables.exec = Jvm.exec) (hZ : Z.Warmed39 s.vm) (eT : T.heap = h) {g : Nat → Value} (F : AF Z h a ty n g) (hty : ty.isReference = true) {j : Int32} {k : Nat} (hk : j.toInt = k) (hn : k < n) {f : JFrame} (hg : f.method = m) {rest : List Value} (hs : f.stack = .int j :: .ref a :: rest) (hd : decode c.code f.pc = .ok (.aaload, 1)) :
    ∀ target, Steps p.tables e below (T.setTop { f with pc := f.pc + 1, stack := g k :: rest }) target → Steps p.tables e below (T.setTop f) target := by
  obtain ⟨cl, A, S, M, G⟩ := F
  intro target kt
  exact X.aaload hx (by rw [eT]; exact A.1) (State.isArrayOf_alike hZ.alike A.2.1) hty A.2.2 (own_in S hk hn) (by rw [own_nat hk]; exact G k hn) hg hs hd target kt
theorem alen (X : Stand p l e R s m args below meth c T locs cells slots) (hx : p.tables.exec = Jvm.exec) (hZ : Z.Warmed39 s.vm) (eT : T.heap = h) {g : Nat → Value} (F : AF Z h a ty n g) {z : Int32} (hz : z.toInt = n) {f : JFrame} (hg : f.method = m) {rest : List Value} (hs : f.stack = .ref a :: rest) (hd : decode c.code f.pc = .ok (.arraylength, 1)) :
    ∀ target, Steps p.tables e below (T.setTop { f with pc := f.pc + 1, stack := .int z :: rest }) target → Steps p.tables e below (T.setTop f) target := by
  obtain ⟨cl, A, S, M, G⟩ := F
  intro target kt
  have h0 : ¬ z < 0 := by
    rw [Int32.lt_iff_toInt_lt, hz]
    have : (0 : Int32).toInt = 0 := rfl
    omega
  have q : cl.slots.size.toInt32 = z := by rw [S, ← own_nat hz]; exact (back32 h0).1
  refine X.arraylength hx (by rw [eT]; exact A.1) (State.isArrayOf_alike hZ.alike A.2.1) hg hs hd target ?_
  rw [q]; exact kt
end Loads
section Stores
theorem puI (X : Stand p l e R s m args below meth c T locs cells slots) (hx : p.tables.exec = Jvm.exec) (hZ : Z.Warmed39 s.vm) (eT : T.heap = h) {g : Nat → Int32} (F : AI Z h a .int n g) {j x : Int32} {k : Nat} (hk : j.toInt = k) (hn : k < n) {f : JFrame} (hg : f.method = m) {rest : List Value} (hs : f.stack = .int x :: .int j :: .ref a :: rest) (hd : decode c.code f.pc = .ok (.iastore, 1)) :
    ∃ T' h', Stand p l e R s m args below meth c T' (locs ++ [⟨a, k⟩]) cells slots ∧ T'.heap = h' ∧ Wr h h' a k (.int x) ∧ AI Z h' a .int n (upd g k x) ∧ ∀ target, Steps p.tables e below (T'.setTop { f with pc := f.pc + 1, stack := rest }) target → Steps p.tables e below (T.setTop f) target := by
  obtain ⟨cl, A, S, M, G⟩ := id F
  obtain ⟨T', h', X', e', W, st⟩ := stI X hx hZ eT A (j := j) (own_in S hk hn) hg hs hd
  rw [own_nat hk] at X' W
  exact ⟨T', h', X', e', W, AI.set F W, st⟩
theorem puB (X : Stand p l e R s m args below meth c T locs cells slots) (hx : p.tables.exec = Jvm.exec) (hZ : Z.Warmed39 s.vm) (eT : T.heap = h) {g : Nat → Int32} (F : AI Z h a .byte n g) {j x : Int32} {k : Nat} (hk : j.toInt = k) (hn : k < n) {f : JFrame} (hg : f.method = m) {rest : List Value} (hs : f.stack = .int x :: .int j :: .ref a :: rest) (hd : decode c.code f.pc = .ok (.bastore, 1)) :
    ∃ T' h', Stand p l e R s m args below meth c T' (locs ++ [⟨a, k⟩]) cells slots ∧ T'.heap = h' ∧ Wr h h' a k (.int x.toInt8.toInt32) ∧ AI Z h' a .byte n (upd g k x.toInt8.toInt32) ∧ ∀ target, Steps p.tables e below (T'.setTop { f with pc := f.pc + 1, stack := rest }) target → Steps p.tables e below (T.setTop f) target := by
  obtain ⟨cl, A, S, M, G⟩ := id F
  obtain ⟨T', h', X', e', W, st⟩ := stB X hx hZ eT A (j := j) (own_in S hk hn) hg hs hd
  rw [own_nat hk] at X' W
  exact ⟨T', h', X', e', W, AI.set F W, st⟩
theorem puJ (X : Stand p l e R s m args below meth c T locs cells slots) (hx : p.tables.exec = Jvm.exec) (hZ : Z.Warmed39 s.vm) (eT : T.heap = h) {g : Nat → Int64} (F : AJ Z h a .long n g) {j : Int32} {x : Int64} {k : Nat} (hk : j.toInt = k) (hn : k < n) {f : JFrame} (hg : f.method = m) {rest : List Value} (hs : f.stack = .long x :: .int j :: .ref a :: rest) (hd : decode c.code f.pc = .ok (.lastore, 1)) :
    ∃ T' h', Stand p l e R s m args below meth c T' (locs ++ [⟨a, k⟩]) cells slots ∧ T'.heap = h' ∧ Wr h h' a k (.long x) ∧ AJ Z h' a .long n (upd g k x) ∧ ∀ target, Steps p.tables e below (T'.setTop { f with pc := f.pc + 1, stack := rest }) target → Steps p.tables e below (T.setTop f) target := by
  obtain ⟨cl, A, S, M, G⟩ := id F
  obtain ⟨T', h', X', e', W, st⟩ := stJ X hx hZ eT A (j := j) (own_in S hk hn) hg hs hd
  rw [own_nat hk] at X' W
  exact ⟨T', h', X', e', W, AJ.set F W, st⟩
theorem puR (X : Stand p l e R s m args below meth c T locs cells slots) (hx : p.tables.exec = Jvm.exec) (hZ : Z.Warmed39 s.vm) (eT : T.heap = h) {g : Nat → Value} (F : AF Z h a ty n g) (hty : ty.isReference = true) {j : Int32} {x : Value} (O : Sto Z h a x) {k : Nat} (hk : j.toInt = k) (hn : k < n) {f : JFrame} (hg : f.method = m) {rest : List Value} (hs : f.stack = x :: .int j :: .ref a :: rest) (hd : decode c.code f.pc = .ok (.aastore, 1)) :
    ∃ T' h', Stand p l e R s m args below meth c T' (locs ++ [⟨a, k⟩]) cells slots ∧ T'.heap = h' ∧ Wr h h' a k x ∧ AF Z h' a ty n (upd g k x) ∧ ∀ target, Steps p.tables e below (T'.setTop { f with pc := f.pc + 1, stack := rest }) target → Steps p.tables e below (T.setTop f) target := by
  obtain ⟨cl, A, S, M, G⟩ := id F
  obtain ⟨T', h', X', e', W, st⟩ := stR X hx hZ eT A (j := j) (own_in S hk hn) hty O hg hs hd
  rw [own_nat hk] at X' W
  exact ⟨T', h', X', e', W, AF.set F W, st⟩
theorem newAF (X : Stand p l e R s m args below meth c T locs cells slots) (hx : p.tables.exec = Jvm.exec) (hZ : Z.Warmed39 s.vm) {aty : ArrayType} (w : (Cond.arrayClass (newarray.typeOf aty)).before a0 Z = true) (eT : T.heap = h) {f : JFrame} (hg : f.method = m) (hd : decode c.code f.pc = .ok (.newarray aty, 2)) {z : Int32} {rest : List Value} (hs : f.stack = .int z :: rest)
    {k : Nat} (hk : z.toInt = k) {cap : Nat} (hcap : k ≤ cap) (hb : cap * 8 ≤ 536870912) (hc : cells + 1 ≤ R.cells) (hl : slots + cap ≤ R.slots) :
    ∃ T' h', Stand p l e R s m args below meth c T' locs (cells + 1) (slots + cap) ∧ T'.heap = h' ∧ Ext h h' ∧ AF Z h' h.size (newarray.typeOf aty) k (fun _ => defaultValue (newarray.typeOf aty)) ∧
      ∀ target, Steps p.tables e below (T'.setTop { f with pc := f.pc + 2, stack := .ref h.size :: rest }) target → Steps p.tables e below (T.setTop f) target := by
  have h0 : ¬ z < 0 := by
    rw [Int32.lt_iff_toInt_lt, hk]
    have : (0 : Int32).toInt = 0 := rfl
    omega
  obtain ⟨T', h', cA, X', e', E, A, st⟩ := newP X hx hZ w eT hg hd hs h0 (cap := cap) (by rw [own_nat hk]; exact hcap) hb hc hl
  exact ⟨T', h', X', e', E, AF.fresh A hk, st⟩
end Stores
theorem own_selects {args' : Array Value} {U : State} {y : MethodName} {k : Nat} (wi : (Cond.instantiable y.cls k).before args' U = true) (hpriv : U.PrivateAt y) (hinst : (Cond.instanceMethod y).before args' U = true) (hy : y.cls ≠ "java/lang/invoke/MethodHandle" ∧ y.cls ≠ "java/lang/invoke/VarHandle") : (Cond.selects y.cls y y).before args' U = true := by
  obtain ⟨c1, k1, i1, i2, -, i3, -⟩ := Cond.instantiable_spec wi
  have hni : k1.isInterface = false := by cases q : k1.isInterface <;> simp [q] at i3 ⊢
  exact Jvm.Stand.selects_self_of_private i1 i2 hni hpriv hinst hy
theorem isRef_cat {w : Value} (q : w.isRef = true) : w.category = 1 := by
  rcases ref_cases q with rfl | ⟨x, rfl⟩ <;> rfl
theorem mem1 {α : Type} (x : α) (L : List α) : x ∈ x :: L := List.mem_cons_self
theorem mem2 {α : Type} (x y : α) (L : List α) : x ∈ y :: x :: L := List.mem_cons_of_mem _ List.mem_cons_self
end OwnHeap
end Jvm.RoadKit
namespace Jvm.Pilot.@@N@@
open Jvm Jvm.ClassFile Sem Op Lib Jvm.Free Jvm.Stand Jvm.LawKit Jvm.RoadKit Bundle Jvm.Pilot.@@N@@.Jvm.D
def cntL (st cap : Int64) : Nat → Int64 → Int64
  | 0, ch => ch
  | n + 1, ch => if cap < ch then ch else cntL st cap n (ch * st)
theorem own_left {i i1 : Int32} {n : Nat} (h : i1.toInt - i.toInt = (n : Int) + 1) : i < i1 ∧ i1.toInt - (i + 1).toInt = n := by
  have a := c_iadd i 1
  have h1 : (1 : Int32).toInt = 1 := by decide
  have r1 := rng32 i
  have r2 := rng32 i1
  have r3 := rng32 (i + 1)
  rw [Int32.lt_iff_toInt_lt]
  omega
theorem d1_23 : decode prog_5_method_2_code 23 = .ok (.iload 5, 2) := by decide +kernel
theorem d1_25 : decode prog_5_method_2_code 25 = .ok (.iload_n 1, 1) := by decide +kernel
theorem d1_26 : decode prog_5_method_2_code 26 = .ok (.if_icmp .ge 21, 3) := by decide +kernel
theorem d1_47 : decode prog_5_method_2_code 47 = .ok (.lload_n 3, 1) := by decide +kernel
theorem d1_48 : decode prog_5_method_2_code 48 = .ok (.lreturn, 1) := by decide +kernel
theorem d1_29 : decode prog_5_method_2_code 29 = .ok (.lload_n 3, 1) := by decide +kernel
theorem d1_30 : decode prog_5_method_2_code 30 = .ok (.iload_n 2, 1) := by decide +kernel
theorem d1_31 : decode prog_5_method_2_code 31 = .ok (.i2l, 1) := by decide +kernel
theorem d1_32 : decode prog_5_method_2_code 32 = .ok (.lcmp, 1) := by decide +kernel
theorem d1_33 : decode prog_5_method_2_code 33 = .ok (.ifCond .gt 14, 3) := by decide +kernel
theorem d1_36 : decode prog_5_method_2_code 36 = .ok (.lload_n 3, 1) := by decide +kernel
theorem d1_37 : decode prog_5_method_2_code 37 = .ok (.iload_n 0, 1) := by decide +kernel
theorem d1_38 : decode prog_5_method_2_code 38 = .ok (.i2l, 1) := by decide +kernel
theorem d1_39 : decode prog_5_method_2_code 39 = .ok (.lmul, 1) := by decide +kernel
theorem d1_40 : decode prog_5_method_2_code 40 = .ok (.lstore_n 3, 1) := by decide +kernel
theorem d1_41 : decode prog_5_method_2_code 41 = .ok (.iinc 5 1, 3) := by decide +kernel
theorem d1_44 : decode prog_5_method_2_code 44 = .ok (.goto (-21), 3) := by decide +kernel
set_option maxRecDepth 65536 in
set_option maxHeartbeats 40000000 in
theorem loop1 {p : Program} {l : Launch} {e : Env} {s : State} {m : MethodId} {args : Array Value} {below : List Frame} {meth : Method} {c : Code} {Z : State} {a0 : Array Value} (hx : p.tables.exec = Jvm.exec) (hZ : Z.Warmed39 s.vm) (hw : ∀ d ∈ tables_1, d.before a0 Z = true) (hby : c.code = prog_5_method_2_code) (hml : c.maxLocals = 6) (hown : s.vm.findClass "com/example/ratatoskr/ratatoskr/Choices" = some m.cls) (hnm : meth.name = "count") (hret : meth.sig.returnType = some .long) (hlk : meth.locks = false) (i0 i1 i2 : Int32) (h0 : Heap) (n0 : Nat) : ∀ (n : Nat) (T : State) (locs : List Loc) (X0 : Stand p l e ({ frames := 0, cells := 0, slots := 0, locals := 0 } : Room) s m args below meth c T locs 0 0) (N0 : Fr n0 locs) (e0 : T.heap = h0) (i : Int32) (ch : Int64) (hi : i1.toInt - i.toInt = n),
    Outs p e below s (QR (some (.long (cntL (i0.toInt64) (i2.toInt64) n ch))) h0 n0) 0 0 (T.setTop (mkF m 23 #[.val (.int i0), .val (.int i1), .val (.int i2), .val (.long ch), .second, .val (.int i)] [])) := by
  intro n
  induction n with
  | zero =>
    intro T locs X0 N0 e0 i ch hi
    have h26 : ¬ i < i1 := by rw [Int32.lt_iff_toInt_lt]; omega
    refine Outs.of (U' := T.setTop (mkF m 48 #[.val (.int i0), .val (.int i1), .val (.int i2), .val (.long ch), .second, .val (.int i)] [(.long ch)])) (fun t k => ?_) ?_
    · refine XS.iload X0.here hx rfl (hb hby d1_23) rfl ?_
      show Steps p.tables e below (T.setTop (mkF m 25 #[.val (.int i0), .val (.int i1), .val (.int i2), .val (.long ch), .second, .val (.int i)] [(.int i)])) _
      refine XS.iloadN X0.here hx rfl (hb hby d1_25) rfl ?_
      show Steps p.tables e below (T.setTop (mkF m 26 #[.val (.int i0), .val (.int i1), .val (.int i2), .val (.long ch), .second, .val (.int i)] [(.int i1), (.int i)])) _
      refine XS.icmpYes X0.here hx rfl (pc0 := 26) (pc' := 47) rfl (hb hby d1_26) rfl (flt h26).2.1 (by decide) (by decide) ?_
      show Steps p.tables e below (T.setTop (mkF m 47 #[.val (.int i0), .val (.int i1), .val (.int i2), .val (.long ch), .second, .val (.int i)] [])) _
      refine XS.lloadN X0.here hx rfl (hb hby d1_47) rfl ?_
      show Steps p.tables e below (T.setTop (mkF m 48 #[.val (.int i0), .val (.int i1), .val (.int i2), .val (.long ch), .second, .val (.int i)] [(.long ch)])) _
      exact k
    exact Outs.retL X0 hx hret (hb hby d1_48) hlk (by decide) (by decide) e0 ⟨rfl, N0, rfl⟩
  | succ n ih =>
    intro T locs X0 N0 e0 i ch hi
    have h26 := own_left hi
    refine Outs.of (U' := T.setTop (mkF m 33 #[.val (.int i0), .val (.int i1), .val (.int i2), .val (.long ch), .second, .val (.int i)] [(.int (lcmpW ch (i2.toInt64)))])) (fun t k => ?_) ?_
    · refine XS.iload X0.here hx rfl (hb hby d1_23) rfl ?_
      show Steps p.tables e below (T.setTop (mkF m 25 #[.val (.int i0), .val (.int i1), .val (.int i2), .val (.long ch), .second, .val (.int i)] [(.int i)])) _
      refine XS.iloadN X0.here hx rfl (hb hby d1_25) rfl ?_
      show Steps p.tables e below (T.setTop (mkF m 26 #[.val (.int i0), .val (.int i1), .val (.int i2), .val (.long ch), .second, .val (.int i)] [(.int i1), (.int i)])) _
      refine XS.icmpNo X0.here hx rfl (hb hby d1_26) rfl (tlt h26.1).2.1 ?_
      show Steps p.tables e below (T.setTop (mkF m 29 #[.val (.int i0), .val (.int i1), .val (.int i2), .val (.long ch), .second, .val (.int i)] [])) _
      refine XS.lloadN X0.here hx rfl (hb hby d1_29) rfl ?_
      show Steps p.tables e below (T.setTop (mkF m 30 #[.val (.int i0), .val (.int i1), .val (.int i2), .val (.long ch), .second, .val (.int i)] [(.long ch)])) _
      refine XS.iloadN X0.here hx rfl (hb hby d1_30) rfl ?_
      show Steps p.tables e below (T.setTop (mkF m 31 #[.val (.int i0), .val (.int i1), .val (.int i2), .val (.long ch), .second, .val (.int i)] [(.int i2), (.long ch)])) _
      refine XS.i2l X0.here hx rfl (hb hby d1_31) rfl ?_
      show Steps p.tables e below (T.setTop (mkF m 32 #[.val (.int i0), .val (.int i1), .val (.int i2), .val (.long ch), .second, .val (.int i)] [(.long (i2.toInt64)), (.long ch)])) _
      refine XS.lcmp X0.here hx rfl (hb hby d1_32) rfl ?_
      show Steps p.tables e below (T.setTop (mkF m 33 #[.val (.int i0), .val (.int i1), .val (.int i2), .val (.long ch), .second, .val (.int i)] [(.int (lcmpW ch (i2.toInt64)))])) _
      exact k
    by_cases hc33 : (i2.toInt64) < ch
    · refine Outs.of (U' := T.setTop (mkF m 47 #[.val (.int i0), .val (.int i1), .val (.int i2), .val (.long ch), .second, .val (.int i)] [])) (fun t k => ?_) ?_
      · refine XS.ifYes X0.here hx rfl (pc0 := 33) (pc' := 47) rfl (hb hby d1_33) rfl ((if0 _ _).trans (tlt ((lw_gt _ _).mpr hc33)).2.2.1) (by decide) (by decide) ?_
        show Steps p.tables e below (T.setTop (mkF m 47 #[.val (.int i0), .val (.int i1), .val (.int i2), .val (.long ch), .second, .val (.int i)] [])) _
        exact k
      refine Outs.of (U' := T.setTop (mkF m 48 #[.val (.int i0), .val (.int i1), .val (.int i2), .val (.long ch), .second, .val (.int i)] [(.long ch)])) (fun t k => ?_) ?_
      · refine XS.lloadN X0.here hx rfl (hb hby d1_47) rfl ?_
        show Steps p.tables e below (T.setTop (mkF m 48 #[.val (.int i0), .val (.int i1), .val (.int i2), .val (.long ch), .second, .val (.int i)] [(.long ch)])) _
        exact k
      exact Outs.retL X0 hx hret (hb hby d1_48) hlk (by decide) (by decide) e0 ⟨congrArg (fun z_ => some (Value.long z_)) (show cntL (i0.toInt64) (i2.toInt64) (n + 1) ch = ch from if_pos hc33).symm, N0, rfl⟩
    · refine Outs.of (U' := T.setTop (mkF m 36 #[.val (.int i0), .val (.int i1), .val (.int i2), .val (.long ch), .second, .val (.int i)] [])) (fun t k => ?_) ?_
      · refine XS.ifNo X0.here hx rfl (hb hby d1_33) rfl ((if0 _ _).trans (flt (fun q_ => hc33 ((lw_gt _ _).mp q_))).2.2.1) ?_
        show Steps p.tables e below (T.setTop (mkF m 36 #[.val (.int i0), .val (.int i1), .val (.int i2), .val (.long ch), .second, .val (.int i)] [])) _
        exact k
      refine Outs.of (U' := T.setTop (mkF m 23 #[.val (.int i0), .val (.int i1), .val (.int i2), .val (.long (ch * (i0.toInt64))), .second, .val (.int (i + (1 : Int32)))] [])) (fun t k => ?_) ?_
      · refine XS.lloadN X0.here hx rfl (hb hby d1_36) rfl ?_
        show Steps p.tables e below (T.setTop (mkF m 37 #[.val (.int i0), .val (.int i1), .val (.int i2), .val (.long ch), .second, .val (.int i)] [(.long ch)])) _
        refine XS.iloadN X0.here hx rfl (hb hby d1_37) rfl ?_
        show Steps p.tables e below (T.setTop (mkF m 38 #[.val (.int i0), .val (.int i1), .val (.int i2), .val (.long ch), .second, .val (.int i)] [(.int i0), (.long ch)])) _
        refine XS.i2l X0.here hx rfl (hb hby d1_38) rfl ?_
        show Steps p.tables e below (T.setTop (mkF m 39 #[.val (.int i0), .val (.int i1), .val (.int i2), .val (.long ch), .second, .val (.int i)] [(.long (i0.toInt64)), (.long ch)])) _
        refine XS.lmul X0.here hx rfl (hb hby d1_39) rfl ?_
        show Steps p.tables e below (T.setTop (mkF m 40 #[.val (.int i0), .val (.int i1), .val (.int i2), .val (.long ch), .second, .val (.int i)] [(.long (ch * (i0.toInt64)))])) _
        refine XS.lstoreN X0.here hx rfl (hb hby d1_40) rfl (l' := #[.val (.int i0), .val (.int i1), .val (.int i2), .val (.long (ch * (i0.toInt64))), .second, .val (.int i)]) rfl ?_
        show Steps p.tables e below (T.setTop (mkF m 41 #[.val (.int i0), .val (.int i1), .val (.int i2), .val (.long (ch * (i0.toInt64))), .second, .val (.int i)] [])) _
        refine XS.iinc X0.here hx rfl (hb hby d1_41) rfl (l' := #[.val (.int i0), .val (.int i1), .val (.int i2), .val (.long (ch * (i0.toInt64))), .second, .val (.int (i + (1 : Int32)))]) rfl ?_
        show Steps p.tables e below (T.setTop (mkF m 44 #[.val (.int i0), .val (.int i1), .val (.int i2), .val (.long (ch * (i0.toInt64))), .second, .val (.int (i + (1 : Int32)))] [])) _
        refine XS.goto X0.here hx rfl (pc0 := 44) (pc' := 23) rfl (hb hby d1_44) (by decide) (by decide) ?_
        show Steps p.tables e below (T.setTop (mkF m 23 #[.val (.int i0), .val (.int i1), .val (.int i2), .val (.long (ch * (i0.toInt64))), .second, .val (.int (i + (1 : Int32)))] [])) _
        exact k
      rw [show cntL (i0.toInt64) (i2.toInt64) (n + 1) ch = cntL (i0.toInt64) (i2.toInt64) n (ch * (i0.toInt64)) from if_neg hc33]
      exact ih T locs X0 N0 e0 (i + 1) (ch * (i0.toInt64)) h26.2
theorem ef_1 (m : MethodId) (x0 : Int32) (x1 : Int32) (x2 : Int32) : entryFrame m #[(.int x0), (.int x1), (.int x2)] 6 = mkF m 0 #[.val (.int x0), .val (.int x1), .val (.int x2), .unset, .unset, .unset] [] := by first | (simp [entryFrame, mkF, argsToLocals, Value.category]; done) | rfl
theorem d1_0 : decode prog_5_method_2_code 0 = .ok (.lconst 1, 1) := by decide +kernel
theorem d1_1 : decode prog_5_method_2_code 1 = .ok (.lstore_n 3, 1) := by decide +kernel
theorem d1_2 : decode prog_5_method_2_code 2 = .ok (.iload_n 0, 1) := by decide +kernel
theorem d1_3 : decode prog_5_method_2_code 3 = .ok (.ifCond .ne 12, 3) := by decide +kernel
theorem d1_6 : decode prog_5_method_2_code 6 = .ok (.iload_n 1, 1) := by decide +kernel
theorem d1_7 : decode prog_5_method_2_code 7 = .ok (.ifCond .le 8, 3) := by decide +kernel
theorem d1_10 : decode prog_5_method_2_code 10 = .ok (.lconst 0, 1) := by decide +kernel
theorem d1_11 : decode prog_5_method_2_code 11 = .ok (.lstore_n 3, 1) := by decide +kernel
theorem d1_12 : decode prog_5_method_2_code 12 = .ok (.goto 35, 3) := by decide +kernel
theorem d1_15 : decode prog_5_method_2_code 15 = .ok (.iload_n 0, 1) := by decide +kernel
theorem d1_16 : decode prog_5_method_2_code 16 = .ok (.iconst 1, 1) := by decide +kernel
theorem d1_17 : decode prog_5_method_2_code 17 = .ok (.if_icmp .le 30, 3) := by decide +kernel
theorem d1_20 : decode prog_5_method_2_code 20 = .ok (.iconst 0, 1) := by decide +kernel
theorem d1_21 : decode prog_5_method_2_code 21 = .ok (.istore 5, 2) := by decide +kernel
theorem pn_1 : plainName "com/example/ratatoskr/ratatoskr/Choices" = true := by first | (simp [plainName, overriddenIn]; done) | decide +kernel
def F_f1 (i0 : Int32) (i1 : Int32) (i2 : Int32) : Int64 := (if i0 = (0 : Int32) then (if (0 : Int32) < i1 then (0 : Int64) else (if (1 : Int32) < i0 then (cntL (i0.toInt64) (i2.toInt64) (i1.toInt.toNat) (1 : Int64)) else (1 : Int64))) else (if (1 : Int32) < i0 then (cntL (i0.toInt64) (i2.toInt64) (i1.toInt.toNat) (1 : Int64)) else (1 : Int64)))
set_option maxRecDepth 65536 in
set_option maxHeartbeats 40000000 in
theorem rm1 (l : Launch) (Z : State) (a0 : Array Value) (hw : ∀ d ∈ tables_1, d.before a0 Z = true) (ws : List Jvm.Cond) (i0 : Int32) (i1 : Int32) (i2 : Int32)  (h0 : Heap) (n0 : Nat) (hpos : 0 ≤ i1.toInt) :
    MetFree l (⟨"com/example/ratatoskr/ratatoskr/Choices", "count", "(III)J"⟩ : MethodName) (head1 (Jvm.Cond.code (⟨"com/example/ratatoskr/ratatoskr/Choices", "count", "(III)J"⟩ : MethodName) prog_5_method_2_code 6 (some .long) :: ws) ({ frames := 0, cells := 0, slots := 0, locals := 0 } : Room)) (fun a U => a = #[(.int i0), (.int i1), (.int i2)] ∧ Z.Warmed39 U.vm ∧ U.heap = h0) (fun _ _ _ _ _ => True) (fun _ U o U' => ∃ v L, o = .returned v ∧ QR (some (.long (F_f1 i0 i1 i2))) h0 n0 v U'.heap L ∧ FrameEnd U o U' L ({ frames := 0, cells := 0, slots := 0, locals := 0 } : Room).cells ({ frames := 0, cells := 0, slots := 0, locals := 0 } : Room).slots) := by
  refine MetFree.of_bodySF (plainFor_of_name pn_1) hisR ?_
  intro p e s m args below meth c s₁ Bd hml0 hP hK
  obtain ⟨rfl, hZ, hh⟩ := hP
  have hx := Bd.exec
  have hby := Bd.bytes
  have hml : c.maxLocals = 6 := hml0
  have hown : s.vm.findClass "com/example/ratatoskr/ratatoskr/Choices" = some m.cls := findClass_of_methodNamed Bd.named
  have hnm := (name_of_methodNamed Bd.named Bd.method).1
  have hret := Bd.returns
  have hlk : meth.locks = false := BodyLoose.notSynchronized Bd
  have X0 : Stand p l e ({ frames := 0, cells := 0, slots := 0, locals := 0 } : Room) s m #[(.int i0), (.int i1), (.int i2)] below meth c s₁ [] 0 0 := Stand.of_body Bd
  have e0 : s₁.heap = h0 := by rw [← hh, Bd.state]; rfl
  have N0 := Fr.nil n0
  show Outs p e below s (QR (some (.long (F_f1 i0 i1 i2))) h0 n0) _ _ _
  refine Outs.of (U' := s₁.setTop (mkF m 0 #[.val (.int i0), .val (.int i1), .val (.int i2), .unset, .unset, .unset] [])) (fun t k => castTop (ef_1 m i0 i1 i2) k) ?_
  refine Outs.of (U' := s₁.setTop (mkF m 3 #[.val (.int i0), .val (.int i1), .val (.int i2), .val (.long (1 : Int64)), .second, .unset] [(.int i0)])) (fun t k => ?_) ?_
  · refine XS.lconst X0.here hx rfl (hb hby d1_0) ?_
    show Steps p.tables e below (s₁.setTop (mkF m 1 #[.val (.int i0), .val (.int i1), .val (.int i2), .unset, .unset, .unset] [(.long (1 : Int64))])) _
    refine XS.lstoreN X0.here hx rfl (hb hby d1_1) rfl (l' := #[.val (.int i0), .val (.int i1), .val (.int i2), .val (.long (1 : Int64)), .second, .unset]) rfl ?_
    show Steps p.tables e below (s₁.setTop (mkF m 2 #[.val (.int i0), .val (.int i1), .val (.int i2), .val (.long (1 : Int64)), .second, .unset] [])) _
    refine XS.iloadN X0.here hx rfl (hb hby d1_2) rfl ?_
    show Steps p.tables e below (s₁.setTop (mkF m 3 #[.val (.int i0), .val (.int i1), .val (.int i2), .val (.long (1 : Int64)), .second, .unset] [(.int i0)])) _
    exact k
  by_cases hc3 : i0 = (0 : Int32)
  · refine Outs.of (U' := s₁.setTop (mkF m 6 #[.val (.int i0), .val (.int i1), .val (.int i2), .val (.long (1 : Int64)), .second, .unset] [])) (fun t k => ?_) ?_
    · refine XS.ifNo X0.here hx rfl (hb hby d1_3) rfl ((if0 _ _).trans (teq hc3).2) ?_
      show Steps p.tables e below (s₁.setTop (mkF m 6 #[.val (.int i0), .val (.int i1), .val (.int i2), .val (.long (1 : Int64)), .second, .unset] [])) _
      exact k
    refine Outs.of (U' := s₁.setTop (mkF m 7 #[.val (.int i0), .val (.int i1), .val (.int i2), .val (.long (1 : Int64)), .second, .unset] [(.int i1)])) (fun t k => ?_) ?_
    · refine XS.iloadN X0.here hx rfl (hb hby d1_6) rfl ?_
      show Steps p.tables e below (s₁.setTop (mkF m 7 #[.val (.int i0), .val (.int i1), .val (.int i2), .val (.long (1 : Int64)), .second, .unset] [(.int i1)])) _
      exact k
    by_cases hc7 : (0 : Int32) < i1
    · refine Outs.of (U' := s₁.setTop (mkF m 10 #[.val (.int i0), .val (.int i1), .val (.int i2), .val (.long (1 : Int64)), .second, .unset] [])) (fun t k => ?_) ?_
      · refine XS.ifNo X0.here hx rfl (hb hby d1_7) rfl ((if0 _ _).trans (tlt hc7).2.2.2) ?_
        show Steps p.tables e below (s₁.setTop (mkF m 10 #[.val (.int i0), .val (.int i1), .val (.int i2), .val (.long (1 : Int64)), .second, .unset] [])) _
        exact k
      refine Outs.of (U' := s₁.setTop (mkF m 48 #[.val (.int i0), .val (.int i1), .val (.int i2), .val (.long (0 : Int64)), .second, .unset] [(.long (0 : Int64))])) (fun t k => ?_) ?_
      · refine XS.lconst X0.here hx rfl (hb hby d1_10) ?_
        show Steps p.tables e below (s₁.setTop (mkF m 11 #[.val (.int i0), .val (.int i1), .val (.int i2), .val (.long (1 : Int64)), .second, .unset] [(.long (0 : Int64))])) _
        refine XS.lstoreN X0.here hx rfl (hb hby d1_11) rfl (l' := #[.val (.int i0), .val (.int i1), .val (.int i2), .val (.long (0 : Int64)), .second, .unset]) rfl ?_
        show Steps p.tables e below (s₁.setTop (mkF m 12 #[.val (.int i0), .val (.int i1), .val (.int i2), .val (.long (0 : Int64)), .second, .unset] [])) _
        refine XS.goto X0.here hx rfl (pc0 := 12) (pc' := 47) rfl (hb hby d1_12) (by decide) (by decide) ?_
        show Steps p.tables e below (s₁.setTop (mkF m 47 #[.val (.int i0), .val (.int i1), .val (.int i2), .val (.long (0 : Int64)), .second, .unset] [])) _
        refine XS.lloadN X0.here hx rfl (hb hby d1_47) rfl ?_
        show Steps p.tables e below (s₁.setTop (mkF m 48 #[.val (.int i0), .val (.int i1), .val (.int i2), .val (.long (0 : Int64)), .second, .unset] [(.long (0 : Int64))])) _
        exact k
      exact Outs.retL X0 hx hret (hb hby d1_48) hlk (by decide) (by decide) e0 ⟨congrArg (fun z_ => some (Value.long z_)) (show (F_f1 i0 i1 i2) = (0 : Int64) from ((if_pos hc3).trans (if_pos hc7))).symm, N0, rfl⟩
    · refine Outs.of (U' := s₁.setTop (mkF m 15 #[.val (.int i0), .val (.int i1), .val (.int i2), .val (.long (1 : Int64)), .second, .unset] [])) (fun t k => ?_) ?_
      · refine XS.ifYes X0.here hx rfl (pc0 := 7) (pc' := 15) rfl (hb hby d1_7) rfl ((if0 _ _).trans (flt hc7).2.2.2) (by decide) (by decide) ?_
        show Steps p.tables e below (s₁.setTop (mkF m 15 #[.val (.int i0), .val (.int i1), .val (.int i2), .val (.long (1 : Int64)), .second, .unset] [])) _
        exact k
      refine Outs.of (U' := s₁.setTop (mkF m 17 #[.val (.int i0), .val (.int i1), .val (.int i2), .val (.long (1 : Int64)), .second, .unset] [(.int (1 : Int32)), (.int i0)])) (fun t k => ?_) ?_
      · refine XS.iloadN X0.here hx rfl (hb hby d1_15) rfl ?_
        show Steps p.tables e below (s₁.setTop (mkF m 16 #[.val (.int i0), .val (.int i1), .val (.int i2), .val (.long (1 : Int64)), .second, .unset] [(.int i0)])) _
        refine XS.iconst X0.here hx rfl (hb hby d1_16) ?_
        show Steps p.tables e below (s₁.setTop (mkF m 17 #[.val (.int i0), .val (.int i1), .val (.int i2), .val (.long (1 : Int64)), .second, .unset] [(.int (1 : Int32)), (.int i0)])) _
        exact k
      by_cases hc17 : (1 : Int32) < i0
      · refine Outs.of (U' := s₁.setTop (mkF m 20 #[.val (.int i0), .val (.int i1), .val (.int i2), .val (.long (1 : Int64)), .second, .unset] [])) (fun t k => ?_) ?_
        · refine XS.icmpNo X0.here hx rfl (hb hby d1_17) rfl (tlt hc17).2.2.2 ?_
          show Steps p.tables e below (s₁.setTop (mkF m 20 #[.val (.int i0), .val (.int i1), .val (.int i2), .val (.long (1 : Int64)), .second, .unset] [])) _
          exact k
        refine Outs.of (U' := s₁.setTop (mkF m 23 #[.val (.int i0), .val (.int i1), .val (.int i2), .val (.long (1 : Int64)), .second, .val (.int (0 : Int32))] [])) (fun t k => ?_) ?_
        · refine XS.iconst X0.here hx rfl (hb hby d1_20) ?_
          show Steps p.tables e below (s₁.setTop (mkF m 21 #[.val (.int i0), .val (.int i1), .val (.int i2), .val (.long (1 : Int64)), .second, .unset] [(.int (0 : Int32))])) _
          refine XS.istore X0.here hx rfl (hb hby d1_21) rfl (l' := #[.val (.int i0), .val (.int i1), .val (.int i2), .val (.long (1 : Int64)), .second, .val (.int (0 : Int32))]) rfl ?_
          show Steps p.tables e below (s₁.setTop (mkF m 23 #[.val (.int i0), .val (.int i1), .val (.int i2), .val (.long (1 : Int64)), .second, .val (.int (0 : Int32))] [])) _
          exact k
        have hz : ∀ h : 0 ≤ i1.toInt, i1.toInt - (0 : Int32).toInt = (i1.toInt.toNat : Int) := fun h => by rw [Int.toNat_of_nonneg h]; exact Int.sub_zero _
        rw [show (F_f1 i0 i1 i2) = (cntL (i0.toInt64) (i2.toInt64) (i1.toInt.toNat) (1 : Int64)) from ((if_pos hc3).trans ((if_neg hc7).trans (if_pos hc17)))]
        exact loop1 hx hZ hw hby hml hown hnm hret hlk i0 i1 i2 h0 n0 _ s₁ _ X0 N0 e0 0 1 (hz hpos)
      · refine Outs.of (U' := s₁.setTop (mkF m 47 #[.val (.int i0), .val (.int i1), .val (.int i2), .val (.long (1 : Int64)), .second, .unset] [])) (fun t k => ?_) ?_
        · refine XS.icmpYes X0.here hx rfl (pc0 := 17) (pc' := 47) rfl (hb hby d1_17) rfl (flt hc17).2.2.2 (by decide) (by decide) ?_
          show Steps p.tables e below (s₁.setTop (mkF m 47 #[.val (.int i0), .val (.int i1), .val (.int i2), .val (.long (1 : Int64)), .second, .unset] [])) _
          exact k
        refine Outs.of (U' := s₁.setTop (mkF m 48 #[.val (.int i0), .val (.int i1), .val (.int i2), .val (.long (1 : Int64)), .second, .unset] [(.long (1 : Int64))])) (fun t k => ?_) ?_
        · refine XS.lloadN X0.here hx rfl (hb hby d1_47) rfl ?_
          show Steps p.tables e below (s₁.setTop (mkF m 48 #[.val (.int i0), .val (.int i1), .val (.int i2), .val (.long (1 : Int64)), .second, .unset] [(.long (1 : Int64))])) _
          exact k
        exact Outs.retL X0 hx hret (hb hby d1_48) hlk (by decide) (by decide) e0 ⟨congrArg (fun z_ => some (Value.long z_)) (show (F_f1 i0 i1 i2) = (1 : Int64) from ((if_pos hc3).trans ((if_neg hc7).trans (if_neg hc17)))).symm, N0, rfl⟩
  · refine Outs.of (U' := s₁.setTop (mkF m 15 #[.val (.int i0), .val (.int i1), .val (.int i2), .val (.long (1 : Int64)), .second, .unset] [])) (fun t k => ?_) ?_
    · refine XS.ifYes X0.here hx rfl (pc0 := 3) (pc' := 15) rfl (hb hby d1_3) rfl ((if0 _ _).trans (feq hc3).2) (by decide) (by decide) ?_
      show Steps p.tables e below (s₁.setTop (mkF m 15 #[.val (.int i0), .val (.int i1), .val (.int i2), .val (.long (1 : Int64)), .second, .unset] [])) _
      exact k
    refine Outs.of (U' := s₁.setTop (mkF m 17 #[.val (.int i0), .val (.int i1), .val (.int i2), .val (.long (1 : Int64)), .second, .unset] [(.int (1 : Int32)), (.int i0)])) (fun t k => ?_) ?_
    · refine XS.iloadN X0.here hx rfl (hb hby d1_15) rfl ?_
      show Steps p.tables e below (s₁.setTop (mkF m 16 #[.val (.int i0), .val (.int i1), .val (.int i2), .val (.long (1 : Int64)), .second, .unset] [(.int i0)])) _
      refine XS.iconst X0.here hx rfl (hb hby d1_16) ?_
      show Steps p.tables e below (s₁.setTop (mkF m 17 #[.val (.int i0), .val (.int i1), .val (.int i2), .val (.long (1 : Int64)), .second, .unset] [(.int (1 : Int32)), (.int i0)])) _
      exact k
    by_cases hc17 : (1 : Int32) < i0
    · refine Outs.of (U' := s₁.setTop (mkF m 20 #[.val (.int i0), .val (.int i1), .val (.int i2), .val (.long (1 : Int64)), .second, .unset] [])) (fun t k => ?_) ?_
      · refine XS.icmpNo X0.here hx rfl (hb hby d1_17) rfl (tlt hc17).2.2.2 ?_
        show Steps p.tables e below (s₁.setTop (mkF m 20 #[.val (.int i0), .val (.int i1), .val (.int i2), .val (.long (1 : Int64)), .second, .unset] [])) _
        exact k
      refine Outs.of (U' := s₁.setTop (mkF m 23 #[.val (.int i0), .val (.int i1), .val (.int i2), .val (.long (1 : Int64)), .second, .val (.int (0 : Int32))] [])) (fun t k => ?_) ?_
      · refine XS.iconst X0.here hx rfl (hb hby d1_20) ?_
        show Steps p.tables e below (s₁.setTop (mkF m 21 #[.val (.int i0), .val (.int i1), .val (.int i2), .val (.long (1 : Int64)), .second, .unset] [(.int (0 : Int32))])) _
        refine XS.istore X0.here hx rfl (hb hby d1_21) rfl (l' := #[.val (.int i0), .val (.int i1), .val (.int i2), .val (.long (1 : Int64)), .second, .val (.int (0 : Int32))]) rfl ?_
        show Steps p.tables e below (s₁.setTop (mkF m 23 #[.val (.int i0), .val (.int i1), .val (.int i2), .val (.long (1 : Int64)), .second, .val (.int (0 : Int32))] [])) _
        exact k
      have hz : ∀ h : 0 ≤ i1.toInt, i1.toInt - (0 : Int32).toInt = (i1.toInt.toNat : Int) := fun h => by rw [Int.toNat_of_nonneg h]; exact Int.sub_zero _
      rw [show (F_f1 i0 i1 i2) = (cntL (i0.toInt64) (i2.toInt64) (i1.toInt.toNat) (1 : Int64)) from ((if_neg hc3).trans (if_pos hc17))]
      exact loop1 hx hZ hw hby hml hown hnm hret hlk i0 i1 i2 h0 n0 _ s₁ _ X0 N0 e0 0 1 (hz hpos)
    · refine Outs.of (U' := s₁.setTop (mkF m 47 #[.val (.int i0), .val (.int i1), .val (.int i2), .val (.long (1 : Int64)), .second, .unset] [])) (fun t k => ?_) ?_
      · refine XS.icmpYes X0.here hx rfl (pc0 := 17) (pc' := 47) rfl (hb hby d1_17) rfl (flt hc17).2.2.2 (by decide) (by decide) ?_
        show Steps p.tables e below (s₁.setTop (mkF m 47 #[.val (.int i0), .val (.int i1), .val (.int i2), .val (.long (1 : Int64)), .second, .unset] [])) _
        exact k
      refine Outs.of (U' := s₁.setTop (mkF m 48 #[.val (.int i0), .val (.int i1), .val (.int i2), .val (.long (1 : Int64)), .second, .unset] [(.long (1 : Int64))])) (fun t k => ?_) ?_
      · refine XS.lloadN X0.here hx rfl (hb hby d1_47) rfl ?_
        show Steps p.tables e below (s₁.setTop (mkF m 48 #[.val (.int i0), .val (.int i1), .val (.int i2), .val (.long (1 : Int64)), .second, .unset] [(.long (1 : Int64))])) _
        exact k
      exact Outs.retL X0 hx hret (hb hby d1_48) hlk (by decide) (by decide) e0 ⟨congrArg (fun z_ => some (Value.long z_)) (show (F_f1 i0 i1 i2) = (1 : Int64) from ((if_neg hc3).trans (if_neg hc17))).symm, N0, rfl⟩
theorem ef_2 (m : MethodId) (x0 : Int64) (x1 : Int32) : entryFrame m #[(.long x0), (.int x1)] 3 = mkF m 0 #[.val (.long x0), .second, .val (.int x1)] [] := by first | (simp [entryFrame, mkF, argsToLocals, Value.category]; done) | rfl
theorem d2_0 : decode method_2_code 0 = .ok (.lload_n 0, 1) := by decide +kernel
theorem d2_1 : decode method_2_code 1 = .ok (.iload_n 2, 1) := by decide +kernel
theorem d2_2 : decode method_2_code 2 = .ok (.i2l, 1) := by decide +kernel
theorem d2_3 : decode method_2_code 3 = .ok (.lcmp, 1) := by decide +kernel
theorem d2_4 : decode method_2_code 4 = .ok (.ifCond .le 15, 3) := by decide +kernel
theorem d2_7 : decode method_2_code 7 = .ok (.lload_n 0, 1) := by decide +kernel
theorem d2_8 : decode method_2_code 8 = .ok (.ldc2_w 9, 3) := by decide +kernel
theorem d2_11 : decode method_2_code 11 = .ok (.lcmp, 1) := by decide +kernel
theorem d2_12 : decode method_2_code 12 = .ok (.ifCond .ge 7, 3) := by decide +kernel
theorem d2_15 : decode method_2_code 15 = .ok (.iconst 1, 1) := by decide +kernel
theorem d2_16 : decode method_2_code 16 = .ok (.goto 4, 3) := by decide +kernel
theorem d2_19 : decode method_2_code 19 = .ok (.iconst 0, 1) := by decide +kernel
theorem d2_20 : decode method_2_code 20 = .ok (.ireturn, 1) := by decide +kernel
theorem pn_0 : plainName "com/example/ratatoskr/ratatoskr/ChoicesCountPinLaw" = true := by first | (simp [plainName, overriddenIn]; done) | decide +kernel
def f2_4_s0 (j0 : Int64) (i1 : Int32) : Int32 := (if (i1.toInt64) < j0 then (if j0 < (4611686018427387904 : Int64) then (1 : Int32) else (0 : Int32)) else (0 : Int32))
def F_f2 (j0 : Int64) (i1 : Int32) : Int32 := (nar .boolean (f2_4_s0 j0 i1))
set_option maxRecDepth 65536 in
set_option maxHeartbeats 40000000 in
theorem rm2 (l : Launch) (Z : State) (a0 : Array Value) (hw : ∀ d ∈ tables_1, d.before a0 Z = true) (ws : List Jvm.Cond) (j0 : Int64) (i1 : Int32)  (h0 : Heap) (n0 : Nat)  :
    MetFree l (⟨"com/example/ratatoskr/ratatoskr/ChoicesCountPinLaw", "over", "(JI)Z"⟩ : MethodName) (head1 (Jvm.Cond.code (⟨"com/example/ratatoskr/ratatoskr/ChoicesCountPinLaw", "over", "(JI)Z"⟩ : MethodName) method_2_code 3 (some .boolean) :: ws) ({ frames := 0, cells := 0, slots := 0, locals := 0 } : Room)) (fun a U => a = #[(.long j0), (.int i1)] ∧ Z.Warmed39 U.vm ∧ U.heap = h0) (fun _ _ _ _ _ => True) (fun _ U o U' => ∃ v L, o = .returned v ∧ QR (some (.int (F_f2 j0 i1))) h0 n0 v U'.heap L ∧ FrameEnd U o U' L ({ frames := 0, cells := 0, slots := 0, locals := 0 } : Room).cells ({ frames := 0, cells := 0, slots := 0, locals := 0 } : Room).slots) := by
  refine MetFree.of_bodySF (plainFor_of_name pn_0) hisR ?_
  intro p e s m args below meth c s₁ Bd hml0 hP hK
  obtain ⟨rfl, hZ, hh⟩ := hP
  have hx := Bd.exec
  have hby := Bd.bytes
  have hml : c.maxLocals = 3 := hml0
  have hown : s.vm.findClass "com/example/ratatoskr/ratatoskr/ChoicesCountPinLaw" = some m.cls := findClass_of_methodNamed Bd.named
  have hnm := (name_of_methodNamed Bd.named Bd.method).1
  have hret := Bd.returns
  have hlk : meth.locks = false := BodyLoose.notSynchronized Bd
  have X0 : Stand p l e ({ frames := 0, cells := 0, slots := 0, locals := 0 } : Room) s m #[(.long j0), (.int i1)] below meth c s₁ [] 0 0 := Stand.of_body Bd
  have e0 : s₁.heap = h0 := by rw [← hh, Bd.state]; rfl
  have N0 := Fr.nil n0
  show Outs p e below s (QR (some (.int (F_f2 j0 i1))) h0 n0) _ _ _
  refine Outs.of (U' := s₁.setTop (mkF m 0 #[.val (.long j0), .second, .val (.int i1)] [])) (fun t k => castTop (ef_2 m j0 i1) k) ?_
  refine Outs.of (U' := s₁.setTop (mkF m 20 #[.val (.long j0), .second, .val (.int i1)] [(.int (f2_4_s0 j0 i1))])) (fun t k => ?_) ?_
  · refine XS.lloadN X0.here hx rfl (hb hby d2_0) rfl ?_
    show Steps p.tables e below (s₁.setTop (mkF m 1 #[.val (.long j0), .second, .val (.int i1)] [(.long j0)])) _
    refine XS.iloadN X0.here hx rfl (hb hby d2_1) rfl ?_
    show Steps p.tables e below (s₁.setTop (mkF m 2 #[.val (.long j0), .second, .val (.int i1)] [(.int i1), (.long j0)])) _
    refine XS.i2l X0.here hx rfl (hb hby d2_2) rfl ?_
    show Steps p.tables e below (s₁.setTop (mkF m 3 #[.val (.long j0), .second, .val (.int i1)] [(.long (i1.toInt64)), (.long j0)])) _
    refine XS.lcmp X0.here hx rfl (hb hby d2_3) rfl ?_
    show Steps p.tables e below (s₁.setTop (mkF m 4 #[.val (.long j0), .second, .val (.int i1)] [(.int (lcmpW j0 (i1.toInt64)))])) _
    by_cases hc4 : (i1.toInt64) < j0
    · refine XS.ifNo X0.here hx rfl (hb hby d2_4) rfl ((if0 _ _).trans (tlt ((lw_gt _ _).mpr hc4)).2.2.2) ?_
      show Steps p.tables e below (s₁.setTop (mkF m 7 #[.val (.long j0), .second, .val (.int i1)] [])) _
      refine XS.lloadN X0.here hx rfl (hb hby d2_7) rfl ?_
      show Steps p.tables e below (s₁.setTop (mkF m 8 #[.val (.long j0), .second, .val (.int i1)] [(.long j0)])) _
      refine X0.ldc2Long hx hown (mvT hZ (hw _ (List.mem_of_getElem? (i := 10) rfl))) (g := (mkF m 8 #[.val (.long j0), .second, .val (.int i1)] [(.long j0)])) rfl (hb hby d2_8) _ ?_
      show Steps p.tables e below (s₁.setTop (mkF m 11 #[.val (.long j0), .second, .val (.int i1)] [(.long (4611686018427387904 : Int64)), (.long j0)])) _
      refine XS.lcmp X0.here hx rfl (hb hby d2_11) rfl ?_
      show Steps p.tables e below (s₁.setTop (mkF m 12 #[.val (.long j0), .second, .val (.int i1)] [(.int (lcmpW j0 (4611686018427387904 : Int64)))])) _
      by_cases hc12 : j0 < (4611686018427387904 : Int64)
      · refine XS.ifNo X0.here hx rfl (hb hby d2_12) rfl ((if0 _ _).trans (tlt ((lw_lt _ _).mpr hc12)).2.1) ?_
        show Steps p.tables e below (s₁.setTop (mkF m 15 #[.val (.long j0), .second, .val (.int i1)] [])) _
        refine XS.iconst X0.here hx rfl (hb hby d2_15) ?_
        show Steps p.tables e below (s₁.setTop (mkF m 16 #[.val (.long j0), .second, .val (.int i1)] [(.int (1 : Int32))])) _
        refine XS.goto X0.here hx rfl (pc0 := 16) (pc' := 20) rfl (hb hby d2_16) (by decide) (by decide) ?_
        show Steps p.tables e below (s₁.setTop (mkF m 20 #[.val (.long j0), .second, .val (.int i1)] [(.int (1 : Int32))])) _
        rw [show (f2_4_s0 j0 i1) = (1 : Int32) from ((if_pos hc4).trans (if_pos hc12))] at k
        exact k
      · refine XS.ifYes X0.here hx rfl (pc0 := 12) (pc' := 19) rfl (hb hby d2_12) rfl ((if0 _ _).trans (flt (fun q_ => hc12 ((lw_lt _ _).mp q_))).2.1) (by decide) (by decide) ?_
        show Steps p.tables e below (s₁.setTop (mkF m 19 #[.val (.long j0), .second, .val (.int i1)] [])) _
        refine XS.iconst X0.here hx rfl (hb hby d2_19) ?_
        show Steps p.tables e below (s₁.setTop (mkF m 20 #[.val (.long j0), .second, .val (.int i1)] [(.int (0 : Int32))])) _
        rw [show (f2_4_s0 j0 i1) = (0 : Int32) from ((if_pos hc4).trans (if_neg hc12))] at k
        exact k
    · refine XS.ifYes X0.here hx rfl (pc0 := 4) (pc' := 19) rfl (hb hby d2_4) rfl ((if0 _ _).trans (flt (fun q_ => hc4 ((lw_gt _ _).mp q_))).2.2.2) (by decide) (by decide) ?_
      show Steps p.tables e below (s₁.setTop (mkF m 19 #[.val (.long j0), .second, .val (.int i1)] [])) _
      refine XS.iconst X0.here hx rfl (hb hby d2_19) ?_
      show Steps p.tables e below (s₁.setTop (mkF m 20 #[.val (.long j0), .second, .val (.int i1)] [(.int (0 : Int32))])) _
      rw [show (f2_4_s0 j0 i1) = (0 : Int32) from (if_neg hc4)] at k
      exact k
  exact Outs.retN (t := .boolean) (z := (f2_4_s0 j0 i1)) X0 hx hret (by simp) (hb hby d2_20) hlk (by decide) (by decide) e0 ⟨congrArg (fun z_ => some (Value.int z_)) (show (F_f2 j0 i1) = (nar .boolean (f2_4_s0 j0 i1)) from rfl).symm, N0, rfl⟩
def f0_3_s0 (i0 : Int32) (i1 : Int32) (i2 : Int32) (i3 : Int32) : Int32 := (if (i3 &&& (1 : Int32)) = (0 : Int32) then (i0 &&& (7 : Int32)) else (i0 &&& (2147483647 : Int32)))
def f0_22_s0 (i0 : Int32) (i1 : Int32) (i2 : Int32) (i3 : Int32) : Int32 := (if (i3 &&& (2 : Int32)) = (0 : Int32) then (i1 &&& (63 : Int32)) else (i1 &&& (1073741823 : Int32)))
def f0_56_s0 (i0 : Int32) (i1 : Int32) (i2 : Int32) (i3 : Int32) : Int64 := (if (0 : Int32) < (f0_22_s0 i0 i1 i2 i3) then (0 : Int64) else (1 : Int64))
def f0_65_s0 (i0 : Int32) (i1 : Int32) (i2 : Int32) (i3 : Int32) : Int32 := (if (F_f1 (0 : Int32) (f0_22_s0 i0 i1 i2 i3) i2) = (f0_56_s0 i0 i1 i2 i3) then (1 : Int32) else (0 : Int32))
def f0_v131 (i0 : Int32) (i1 : Int32) (i2 : Int32) (i3 : Int32) : Int64 := (F_f1 (f0_3_s0 i0 i1 i2 i3) ((f0_22_s0 i0 i1 i2 i3) + (1 : Int32)) i2)
def f0_200_s0 (i0 : Int32) (i1 : Int32) (i2 : Int32) (i3 : Int32) : Int32 := (if (F_f1 (f0_3_s0 i0 i1 i2 i3) (f0_22_s0 i0 i1 i2 i3) i2) < (4611686018427387904 : Int64) then (if (f0_v131 i0 i1 i2 i3) < (4611686018427387904 : Int64) then (1 : Int32) else (0 : Int32)) else (0 : Int32))
def f0_221_s0 (i0 : Int32) (i1 : Int32) (i2 : Int32) (i3 : Int32) : Int32 := (if (F_f2 (F_f1 (f0_3_s0 i0 i1 i2 i3) (0 : Int32) i2) i2) = (0 : Int32) then (0 : Int32) else (if (F_f2 (f0_v131 i0 i1 i2 i3) i2) = (0 : Int32) then (0 : Int32) else (if (f0_200_s0 i0 i1 i2 i3) = (0 : Int32) then (0 : Int32) else (1 : Int32))))
def f0_v147 (i0 : Int32) (i1 : Int32) (i2 : Int32) (i3 : Int32) : Int64 := ((F_f1 (f0_3_s0 i0 i1 i2 i3) (f0_22_s0 i0 i1 i2 i3) i2) * ((f0_3_s0 i0 i1 i2 i3).toInt64))
def f0_162_s0 (i0 : Int32) (i1 : Int32) (i2 : Int32) (i3 : Int32) : Int32 := (if (f0_v131 i0 i1 i2 i3) = (f0_v147 i0 i1 i2 i3) then (1 : Int32) else (0 : Int32))
def f0_221_s0a (i0 : Int32) (i1 : Int32) (i2 : Int32) (i3 : Int32) : Int32 := (if (F_f2 (F_f1 (f0_3_s0 i0 i1 i2 i3) (0 : Int32) i2) i2) = (0 : Int32) then (0 : Int32) else (if (f0_162_s0 i0 i1 i2 i3) = (0 : Int32) then (0 : Int32) else (if (f0_200_s0 i0 i1 i2 i3) = (0 : Int32) then (0 : Int32) else (1 : Int32))))
def f0_92_s0 (i0 : Int32) (i1 : Int32) (i2 : Int32) (i3 : Int32) : Int32 := (if (F_f1 (f0_3_s0 i0 i1 i2 i3) (0 : Int32) i2) = (1 : Int64) then (1 : Int32) else (0 : Int32))
def f0_221_s0b (i0 : Int32) (i1 : Int32) (i2 : Int32) (i3 : Int32) : Int32 := (if (f0_92_s0 i0 i1 i2 i3) = (0 : Int32) then (0 : Int32) else (if (F_f2 (f0_v131 i0 i1 i2 i3) i2) = (0 : Int32) then (0 : Int32) else (if (f0_200_s0 i0 i1 i2 i3) = (0 : Int32) then (0 : Int32) else (1 : Int32))))
def f0_221_s0c (i0 : Int32) (i1 : Int32) (i2 : Int32) (i3 : Int32) : Int32 := (if (f0_92_s0 i0 i1 i2 i3) = (0 : Int32) then (0 : Int32) else (if (f0_162_s0 i0 i1 i2 i3) = (0 : Int32) then (0 : Int32) else (if (f0_200_s0 i0 i1 i2 i3) = (0 : Int32) then (0 : Int32) else (1 : Int32))))
theorem own_st (i0 i1 i2 i3 : Int32) : 0 ≤ (f0_3_s0 i0 i1 i2 i3).toInt := by
  unfold f0_3_s0
  split
  · have := c_mask i0 7 3 (by decide) (by decide); omega
  · have := c_mask i0 2147483647 31 (by decide) (by decide); omega
theorem own_rkb (i0 i1 i2 i3 : Int32) : 0 ≤ (f0_22_s0 i0 i1 i2 i3).toInt ∧ (f0_22_s0 i0 i1 i2 i3).toInt < 1073741824 := by
  unfold f0_22_s0
  split
  · have := c_mask i1 63 6 (by decide) (by decide); omega
  · have := c_mask i1 1073741823 30 (by decide) (by decide); omega
theorem own_rk (i0 i1 i2 i3 : Int32) : 0 ≤ (f0_22_s0 i0 i1 i2 i3).toInt := (own_rkb i0 i1 i2 i3).1
theorem own_rk1v (i0 i1 i2 i3 : Int32) : (f0_22_s0 i0 i1 i2 i3 + 1).toInt = (f0_22_s0 i0 i1 i2 i3).toInt + 1 := by
  have a := own_rkb i0 i1 i2 i3
  have b := c_iadd (f0_22_s0 i0 i1 i2 i3) 1
  have h1 : (1 : Int32).toInt = 1 := by decide
  have r := rng32 (f0_22_s0 i0 i1 i2 i3 + 1)
  omega
theorem own_rk1 (i0 i1 i2 i3 : Int32) : 0 ≤ (f0_22_s0 i0 i1 i2 i3 + 1).toInt := by
  have a := own_rkb i0 i1 i2 i3
  have b := own_rk1v i0 i1 i2 i3
  omega
theorem own_mul (a b : Int64) (ha : 1 ≤ a.toInt ∧ a.toInt < 2147483648) (hb : 1 ≤ b.toInt ∧ b.toInt < 2147483648) : 1 ≤ (a * b).toInt ∧ (a * b).toInt < 4611686018427387904 := by
  have h := c_lmul a b
  have r := rng64 (a * b)
  have l : a.toInt * 1 ≤ a.toInt * b.toInt := Int.mul_le_mul_of_nonneg_left hb.1 (by omega)
  have u1 : a.toInt * b.toInt ≤ 2147483647 * b.toInt := Int.mul_le_mul_of_nonneg_right (by omega) (by omega)
  omega
theorem cnt_step (st cap : Int64) (n : Nat) (ch : Int64) : cntL st cap (n + 1) ch = if cap < cntL st cap n ch then cntL st cap n ch else cntL st cap n ch * st := by
  induction n generalizing ch with
  | zero => rfl
  | succ n ih =>
    show (if cap < ch then ch else cntL st cap (n + 1) (ch * st)) = _
    by_cases h : cap < ch
    · have e : cntL st cap (n + 1) ch = ch := if_pos h
      rw [if_pos h, e, if_pos h]
    · have e : cntL st cap (n + 1) ch = cntL st cap n (ch * st) := if_neg h
      rw [if_neg h, ih, e]
theorem cnt_bound (st cap : Int64) (hst : 1 ≤ st.toInt ∧ st.toInt < 2147483648) (hcap : cap.toInt < 2147483648) (n : Nat) : ∀ ch : Int64, 1 ≤ ch.toInt ∧ ch.toInt < 4611686018427387904 → 1 ≤ (cntL st cap n ch).toInt ∧ (cntL st cap n ch).toInt < 4611686018427387904 := by
  induction n with
  | zero => exact fun ch h => h
  | succ n ih =>
    intro ch h
    by_cases q : cap < ch
    · rw [show cntL st cap (n + 1) ch = ch from if_pos q]; exact h
    · rw [show cntL st cap (n + 1) ch = cntL st cap n (ch * st) from if_neg q]
      rw [Int64.lt_iff_toInt_lt] at q
      exact ih _ (own_mul ch st ⟨h.1, by omega⟩ hst)
theorem own_one64 : (1 : Int64).toInt = 1 := by decide
theorem own_cnt {st : Int32} (rk cap : Int32) (hs : 1 ≤ st.toInt) : F_f1 st rk cap = if (1 : Int32) < st then cntL st.toInt64 cap.toInt64 rk.toInt.toNat 1 else 1 := by
  have h0 : ¬ st = 0 := fun q => by rw [q] at hs; exact absurd hs (by decide)
  unfold F_f1
  rw [if_neg h0]
theorem own_base {st : Int32} (cap : Int32) (hs : 1 ≤ st.toInt) : F_f1 st 0 cap = 1 := by
  rw [own_cnt 0 cap hs]
  split
  · rfl
  · rfl
theorem own_bound {st : Int32} (rk cap : Int32) (hs : 1 ≤ st.toInt) : 1 ≤ (F_f1 st rk cap).toInt ∧ (F_f1 st rk cap).toInt < 4611686018427387904 := by
  rw [own_cnt rk cap hs]
  have r := rng32 st
  have r2 := rng32 cap
  split
  · exact cnt_bound _ _ (by rw [Int32.toInt_toInt64]; omega) (by rw [Int32.toInt_toInt64]; omega) _ _ (by rw [own_one64]; omega)
  · rw [own_one64]; omega
theorem own_next {st : Int32} (rk cap : Int32) (hs : 1 ≤ st.toInt) (h0 : 0 ≤ rk.toInt) (h1 : (rk + 1).toInt = rk.toInt + 1) : F_f1 st (rk + 1) cap = if cap.toInt64 < F_f1 st rk cap then F_f1 st rk cap else F_f1 st rk cap * st.toInt64 := by
  rw [own_cnt rk cap hs, own_cnt (rk + 1) cap hs]
  by_cases q : (1 : Int32) < st
  · rw [if_pos q, if_pos q, h1, show (rk.toInt + 1).toNat = rk.toInt.toNat + 1 by omega]
    exact cnt_step _ _ _ _
  · rw [if_neg q, if_neg q]
    rw [Int32.lt_iff_toInt_lt] at q
    have e : st = 1 := Int32.toInt_inj.mp (by have : (1 : Int32).toInt = 1 := by decide
                                              omega)
    rw [e]
    split <;> rfl
theorem own_over {z : Int64} {cap : Int32} (h1 : cap.toInt64 < z) (h2 : z.toInt < 4611686018427387904) : F_f2 z cap = 1 := by
  have k : (4611686018427387904 : Int64).toInt = 4611686018427387904 := by decide
  have h3 : z < (4611686018427387904 : Int64) := by rw [Int64.lt_iff_toInt_lt]; omega
  unfold F_f2 f2_4_s0
  rw [if_pos h1, if_pos h3]; rfl
theorem own_lim {z : Int64} (h2 : z.toInt < 4611686018427387904) : z < (4611686018427387904 : Int64) := by
  have k : (4611686018427387904 : Int64).toInt = 4611686018427387904 := by decide
  rw [Int64.lt_iff_toInt_lt]; omega
theorem own_all {x y z : Int32} (e1 : x = 1) (e2 : y = 1) (e3 : z = 1) : nar .boolean (if x = (0 : Int32) then (0 : Int32) else (if y = (0 : Int32) then (0 : Int32) else (if z = (0 : Int32) then (0 : Int32) else (1 : Int32)))) = 1 := by
  subst e1 e2 e3; rfl
theorem own_pos {i0 i1 i2 i3 : Int32} (h : ¬ f0_3_s0 i0 i1 i2 i3 = 0) : 1 ≤ (f0_3_s0 i0 i1 i2 i3).toInt := by
  have a := own_st i0 i1 i2 i3
  by_cases q : (f0_3_s0 i0 i1 i2 i3).toInt = 0
  · exact absurd (Int32.toInt_inj.mp (q.trans (by decide))) h
  · omega
theorem law_65_s0_1 (i0 i1 i2 i3 : Int32) (h : f0_3_s0 i0 i1 i2 i3 = 0) : nar .boolean (f0_65_s0 i0 i1 i2 i3) = 1 := by
  unfold f0_65_s0
  rw [if_pos]
  · rfl
  unfold F_f1 f0_56_s0
  rw [if_pos rfl]
  split
  · rfl
  · rfl
theorem own_base_over {i0 i1 i2 i3 : Int32} (h : ¬ f0_3_s0 i0 i1 i2 i3 = 0) (h2 : i2 < 1) : F_f2 (F_f1 (f0_3_s0 i0 i1 i2 i3) 0 i2) i2 = 1 := by
  rw [own_base i2 (own_pos h)]
  rw [Int32.lt_iff_toInt_lt] at h2
  have k : (1 : Int32).toInt = 1 := by decide
  exact own_over (by rw [Int64.lt_iff_toInt_lt, Int32.toInt_toInt64, own_one64]; omega) (by rw [own_one64]; omega)
theorem own_base_eq {i0 i1 i2 i3 : Int32} (h : ¬ f0_3_s0 i0 i1 i2 i3 = 0) : f0_92_s0 i0 i1 i2 i3 = 1 := by
  unfold f0_92_s0
  rw [if_pos (own_base i2 (own_pos h))]
theorem own_200 {i0 i1 i2 i3 : Int32} (h : ¬ f0_3_s0 i0 i1 i2 i3 = 0) : f0_200_s0 i0 i1 i2 i3 = 1 := by
  unfold f0_200_s0 f0_v131
  rw [if_pos (own_lim (own_bound _ _ (own_pos h)).2), if_pos (own_lim (own_bound _ _ (own_pos h)).2)]
theorem own_d {i0 i1 i2 i3 : Int32} (h : ¬ f0_3_s0 i0 i1 i2 i3 = 0) : f0_v131 i0 i1 i2 i3 = if i2.toInt64 < F_f1 (f0_3_s0 i0 i1 i2 i3) (f0_22_s0 i0 i1 i2 i3) i2 then F_f1 (f0_3_s0 i0 i1 i2 i3) (f0_22_s0 i0 i1 i2 i3) i2 else f0_v147 i0 i1 i2 i3 :=
  own_next _ _ (own_pos h) (own_rk i0 i1 i2 i3) (own_rk1v i0 i1 i2 i3)
theorem own_dover {i0 i1 i2 i3 : Int32} (h : ¬ f0_3_s0 i0 i1 i2 i3 = 0) (hd : i2.toInt64 < f0_v131 i0 i1 i2 i3) : F_f2 (f0_v131 i0 i1 i2 i3) i2 = 1 :=
  own_over hd (own_bound _ _ (own_pos h)).2
theorem law_221_s0_3 (i0 i1 i2 i3 : Int32) (h : ¬ f0_3_s0 i0 i1 i2 i3 = 0) (h2 : i2 < 1) (h3 : i2.toInt64 < F_f1 (f0_3_s0 i0 i1 i2 i3) (f0_22_s0 i0 i1 i2 i3) i2) : nar .boolean (f0_221_s0 i0 i1 i2 i3) = 1 :=
  own_all (own_base_over h h2) (own_dover h (by rw [own_d h, if_pos h3]; exact h3)) (own_200 h)
theorem law_221_s0b_3 (i0 i1 i2 i3 : Int32) (h : ¬ f0_3_s0 i0 i1 i2 i3 = 0) (h2 : ¬ i2 < 1) (h3 : i2.toInt64 < F_f1 (f0_3_s0 i0 i1 i2 i3) (f0_22_s0 i0 i1 i2 i3) i2) : nar .boolean (f0_221_s0b i0 i1 i2 i3) = 1 :=
  own_all (own_base_eq h) (own_dover h (by rw [own_d h, if_pos h3]; exact h3)) (own_200 h)
theorem law_221_s0_4 (i0 i1 i2 i3 : Int32) (h : ¬ f0_3_s0 i0 i1 i2 i3 = 0) (h2 : i2 < 1) (h3 : ¬ i2.toInt64 < F_f1 (f0_3_s0 i0 i1 i2 i3) (f0_22_s0 i0 i1 i2 i3) i2) (h4 : i2.toInt64 < f0_v147 i0 i1 i2 i3) : nar .boolean (f0_221_s0 i0 i1 i2 i3) = 1 :=
  own_all (own_base_over h h2) (own_dover h (by rw [own_d h, if_neg h3]; exact h4)) (own_200 h)
theorem law_221_s0b_4 (i0 i1 i2 i3 : Int32) (h : ¬ f0_3_s0 i0 i1 i2 i3 = 0) (h2 : ¬ i2 < 1) (h3 : ¬ i2.toInt64 < F_f1 (f0_3_s0 i0 i1 i2 i3) (f0_22_s0 i0 i1 i2 i3) i2) (h4 : i2.toInt64 < f0_v147 i0 i1 i2 i3) : nar .boolean (f0_221_s0b i0 i1 i2 i3) = 1 :=
  own_all (own_base_eq h) (own_dover h (by rw [own_d h, if_neg h3]; exact h4)) (own_200 h)
theorem law_221_s0a_4 (i0 i1 i2 i3 : Int32) (h : ¬ f0_3_s0 i0 i1 i2 i3 = 0) (h2 : i2 < 1) (h3 : ¬ i2.toInt64 < F_f1 (f0_3_s0 i0 i1 i2 i3) (f0_22_s0 i0 i1 i2 i3) i2) (h4 : ¬ i2.toInt64 < f0_v147 i0 i1 i2 i3) : nar .boolean (f0_221_s0a i0 i1 i2 i3) = 1 :=
  own_all (own_base_over h h2) (by unfold f0_162_s0; rw [if_pos (by rw [own_d h, if_neg h3])]) (own_200 h)
theorem law_221_s0c_4 (i0 i1 i2 i3 : Int32) (h : ¬ f0_3_s0 i0 i1 i2 i3 = 0) (h2 : ¬ i2 < 1) (h3 : ¬ i2.toInt64 < F_f1 (f0_3_s0 i0 i1 i2 i3) (f0_22_s0 i0 i1 i2 i3) i2) (h4 : ¬ i2.toInt64 < f0_v147 i0 i1 i2 i3) : nar .boolean (f0_221_s0c i0 i1 i2 i3) = 1 :=
  own_all (own_base_eq h) (by unfold f0_162_s0; rw [if_pos (by rw [own_d h, if_neg h3])]) (own_200 h)
theorem ef_0 (m : MethodId) (x0 : Int32) (x1 : Int32) (x2 : Int32) (x3 : Int32) : entryFrame m #[(.int x0), (.int x1), (.int x2), (.int x3)] maxLocals = mkF m 0 #[.val (.int x0), .val (.int x1), .val (.int x2), .val (.int x3), .unset, .unset, .unset, .unset, .unset, .unset, .unset, .unset, .unset, .unset, .unset, .unset] [] := by first | (simp [entryFrame, mkF, argsToLocals, Value.category, maxLocals]; done) | rfl
theorem pd_0 : parseMethodDescriptor "(III)J" = some ⟨[.int, .int, .int], some .long⟩ := by decide +kernel
theorem pd_1 : parseMethodDescriptor "(JI)Z" = some ⟨[.long, .int], some .boolean⟩ := by decide +kernel
set_option maxRecDepth 65536 in
set_option maxHeartbeats 40000000 in
theorem rm0 (l : Launch) (Z : State) (a0 : Array Value) (hw : ∀ d ∈ tables_1, d.before a0 Z = true) (ws : List Jvm.Cond) (i0 : Int32) (i1 : Int32) (i2 : Int32) (i3 : Int32)  (h0 : Heap) (n0 : Nat)  :
    MetFree l x (head1 (Jvm.Cond.code x code maxLocals ret :: ws) room_1) (fun a U => a = #[(.int i0), (.int i1), (.int i2), (.int i3)] ∧ Z.Warmed39 U.vm ∧ U.heap = h0) (fun _ _ _ _ _ => True) (fun _ U o U' => ∃ v L, o = .returned v ∧ QL n0 v U'.heap L ∧ FrameEnd U o U' L room_1.cells room_1.slots) := by
  refine MetFree.of_bodySF (plainFor_of_name pn_0) hisR ?_
  intro p e s m args below meth c s₁ Bd hml0 hP hK
  obtain ⟨rfl, hZ, hh⟩ := hP
  have hx := Bd.exec
  have hby := Bd.bytes
  have hml : c.maxLocals = 16 := hml0
  have hown : s.vm.findClass "com/example/ratatoskr/ratatoskr/ChoicesCountPinLaw" = some m.cls := findClass_of_methodNamed Bd.named
  have hnm := (name_of_methodNamed Bd.named Bd.method).1
  have hret := Bd.returns
  have hlk : meth.locks = false := BodyLoose.notSynchronized Bd
  have X0 : Stand p l e room_1 s m #[(.int i0), (.int i1), (.int i2), (.int i3)] below meth c s₁ [] 0 0 := Stand.of_body Bd
  have e0 : s₁.heap = h0 := by rw [← hh, Bd.state]; rfl
  have N0 := Fr.nil n0
  show Outs p e below s (QL n0) _ _ _
  refine Outs.of (U' := s₁.setTop (mkF m 0 #[.val (.int i0), .val (.int i1), .val (.int i2), .val (.int i3), .unset, .unset, .unset, .unset, .unset, .unset, .unset, .unset, .unset, .unset, .unset, .unset] [])) (fun t k => castTop (ef_0 m i0 i1 i2 i3) k) ?_
  refine Outs.of (U' := s₁.setTop (mkF m 17 #[.val (.int i0), .val (.int i1), .val (.int i2), .val (.int i3), .unset, .unset, .unset, .unset, .unset, .unset, .unset, .unset, .unset, .unset, .unset, .unset] [(.int (f0_3_s0 i0 i1 i2 i3))])) (fun t k => ?_) ?_
  · refine XS.iloadN X0.here hx rfl (hb hby at_0) rfl ?_
    show Steps p.tables e below (s₁.setTop (mkF m 1 #[.val (.int i0), .val (.int i1), .val (.int i2), .val (.int i3), .unset, .unset, .unset, .unset, .unset, .unset, .unset, .unset, .unset, .unset, .unset, .unset] [(.int i3)])) _
    refine XS.iconst X0.here hx rfl (hb hby at_1) ?_
    show Steps p.tables e below (s₁.setTop (mkF m 2 #[.val (.int i0), .val (.int i1), .val (.int i2), .val (.int i3), .unset, .unset, .unset, .unset, .unset, .unset, .unset, .unset, .unset, .unset, .unset, .unset] [(.int (1 : Int32)), (.int i3)])) _
    refine XS.iand X0.here hx rfl (hb hby at_2) rfl ?_
    show Steps p.tables e below (s₁.setTop (mkF m 3 #[.val (.int i0), .val (.int i1), .val (.int i2), .val (.int i3), .unset, .unset, .unset, .unset, .unset, .unset, .unset, .unset, .unset, .unset, .unset, .unset] [(.int (i3 &&& (1 : Int32)))])) _
    by_cases hc3 : (i3 &&& (1 : Int32)) = (0 : Int32)
    · refine XS.ifYes X0.here hx rfl (pc0 := 3) (pc' := 13) rfl (hb hby at_3) rfl ((if0 _ _).trans (teq hc3).1) (by decide) (by decide) ?_
      show Steps p.tables e below (s₁.setTop (mkF m 13 #[.val (.int i0), .val (.int i1), .val (.int i2), .val (.int i3), .unset, .unset, .unset, .unset, .unset, .unset, .unset, .unset, .unset, .unset, .unset, .unset] [])) _
      refine XS.iloadN X0.here hx rfl (hb hby at_13) rfl ?_
      show Steps p.tables e below (s₁.setTop (mkF m 14 #[.val (.int i0), .val (.int i1), .val (.int i2), .val (.int i3), .unset, .unset, .unset, .unset, .unset, .unset, .unset, .unset, .unset, .unset, .unset, .unset] [(.int i0)])) _
      refine XS.bipush X0.here hx rfl (hb hby at_14) ?_
      show Steps p.tables e below (s₁.setTop (mkF m 16 #[.val (.int i0), .val (.int i1), .val (.int i2), .val (.int i3), .unset, .unset, .unset, .unset, .unset, .unset, .unset, .unset, .unset, .unset, .unset, .unset] [(.int (7 : Int32)), (.int i0)])) _
      refine XS.iand X0.here hx rfl (hb hby at_16) rfl ?_
      show Steps p.tables e below (s₁.setTop (mkF m 17 #[.val (.int i0), .val (.int i1), .val (.int i2), .val (.int i3), .unset, .unset, .unset, .unset, .unset, .unset, .unset, .unset, .unset, .unset, .unset, .unset] [(.int (i0 &&& (7 : Int32)))])) _
      rw [show (f0_3_s0 i0 i1 i2 i3) = (i0 &&& (7 : Int32)) from (if_pos hc3)] at k
      exact k
    · refine XS.ifNo X0.here hx rfl (hb hby at_3) rfl ((if0 _ _).trans (feq hc3).1) ?_
      show Steps p.tables e below (s₁.setTop (mkF m 6 #[.val (.int i0), .val (.int i1), .val (.int i2), .val (.int i3), .unset, .unset, .unset, .unset, .unset, .unset, .unset, .unset, .unset, .unset, .unset, .unset] [])) _
      refine XS.iloadN X0.here hx rfl (hb hby at_6) rfl ?_
      show Steps p.tables e below (s₁.setTop (mkF m 7 #[.val (.int i0), .val (.int i1), .val (.int i2), .val (.int i3), .unset, .unset, .unset, .unset, .unset, .unset, .unset, .unset, .unset, .unset, .unset, .unset] [(.int i0)])) _
      refine X0.ldcInt hx hown (mvT hZ (hw _ (List.mem_of_getElem? (i := 0) rfl))) (g := (mkF m 7 #[.val (.int i0), .val (.int i1), .val (.int i2), .val (.int i3), .unset, .unset, .unset, .unset, .unset, .unset, .unset, .unset, .unset, .unset, .unset, .unset] [(.int i0)])) rfl (hb hby at_7) _ ?_
      show Steps p.tables e below (s₁.setTop (mkF m 9 #[.val (.int i0), .val (.int i1), .val (.int i2), .val (.int i3), .unset, .unset, .unset, .unset, .unset, .unset, .unset, .unset, .unset, .unset, .unset, .unset] [(.int (2147483647 : Int32)), (.int i0)])) _
      refine XS.iand X0.here hx rfl (hb hby at_9) rfl ?_
      show Steps p.tables e below (s₁.setTop (mkF m 10 #[.val (.int i0), .val (.int i1), .val (.int i2), .val (.int i3), .unset, .unset, .unset, .unset, .unset, .unset, .unset, .unset, .unset, .unset, .unset, .unset] [(.int (i0 &&& (2147483647 : Int32)))])) _
      refine XS.goto X0.here hx rfl (pc0 := 10) (pc' := 17) rfl (hb hby at_10) (by decide) (by decide) ?_
      show Steps p.tables e below (s₁.setTop (mkF m 17 #[.val (.int i0), .val (.int i1), .val (.int i2), .val (.int i3), .unset, .unset, .unset, .unset, .unset, .unset, .unset, .unset, .unset, .unset, .unset, .unset] [(.int (i0 &&& (2147483647 : Int32)))])) _
      rw [show (f0_3_s0 i0 i1 i2 i3) = (i0 &&& (2147483647 : Int32)) from (if_neg hc3)] at k
      exact k
  refine Outs.of (U' := s₁.setTop (mkF m 36 #[.val (.int i0), .val (.int i1), .val (.int i2), .val (.int i3), .val (.int (f0_3_s0 i0 i1 i2 i3)), .unset, .unset, .unset, .unset, .unset, .unset, .unset, .unset, .unset, .unset, .unset] [(.int (f0_22_s0 i0 i1 i2 i3))])) (fun t k => ?_) ?_
  · refine XS.istore X0.here hx rfl (hb hby at_17) rfl (l' := #[.val (.int i0), .val (.int i1), .val (.int i2), .val (.int i3), .val (.int (f0_3_s0 i0 i1 i2 i3)), .unset, .unset, .unset, .unset, .unset, .unset, .unset, .unset, .unset, .unset, .unset]) rfl ?_
    show Steps p.tables e below (s₁.setTop (mkF m 19 #[.val (.int i0), .val (.int i1), .val (.int i2), .val (.int i3), .val (.int (f0_3_s0 i0 i1 i2 i3)), .unset, .unset, .unset, .unset, .unset, .unset, .unset, .unset, .unset, .unset, .unset] [])) _
    refine XS.iloadN X0.here hx rfl (hb hby at_19) rfl ?_
    show Steps p.tables e below (s₁.setTop (mkF m 20 #[.val (.int i0), .val (.int i1), .val (.int i2), .val (.int i3), .val (.int (f0_3_s0 i0 i1 i2 i3)), .unset, .unset, .unset, .unset, .unset, .unset, .unset, .unset, .unset, .unset, .unset] [(.int i3)])) _
    refine XS.iconst X0.here hx rfl (hb hby at_20) ?_
    show Steps p.tables e below (s₁.setTop (mkF m 21 #[.val (.int i0), .val (.int i1), .val (.int i2), .val (.int i3), .val (.int (f0_3_s0 i0 i1 i2 i3)), .unset, .unset, .unset, .unset, .unset, .unset, .unset, .unset, .unset, .unset, .unset] [(.int (2 : Int32)), (.int i3)])) _
    refine XS.iand X0.here hx rfl (hb hby at_21) rfl ?_
    show Steps p.tables e below (s₁.setTop (mkF m 22 #[.val (.int i0), .val (.int i1), .val (.int i2), .val (.int i3), .val (.int (f0_3_s0 i0 i1 i2 i3)), .unset, .unset, .unset, .unset, .unset, .unset, .unset, .unset, .unset, .unset, .unset] [(.int (i3 &&& (2 : Int32)))])) _
    by_cases hc22 : (i3 &&& (2 : Int32)) = (0 : Int32)
    · refine XS.ifYes X0.here hx rfl (pc0 := 22) (pc' := 32) rfl (hb hby at_22) rfl ((if0 _ _).trans (teq hc22).1) (by decide) (by decide) ?_
      show Steps p.tables e below (s₁.setTop (mkF m 32 #[.val (.int i0), .val (.int i1), .val (.int i2), .val (.int i3), .val (.int (f0_3_s0 i0 i1 i2 i3)), .unset, .unset, .unset, .unset, .unset, .unset, .unset, .unset, .unset, .unset, .unset] [])) _
      refine XS.iloadN X0.here hx rfl (hb hby at_32) rfl ?_
      show Steps p.tables e below (s₁.setTop (mkF m 33 #[.val (.int i0), .val (.int i1), .val (.int i2), .val (.int i3), .val (.int (f0_3_s0 i0 i1 i2 i3)), .unset, .unset, .unset, .unset, .unset, .unset, .unset, .unset, .unset, .unset, .unset] [(.int i1)])) _
      refine XS.bipush X0.here hx rfl (hb hby at_33) ?_
      show Steps p.tables e below (s₁.setTop (mkF m 35 #[.val (.int i0), .val (.int i1), .val (.int i2), .val (.int i3), .val (.int (f0_3_s0 i0 i1 i2 i3)), .unset, .unset, .unset, .unset, .unset, .unset, .unset, .unset, .unset, .unset, .unset] [(.int (63 : Int32)), (.int i1)])) _
      refine XS.iand X0.here hx rfl (hb hby at_35) rfl ?_
      show Steps p.tables e below (s₁.setTop (mkF m 36 #[.val (.int i0), .val (.int i1), .val (.int i2), .val (.int i3), .val (.int (f0_3_s0 i0 i1 i2 i3)), .unset, .unset, .unset, .unset, .unset, .unset, .unset, .unset, .unset, .unset, .unset] [(.int (i1 &&& (63 : Int32)))])) _
      rw [show (f0_22_s0 i0 i1 i2 i3) = (i1 &&& (63 : Int32)) from (if_pos hc22)] at k
      exact k
    · refine XS.ifNo X0.here hx rfl (hb hby at_22) rfl ((if0 _ _).trans (feq hc22).1) ?_
      show Steps p.tables e below (s₁.setTop (mkF m 25 #[.val (.int i0), .val (.int i1), .val (.int i2), .val (.int i3), .val (.int (f0_3_s0 i0 i1 i2 i3)), .unset, .unset, .unset, .unset, .unset, .unset, .unset, .unset, .unset, .unset, .unset] [])) _
      refine XS.iloadN X0.here hx rfl (hb hby at_25) rfl ?_
      show Steps p.tables e below (s₁.setTop (mkF m 26 #[.val (.int i0), .val (.int i1), .val (.int i2), .val (.int i3), .val (.int (f0_3_s0 i0 i1 i2 i3)), .unset, .unset, .unset, .unset, .unset, .unset, .unset, .unset, .unset, .unset, .unset] [(.int i1)])) _
      refine X0.ldcInt hx hown (mvT hZ (hw _ (List.mem_of_getElem? (i := 5) rfl))) (g := (mkF m 26 #[.val (.int i0), .val (.int i1), .val (.int i2), .val (.int i3), .val (.int (f0_3_s0 i0 i1 i2 i3)), .unset, .unset, .unset, .unset, .unset, .unset, .unset, .unset, .unset, .unset, .unset] [(.int i1)])) rfl (hb hby at_26) _ ?_
      show Steps p.tables e below (s₁.setTop (mkF m 28 #[.val (.int i0), .val (.int i1), .val (.int i2), .val (.int i3), .val (.int (f0_3_s0 i0 i1 i2 i3)), .unset, .unset, .unset, .unset, .unset, .unset, .unset, .unset, .unset, .unset, .unset] [(.int (1073741823 : Int32)), (.int i1)])) _
      refine XS.iand X0.here hx rfl (hb hby at_28) rfl ?_
      show Steps p.tables e below (s₁.setTop (mkF m 29 #[.val (.int i0), .val (.int i1), .val (.int i2), .val (.int i3), .val (.int (f0_3_s0 i0 i1 i2 i3)), .unset, .unset, .unset, .unset, .unset, .unset, .unset, .unset, .unset, .unset, .unset] [(.int (i1 &&& (1073741823 : Int32)))])) _
      refine XS.goto X0.here hx rfl (pc0 := 29) (pc' := 36) rfl (hb hby at_29) (by decide) (by decide) ?_
      show Steps p.tables e below (s₁.setTop (mkF m 36 #[.val (.int i0), .val (.int i1), .val (.int i2), .val (.int i3), .val (.int (f0_3_s0 i0 i1 i2 i3)), .unset, .unset, .unset, .unset, .unset, .unset, .unset, .unset, .unset, .unset, .unset] [(.int (i1 &&& (1073741823 : Int32)))])) _
      rw [show (f0_22_s0 i0 i1 i2 i3) = (i1 &&& (1073741823 : Int32)) from (if_neg hc22)] at k
      exact k
  refine Outs.of (U' := s₁.setTop (mkF m 40 #[.val (.int i0), .val (.int i1), .val (.int i2), .val (.int i3), .val (.int (f0_3_s0 i0 i1 i2 i3)), .val (.int (f0_22_s0 i0 i1 i2 i3)), .unset, .unset, .unset, .unset, .unset, .unset, .unset, .unset, .unset, .unset] [(.int (f0_3_s0 i0 i1 i2 i3))])) (fun t k => ?_) ?_
  · refine XS.istore X0.here hx rfl (hb hby at_36) rfl (l' := #[.val (.int i0), .val (.int i1), .val (.int i2), .val (.int i3), .val (.int (f0_3_s0 i0 i1 i2 i3)), .val (.int (f0_22_s0 i0 i1 i2 i3)), .unset, .unset, .unset, .unset, .unset, .unset, .unset, .unset, .unset, .unset]) rfl ?_
    show Steps p.tables e below (s₁.setTop (mkF m 38 #[.val (.int i0), .val (.int i1), .val (.int i2), .val (.int i3), .val (.int (f0_3_s0 i0 i1 i2 i3)), .val (.int (f0_22_s0 i0 i1 i2 i3)), .unset, .unset, .unset, .unset, .unset, .unset, .unset, .unset, .unset, .unset] [])) _
    refine XS.iload X0.here hx rfl (hb hby at_38) rfl ?_
    show Steps p.tables e below (s₁.setTop (mkF m 40 #[.val (.int i0), .val (.int i1), .val (.int i2), .val (.int i3), .val (.int (f0_3_s0 i0 i1 i2 i3)), .val (.int (f0_22_s0 i0 i1 i2 i3)), .unset, .unset, .unset, .unset, .unset, .unset, .unset, .unset, .unset, .unset] [(.int (f0_3_s0 i0 i1 i2 i3))])) _
    exact k
  by_cases hc40 : (f0_3_s0 i0 i1 i2 i3) = (0 : Int32)
  · refine Outs.of (U' := s₁.setTop (mkF m 43 #[.val (.int i0), .val (.int i1), .val (.int i2), .val (.int i3), .val (.int (f0_3_s0 i0 i1 i2 i3)), .val (.int (f0_22_s0 i0 i1 i2 i3)), .unset, .unset, .unset, .unset, .unset, .unset, .unset, .unset, .unset, .unset] [])) (fun t k => ?_) ?_
    · refine XS.ifNo X0.here hx rfl (hb hby at_40) rfl ((if0 _ _).trans (teq hc40).2) ?_
      show Steps p.tables e below (s₁.setTop (mkF m 43 #[.val (.int i0), .val (.int i1), .val (.int i2), .val (.int i3), .val (.int (f0_3_s0 i0 i1 i2 i3)), .val (.int (f0_22_s0 i0 i1 i2 i3)), .unset, .unset, .unset, .unset, .unset, .unset, .unset, .unset, .unset, .unset] [])) _
      exact k
    refine Outs.of (U' := s₁.setTop (mkF m 47 #[.val (.int i0), .val (.int i1), .val (.int i2), .val (.int i3), .val (.int (f0_3_s0 i0 i1 i2 i3)), .val (.int (f0_22_s0 i0 i1 i2 i3)), .unset, .unset, .unset, .unset, .unset, .unset, .unset, .unset, .unset, .unset] [(.int i2), (.int (f0_22_s0 i0 i1 i2 i3)), (.int (0 : Int32))])) (fun t k => ?_) ?_
    · refine XS.iconst X0.here hx rfl (hb hby at_43) ?_
      show Steps p.tables e below (s₁.setTop (mkF m 44 #[.val (.int i0), .val (.int i1), .val (.int i2), .val (.int i3), .val (.int (f0_3_s0 i0 i1 i2 i3)), .val (.int (f0_22_s0 i0 i1 i2 i3)), .unset, .unset, .unset, .unset, .unset, .unset, .unset, .unset, .unset, .unset] [(.int (0 : Int32))])) _
      refine XS.iload X0.here hx rfl (hb hby at_44) rfl ?_
      show Steps p.tables e below (s₁.setTop (mkF m 46 #[.val (.int i0), .val (.int i1), .val (.int i2), .val (.int i3), .val (.int (f0_3_s0 i0 i1 i2 i3)), .val (.int (f0_22_s0 i0 i1 i2 i3)), .unset, .unset, .unset, .unset, .unset, .unset, .unset, .unset, .unset, .unset] [(.int (f0_22_s0 i0 i1 i2 i3)), (.int (0 : Int32))])) _
      refine XS.iloadN X0.here hx rfl (hb hby at_46) rfl ?_
      show Steps p.tables e below (s₁.setTop (mkF m 47 #[.val (.int i0), .val (.int i1), .val (.int i2), .val (.int i3), .val (.int (f0_3_s0 i0 i1 i2 i3)), .val (.int (f0_22_s0 i0 i1 i2 i3)), .unset, .unset, .unset, .unset, .unset, .unset, .unset, .unset, .unset, .unset] [(.int i2), (.int (f0_22_s0 i0 i1 i2 i3)), (.int (0 : Int32))])) _
      exact k
    obtain ⟨_, _, ⟨T1, L1, k1, n1⟩, -, X1, ⟨Lc1, hQ1, l1, y1, z1⟩, st1⟩ := Jvm.LawKit.callS X0 hx (y := (⟨"com/example/ratatoskr/ratatoskr/Choices", "count", "(III)J"⟩ : MethodName)) hown (mvT hZ (hw _ (List.mem_of_getElem? (i := 1) rfl))) (mvT hZ (hw _ (List.mem_of_getElem? (i := 2) rfl))) (mvT hZ (hw _ (List.mem_of_getElem? (i := 3) rfl))) (mvT hZ (hw _ (List.mem_of_getElem? (i := 4) rfl))) (by decide) (backOf (W := 0) (rm1 l Z a0 hw [] (0 : Int32) (f0_22_s0 i0 i1 i2 i3) i2 h0 n0 (own_rk i0 i1 i2 i3)) hZ (hw _ (List.mem_of_getElem? (i := 4) rfl)) (hw _ (List.mem_of_getElem? (i := 3) rfl)) (by decide) (by decide)) (g := (mkF m 47 #[.val (.int i0), .val (.int i1), .val (.int i2), .val (.int i3), .val (.int (f0_3_s0 i0 i1 i2 i3)), .val (.int (f0_22_s0 i0 i1 i2 i3)), .unset, .unset, .unset, .unset, .unset, .unset, .unset, .unset, .unset, .unset] [(.int i2), (.int (f0_22_s0 i0 i1 i2 i3)), (.int (0 : Int32))])) rfl (by rw [hml]; rfl) (argsL := [(.int (0 : Int32)), (.int (f0_22_s0 i0 i1 i2 i3)), (.int i2)]) (rest := []) (lenOf pd_0 rfl) rfl (by show 2 * 0 + _ ≤ _; exact Nat.le_of_eq rfl) (hb hby at_47) (fun _ _ => ⟨rfl, e0, (by decide : 0 + 0 ≤ _), (by decide : 0 + 0 ≤ _)⟩)
    dsimp only [Pt.U, Pt.locs, Pt.cells, Pt.slots] at X1 l1 y1 z1 st1 hQ1
    subst l1 y1 z1
    obtain ⟨rfl, N1q, e1⟩ := hQ1
    have N1 := Fr.app N0 N1q
    refine Outs.of st1 ?_
    show Outs p e below s _ _ _ (T1.setTop (mkF m 50 #[.val (.int i0), .val (.int i1), .val (.int i2), .val (.int i3), .val (.int (f0_3_s0 i0 i1 i2 i3)), .val (.int (f0_22_s0 i0 i1 i2 i3)), .unset, .unset, .unset, .unset, .unset, .unset, .unset, .unset, .unset, .unset] [(.long (F_f1 (0 : Int32) (f0_22_s0 i0 i1 i2 i3) i2))]))
    refine Outs.of (U' := T1.setTop (mkF m 64 #[.val (.int i0), .val (.int i1), .val (.int i2), .val (.int i3), .val (.int (f0_3_s0 i0 i1 i2 i3)), .val (.int (f0_22_s0 i0 i1 i2 i3)), .val (.long (F_f1 (0 : Int32) (f0_22_s0 i0 i1 i2 i3) i2)), .second, .unset, .unset, .unset, .unset, .unset, .unset, .unset, .unset] [(.long (f0_56_s0 i0 i1 i2 i3)), (.long (F_f1 (0 : Int32) (f0_22_s0 i0 i1 i2 i3) i2))])) (fun t k => ?_) ?_
    · refine XS.lstore X1.here hx rfl (hb hby at_50) rfl (l' := #[.val (.int i0), .val (.int i1), .val (.int i2), .val (.int i3), .val (.int (f0_3_s0 i0 i1 i2 i3)), .val (.int (f0_22_s0 i0 i1 i2 i3)), .val (.long (F_f1 (0 : Int32) (f0_22_s0 i0 i1 i2 i3) i2)), .second, .unset, .unset, .unset, .unset, .unset, .unset, .unset, .unset]) rfl ?_
      show Steps p.tables e below (T1.setTop (mkF m 52 #[.val (.int i0), .val (.int i1), .val (.int i2), .val (.int i3), .val (.int (f0_3_s0 i0 i1 i2 i3)), .val (.int (f0_22_s0 i0 i1 i2 i3)), .val (.long (F_f1 (0 : Int32) (f0_22_s0 i0 i1 i2 i3) i2)), .second, .unset, .unset, .unset, .unset, .unset, .unset, .unset, .unset] [])) _
      refine XS.lload X1.here hx rfl (hb hby at_52) rfl ?_
      show Steps p.tables e below (T1.setTop (mkF m 54 #[.val (.int i0), .val (.int i1), .val (.int i2), .val (.int i3), .val (.int (f0_3_s0 i0 i1 i2 i3)), .val (.int (f0_22_s0 i0 i1 i2 i3)), .val (.long (F_f1 (0 : Int32) (f0_22_s0 i0 i1 i2 i3) i2)), .second, .unset, .unset, .unset, .unset, .unset, .unset, .unset, .unset] [(.long (F_f1 (0 : Int32) (f0_22_s0 i0 i1 i2 i3) i2))])) _
      refine XS.iload X1.here hx rfl (hb hby at_54) rfl ?_
      show Steps p.tables e below (T1.setTop (mkF m 56 #[.val (.int i0), .val (.int i1), .val (.int i2), .val (.int i3), .val (.int (f0_3_s0 i0 i1 i2 i3)), .val (.int (f0_22_s0 i0 i1 i2 i3)), .val (.long (F_f1 (0 : Int32) (f0_22_s0 i0 i1 i2 i3) i2)), .second, .unset, .unset, .unset, .unset, .unset, .unset, .unset, .unset] [(.int (f0_22_s0 i0 i1 i2 i3)), (.long (F_f1 (0 : Int32) (f0_22_s0 i0 i1 i2 i3) i2))])) _
      by_cases hc56 : (0 : Int32) < (f0_22_s0 i0 i1 i2 i3)
      · refine XS.ifNo X1.here hx rfl (hb hby at_56) rfl ((if0 _ _).trans (tlt hc56).2.2.2) ?_
        show Steps p.tables e below (T1.setTop (mkF m 59 #[.val (.int i0), .val (.int i1), .val (.int i2), .val (.int i3), .val (.int (f0_3_s0 i0 i1 i2 i3)), .val (.int (f0_22_s0 i0 i1 i2 i3)), .val (.long (F_f1 (0 : Int32) (f0_22_s0 i0 i1 i2 i3) i2)), .second, .unset, .unset, .unset, .unset, .unset, .unset, .unset, .unset] [(.long (F_f1 (0 : Int32) (f0_22_s0 i0 i1 i2 i3) i2))])) _
        refine XS.lconst X1.here hx rfl (hb hby at_59) ?_
        show Steps p.tables e below (T1.setTop (mkF m 60 #[.val (.int i0), .val (.int i1), .val (.int i2), .val (.int i3), .val (.int (f0_3_s0 i0 i1 i2 i3)), .val (.int (f0_22_s0 i0 i1 i2 i3)), .val (.long (F_f1 (0 : Int32) (f0_22_s0 i0 i1 i2 i3) i2)), .second, .unset, .unset, .unset, .unset, .unset, .unset, .unset, .unset] [(.long (0 : Int64)), (.long (F_f1 (0 : Int32) (f0_22_s0 i0 i1 i2 i3) i2))])) _
        refine XS.goto X1.here hx rfl (pc0 := 60) (pc' := 64) rfl (hb hby at_60) (by decide) (by decide) ?_
        show Steps p.tables e below (T1.setTop (mkF m 64 #[.val (.int i0), .val (.int i1), .val (.int i2), .val (.int i3), .val (.int (f0_3_s0 i0 i1 i2 i3)), .val (.int (f0_22_s0 i0 i1 i2 i3)), .val (.long (F_f1 (0 : Int32) (f0_22_s0 i0 i1 i2 i3) i2)), .second, .unset, .unset, .unset, .unset, .unset, .unset, .unset, .unset] [(.long (0 : Int64)), (.long (F_f1 (0 : Int32) (f0_22_s0 i0 i1 i2 i3) i2))])) _
        rw [show (f0_56_s0 i0 i1 i2 i3) = (0 : Int64) from (if_pos hc56)] at k
        exact k
      · refine XS.ifYes X1.here hx rfl (pc0 := 56) (pc' := 63) rfl (hb hby at_56) rfl ((if0 _ _).trans (flt hc56).2.2.2) (by decide) (by decide) ?_
        show Steps p.tables e below (T1.setTop (mkF m 63 #[.val (.int i0), .val (.int i1), .val (.int i2), .val (.int i3), .val (.int (f0_3_s0 i0 i1 i2 i3)), .val (.int (f0_22_s0 i0 i1 i2 i3)), .val (.long (F_f1 (0 : Int32) (f0_22_s0 i0 i1 i2 i3) i2)), .second, .unset, .unset, .unset, .unset, .unset, .unset, .unset, .unset] [(.long (F_f1 (0 : Int32) (f0_22_s0 i0 i1 i2 i3) i2))])) _
        refine XS.lconst X1.here hx rfl (hb hby at_63) ?_
        show Steps p.tables e below (T1.setTop (mkF m 64 #[.val (.int i0), .val (.int i1), .val (.int i2), .val (.int i3), .val (.int (f0_3_s0 i0 i1 i2 i3)), .val (.int (f0_22_s0 i0 i1 i2 i3)), .val (.long (F_f1 (0 : Int32) (f0_22_s0 i0 i1 i2 i3) i2)), .second, .unset, .unset, .unset, .unset, .unset, .unset, .unset, .unset] [(.long (1 : Int64)), (.long (F_f1 (0 : Int32) (f0_22_s0 i0 i1 i2 i3) i2))])) _
        rw [show (f0_56_s0 i0 i1 i2 i3) = (1 : Int64) from (if_neg hc56)] at k
        exact k
    refine Outs.of (U' := T1.setTop (mkF m 73 #[.val (.int i0), .val (.int i1), .val (.int i2), .val (.int i3), .val (.int (f0_3_s0 i0 i1 i2 i3)), .val (.int (f0_22_s0 i0 i1 i2 i3)), .val (.long (F_f1 (0 : Int32) (f0_22_s0 i0 i1 i2 i3) i2)), .second, .unset, .unset, .unset, .unset, .unset, .unset, .unset, .unset] [(.int (f0_65_s0 i0 i1 i2 i3))])) (fun t k => ?_) ?_
    · refine XS.lcmp X1.here hx rfl (hb hby at_64) rfl ?_
      show Steps p.tables e below (T1.setTop (mkF m 65 #[.val (.int i0), .val (.int i1), .val (.int i2), .val (.int i3), .val (.int (f0_3_s0 i0 i1 i2 i3)), .val (.int (f0_22_s0 i0 i1 i2 i3)), .val (.long (F_f1 (0 : Int32) (f0_22_s0 i0 i1 i2 i3) i2)), .second, .unset, .unset, .unset, .unset, .unset, .unset, .unset, .unset] [(.int (lcmpW (F_f1 (0 : Int32) (f0_22_s0 i0 i1 i2 i3) i2) (f0_56_s0 i0 i1 i2 i3)))])) _
      by_cases hc65 : (F_f1 (0 : Int32) (f0_22_s0 i0 i1 i2 i3) i2) = (f0_56_s0 i0 i1 i2 i3)
      · refine XS.ifNo X1.here hx rfl (hb hby at_65) rfl ((if0 _ _).trans (teq ((lw_eq _ _).mpr hc65)).2) ?_
        show Steps p.tables e below (T1.setTop (mkF m 68 #[.val (.int i0), .val (.int i1), .val (.int i2), .val (.int i3), .val (.int (f0_3_s0 i0 i1 i2 i3)), .val (.int (f0_22_s0 i0 i1 i2 i3)), .val (.long (F_f1 (0 : Int32) (f0_22_s0 i0 i1 i2 i3) i2)), .second, .unset, .unset, .unset, .unset, .unset, .unset, .unset, .unset] [])) _
        refine XS.iconst X1.here hx rfl (hb hby at_68) ?_
        show Steps p.tables e below (T1.setTop (mkF m 69 #[.val (.int i0), .val (.int i1), .val (.int i2), .val (.int i3), .val (.int (f0_3_s0 i0 i1 i2 i3)), .val (.int (f0_22_s0 i0 i1 i2 i3)), .val (.long (F_f1 (0 : Int32) (f0_22_s0 i0 i1 i2 i3) i2)), .second, .unset, .unset, .unset, .unset, .unset, .unset, .unset, .unset] [(.int (1 : Int32))])) _
        refine XS.goto X1.here hx rfl (pc0 := 69) (pc' := 73) rfl (hb hby at_69) (by decide) (by decide) ?_
        show Steps p.tables e below (T1.setTop (mkF m 73 #[.val (.int i0), .val (.int i1), .val (.int i2), .val (.int i3), .val (.int (f0_3_s0 i0 i1 i2 i3)), .val (.int (f0_22_s0 i0 i1 i2 i3)), .val (.long (F_f1 (0 : Int32) (f0_22_s0 i0 i1 i2 i3) i2)), .second, .unset, .unset, .unset, .unset, .unset, .unset, .unset, .unset] [(.int (1 : Int32))])) _
        rw [show (f0_65_s0 i0 i1 i2 i3) = (1 : Int32) from (if_pos hc65)] at k
        exact k
      · refine XS.ifYes X1.here hx rfl (pc0 := 65) (pc' := 72) rfl (hb hby at_65) rfl ((if0 _ _).trans (feq (fun q_ => hc65 ((lw_eq _ _).mp q_))).2) (by decide) (by decide) ?_
        show Steps p.tables e below (T1.setTop (mkF m 72 #[.val (.int i0), .val (.int i1), .val (.int i2), .val (.int i3), .val (.int (f0_3_s0 i0 i1 i2 i3)), .val (.int (f0_22_s0 i0 i1 i2 i3)), .val (.long (F_f1 (0 : Int32) (f0_22_s0 i0 i1 i2 i3) i2)), .second, .unset, .unset, .unset, .unset, .unset, .unset, .unset, .unset] [])) _
        refine XS.iconst X1.here hx rfl (hb hby at_72) ?_
        show Steps p.tables e below (T1.setTop (mkF m 73 #[.val (.int i0), .val (.int i1), .val (.int i2), .val (.int i3), .val (.int (f0_3_s0 i0 i1 i2 i3)), .val (.int (f0_22_s0 i0 i1 i2 i3)), .val (.long (F_f1 (0 : Int32) (f0_22_s0 i0 i1 i2 i3) i2)), .second, .unset, .unset, .unset, .unset, .unset, .unset, .unset, .unset] [(.int (0 : Int32))])) _
        rw [show (f0_65_s0 i0 i1 i2 i3) = (0 : Int32) from (if_neg hc65)] at k
        exact k
    exact Outs.retN (t := .boolean) (z := (f0_65_s0 i0 i1 i2 i3)) X1 hx hret (by simp) (hb hby at_73) hlk (by decide) (by decide) e1 ⟨congrArg (fun z_ => some (Value.int z_)) (law_65_s0_1 i0 i1 i2 i3 hc40), N1⟩
  · refine Outs.of (U' := s₁.setTop (mkF m 74 #[.val (.int i0), .val (.int i1), .val (.int i2), .val (.int i3), .val (.int (f0_3_s0 i0 i1 i2 i3)), .val (.int (f0_22_s0 i0 i1 i2 i3)), .unset, .unset, .unset, .unset, .unset, .unset, .unset, .unset, .unset, .unset] [])) (fun t k => ?_) ?_
    · refine XS.ifYes X0.here hx rfl (pc0 := 40) (pc' := 74) rfl (hb hby at_40) rfl ((if0 _ _).trans (feq hc40).2) (by decide) (by decide) ?_
      show Steps p.tables e below (s₁.setTop (mkF m 74 #[.val (.int i0), .val (.int i1), .val (.int i2), .val (.int i3), .val (.int (f0_3_s0 i0 i1 i2 i3)), .val (.int (f0_22_s0 i0 i1 i2 i3)), .unset, .unset, .unset, .unset, .unset, .unset, .unset, .unset, .unset, .unset] [])) _
      exact k
    refine Outs.of (U' := s₁.setTop (mkF m 78 #[.val (.int i0), .val (.int i1), .val (.int i2), .val (.int i3), .val (.int (f0_3_s0 i0 i1 i2 i3)), .val (.int (f0_22_s0 i0 i1 i2 i3)), .unset, .unset, .unset, .unset, .unset, .unset, .unset, .unset, .unset, .unset] [(.int i2), (.int (0 : Int32)), (.int (f0_3_s0 i0 i1 i2 i3))])) (fun t k => ?_) ?_
    · refine XS.iload X0.here hx rfl (hb hby at_74) rfl ?_
      show Steps p.tables e below (s₁.setTop (mkF m 76 #[.val (.int i0), .val (.int i1), .val (.int i2), .val (.int i3), .val (.int (f0_3_s0 i0 i1 i2 i3)), .val (.int (f0_22_s0 i0 i1 i2 i3)), .unset, .unset, .unset, .unset, .unset, .unset, .unset, .unset, .unset, .unset] [(.int (f0_3_s0 i0 i1 i2 i3))])) _
      refine XS.iconst X0.here hx rfl (hb hby at_76) ?_
      show Steps p.tables e below (s₁.setTop (mkF m 77 #[.val (.int i0), .val (.int i1), .val (.int i2), .val (.int i3), .val (.int (f0_3_s0 i0 i1 i2 i3)), .val (.int (f0_22_s0 i0 i1 i2 i3)), .unset, .unset, .unset, .unset, .unset, .unset, .unset, .unset, .unset, .unset] [(.int (0 : Int32)), (.int (f0_3_s0 i0 i1 i2 i3))])) _
      refine XS.iloadN X0.here hx rfl (hb hby at_77) rfl ?_
      show Steps p.tables e below (s₁.setTop (mkF m 78 #[.val (.int i0), .val (.int i1), .val (.int i2), .val (.int i3), .val (.int (f0_3_s0 i0 i1 i2 i3)), .val (.int (f0_22_s0 i0 i1 i2 i3)), .unset, .unset, .unset, .unset, .unset, .unset, .unset, .unset, .unset, .unset] [(.int i2), (.int (0 : Int32)), (.int (f0_3_s0 i0 i1 i2 i3))])) _
      exact k
    obtain ⟨_, _, ⟨T2, L2, k2, n2⟩, -, X2, ⟨Lc2, hQ2, l2, y2, z2⟩, st2⟩ := Jvm.LawKit.callS X0 hx (y := (⟨"com/example/ratatoskr/ratatoskr/Choices", "count", "(III)J"⟩ : MethodName)) hown (mvT hZ (hw _ (List.mem_of_getElem? (i := 1) rfl))) (mvT hZ (hw _ (List.mem_of_getElem? (i := 2) rfl))) (mvT hZ (hw _ (List.mem_of_getElem? (i := 3) rfl))) (mvT hZ (hw _ (List.mem_of_getElem? (i := 4) rfl))) (by decide) (backOf (W := 0) (rm1 l Z a0 hw [] (f0_3_s0 i0 i1 i2 i3) (0 : Int32) i2 h0 n0 (by decide)) hZ (hw _ (List.mem_of_getElem? (i := 4) rfl)) (hw _ (List.mem_of_getElem? (i := 3) rfl)) (by decide) (by decide)) (g := (mkF m 78 #[.val (.int i0), .val (.int i1), .val (.int i2), .val (.int i3), .val (.int (f0_3_s0 i0 i1 i2 i3)), .val (.int (f0_22_s0 i0 i1 i2 i3)), .unset, .unset, .unset, .unset, .unset, .unset, .unset, .unset, .unset, .unset] [(.int i2), (.int (0 : Int32)), (.int (f0_3_s0 i0 i1 i2 i3))])) rfl (by rw [hml]; rfl) (argsL := [(.int (f0_3_s0 i0 i1 i2 i3)), (.int (0 : Int32)), (.int i2)]) (rest := []) (lenOf pd_0 rfl) rfl (by show 2 * 0 + _ ≤ _; exact Nat.le_of_eq rfl) (hb hby at_78) (fun _ _ => ⟨rfl, e0, (by decide : 0 + 0 ≤ _), (by decide : 0 + 0 ≤ _)⟩)
    dsimp only [Pt.U, Pt.locs, Pt.cells, Pt.slots] at X2 l2 y2 z2 st2 hQ2
    subst l2 y2 z2
    obtain ⟨rfl, N2q, e2⟩ := hQ2
    have N2 := Fr.app N0 N2q
    refine Outs.of st2 ?_
    show Outs p e below s _ _ _ (T2.setTop (mkF m 81 #[.val (.int i0), .val (.int i1), .val (.int i2), .val (.int i3), .val (.int (f0_3_s0 i0 i1 i2 i3)), .val (.int (f0_22_s0 i0 i1 i2 i3)), .unset, .unset, .unset, .unset, .unset, .unset, .unset, .unset, .unset, .unset] [(.long (F_f1 (f0_3_s0 i0 i1 i2 i3) (0 : Int32) i2))]))
    refine Outs.of (U' := T2.setTop (mkF m 85 #[.val (.int i0), .val (.int i1), .val (.int i2), .val (.int i3), .val (.int (f0_3_s0 i0 i1 i2 i3)), .val (.int (f0_22_s0 i0 i1 i2 i3)), .val (.long (F_f1 (f0_3_s0 i0 i1 i2 i3) (0 : Int32) i2)), .second, .unset, .unset, .unset, .unset, .unset, .unset, .unset, .unset] [(.int i2), (.int (1 : Int32))])) (fun t k => ?_) ?_
    · refine XS.lstore X2.here hx rfl (hb hby at_81) rfl (l' := #[.val (.int i0), .val (.int i1), .val (.int i2), .val (.int i3), .val (.int (f0_3_s0 i0 i1 i2 i3)), .val (.int (f0_22_s0 i0 i1 i2 i3)), .val (.long (F_f1 (f0_3_s0 i0 i1 i2 i3) (0 : Int32) i2)), .second, .unset, .unset, .unset, .unset, .unset, .unset, .unset, .unset]) rfl ?_
      show Steps p.tables e below (T2.setTop (mkF m 83 #[.val (.int i0), .val (.int i1), .val (.int i2), .val (.int i3), .val (.int (f0_3_s0 i0 i1 i2 i3)), .val (.int (f0_22_s0 i0 i1 i2 i3)), .val (.long (F_f1 (f0_3_s0 i0 i1 i2 i3) (0 : Int32) i2)), .second, .unset, .unset, .unset, .unset, .unset, .unset, .unset, .unset] [])) _
      refine XS.iconst X2.here hx rfl (hb hby at_83) ?_
      show Steps p.tables e below (T2.setTop (mkF m 84 #[.val (.int i0), .val (.int i1), .val (.int i2), .val (.int i3), .val (.int (f0_3_s0 i0 i1 i2 i3)), .val (.int (f0_22_s0 i0 i1 i2 i3)), .val (.long (F_f1 (f0_3_s0 i0 i1 i2 i3) (0 : Int32) i2)), .second, .unset, .unset, .unset, .unset, .unset, .unset, .unset, .unset] [(.int (1 : Int32))])) _
      refine XS.iloadN X2.here hx rfl (hb hby at_84) rfl ?_
      show Steps p.tables e below (T2.setTop (mkF m 85 #[.val (.int i0), .val (.int i1), .val (.int i2), .val (.int i3), .val (.int (f0_3_s0 i0 i1 i2 i3)), .val (.int (f0_22_s0 i0 i1 i2 i3)), .val (.long (F_f1 (f0_3_s0 i0 i1 i2 i3) (0 : Int32) i2)), .second, .unset, .unset, .unset, .unset, .unset, .unset, .unset, .unset] [(.int i2), (.int (1 : Int32))])) _
      exact k
    by_cases hc85 : i2 < (1 : Int32)
    · refine Outs.of (U' := T2.setTop (mkF m 103 #[.val (.int i0), .val (.int i1), .val (.int i2), .val (.int i3), .val (.int (f0_3_s0 i0 i1 i2 i3)), .val (.int (f0_22_s0 i0 i1 i2 i3)), .val (.long (F_f1 (f0_3_s0 i0 i1 i2 i3) (0 : Int32) i2)), .second, .unset, .unset, .unset, .unset, .unset, .unset, .unset, .unset] [])) (fun t k => ?_) ?_
      · refine XS.icmpYes X2.here hx rfl (pc0 := 85) (pc' := 103) rfl (hb hby at_85) rfl (tlt hc85).2.2.1 (by decide) (by decide) ?_
        show Steps p.tables e below (T2.setTop (mkF m 103 #[.val (.int i0), .val (.int i1), .val (.int i2), .val (.int i3), .val (.int (f0_3_s0 i0 i1 i2 i3)), .val (.int (f0_22_s0 i0 i1 i2 i3)), .val (.long (F_f1 (f0_3_s0 i0 i1 i2 i3) (0 : Int32) i2)), .second, .unset, .unset, .unset, .unset, .unset, .unset, .unset, .unset] [])) _
        exact k
      refine Outs.of (U' := T2.setTop (mkF m 106 #[.val (.int i0), .val (.int i1), .val (.int i2), .val (.int i3), .val (.int (f0_3_s0 i0 i1 i2 i3)), .val (.int (f0_22_s0 i0 i1 i2 i3)), .val (.long (F_f1 (f0_3_s0 i0 i1 i2 i3) (0 : Int32) i2)), .second, .unset, .unset, .unset, .unset, .unset, .unset, .unset, .unset] [(.int i2), (.long (F_f1 (f0_3_s0 i0 i1 i2 i3) (0 : Int32) i2))])) (fun t k => ?_) ?_
      · refine XS.lload X2.here hx rfl (hb hby at_103) rfl ?_
        show Steps p.tables e below (T2.setTop (mkF m 105 #[.val (.int i0), .val (.int i1), .val (.int i2), .val (.int i3), .val (.int (f0_3_s0 i0 i1 i2 i3)), .val (.int (f0_22_s0 i0 i1 i2 i3)), .val (.long (F_f1 (f0_3_s0 i0 i1 i2 i3) (0 : Int32) i2)), .second, .unset, .unset, .unset, .unset, .unset, .unset, .unset, .unset] [(.long (F_f1 (f0_3_s0 i0 i1 i2 i3) (0 : Int32) i2))])) _
        refine XS.iloadN X2.here hx rfl (hb hby at_105) rfl ?_
        show Steps p.tables e below (T2.setTop (mkF m 106 #[.val (.int i0), .val (.int i1), .val (.int i2), .val (.int i3), .val (.int (f0_3_s0 i0 i1 i2 i3)), .val (.int (f0_22_s0 i0 i1 i2 i3)), .val (.long (F_f1 (f0_3_s0 i0 i1 i2 i3) (0 : Int32) i2)), .second, .unset, .unset, .unset, .unset, .unset, .unset, .unset, .unset] [(.int i2), (.long (F_f1 (f0_3_s0 i0 i1 i2 i3) (0 : Int32) i2))])) _
        exact k
      obtain ⟨_, _, ⟨T3, L3, k3, n3⟩, -, X3, ⟨Lc3, hQ3, l3, y3, z3⟩, st3⟩ := Jvm.LawKit.callS X2 hx (y := (⟨"com/example/ratatoskr/ratatoskr/ChoicesCountPinLaw", "over", "(JI)Z"⟩ : MethodName)) hown (mvT hZ (hw _ (List.mem_of_getElem? (i := 6) rfl))) (mvT hZ (hw _ (List.mem_of_getElem? (i := 7) rfl))) (mvT hZ (hw _ (List.mem_of_getElem? (i := 8) rfl))) (mvT hZ (hw _ (List.mem_of_getElem? (i := 9) rfl))) (by decide) (backOf (W := 0) (rm2 l Z a0 hw [] (F_f1 (f0_3_s0 i0 i1 i2 i3) (0 : Int32) i2) i2 h0 n0 ) hZ (hw _ (List.mem_of_getElem? (i := 9) rfl)) (hw _ (List.mem_of_getElem? (i := 8) rfl)) (by decide) (by decide)) (g := (mkF m 106 #[.val (.int i0), .val (.int i1), .val (.int i2), .val (.int i3), .val (.int (f0_3_s0 i0 i1 i2 i3)), .val (.int (f0_22_s0 i0 i1 i2 i3)), .val (.long (F_f1 (f0_3_s0 i0 i1 i2 i3) (0 : Int32) i2)), .second, .unset, .unset, .unset, .unset, .unset, .unset, .unset, .unset] [(.int i2), (.long (F_f1 (f0_3_s0 i0 i1 i2 i3) (0 : Int32) i2))])) rfl (by rw [hml]; rfl) (argsL := [(.long (F_f1 (f0_3_s0 i0 i1 i2 i3) (0 : Int32) i2)), (.int i2)]) (rest := []) (lenOf pd_1 rfl) rfl (by show 2 * 0 + _ ≤ _; exact Nat.le_of_eq rfl) (hb hby at_106) (fun _ _ => ⟨rfl, e2, (by decide : 0 + 0 ≤ _), (by decide : 0 + 0 ≤ _)⟩)
      dsimp only [Pt.U, Pt.locs, Pt.cells, Pt.slots] at X3 l3 y3 z3 st3 hQ3
      subst l3 y3 z3
      obtain ⟨rfl, N3q, e3⟩ := hQ3
      have N3 := Fr.app N2 N3q
      refine Outs.of st3 ?_
      show Outs p e below s _ _ _ (T3.setTop (mkF m 109 #[.val (.int i0), .val (.int i1), .val (.int i2), .val (.int i3), .val (.int (f0_3_s0 i0 i1 i2 i3)), .val (.int (f0_22_s0 i0 i1 i2 i3)), .val (.long (F_f1 (f0_3_s0 i0 i1 i2 i3) (0 : Int32) i2)), .second, .unset, .unset, .unset, .unset, .unset, .unset, .unset, .unset] [(.int (F_f2 (F_f1 (f0_3_s0 i0 i1 i2 i3) (0 : Int32) i2) i2))]))
      refine Outs.of (U' := T3.setTop (mkF m 116 #[.val (.int i0), .val (.int i1), .val (.int i2), .val (.int i3), .val (.int (f0_3_s0 i0 i1 i2 i3)), .val (.int (f0_22_s0 i0 i1 i2 i3)), .val (.long (F_f1 (f0_3_s0 i0 i1 i2 i3) (0 : Int32) i2)), .second, .val (.int (F_f2 (F_f1 (f0_3_s0 i0 i1 i2 i3) (0 : Int32) i2) i2)), .unset, .unset, .unset, .unset, .unset, .unset, .unset] [(.int i2), (.int (f0_22_s0 i0 i1 i2 i3)), (.int (f0_3_s0 i0 i1 i2 i3))])) (fun t k => ?_) ?_
      · refine XS.istore X3.here hx rfl (hb hby at_109) rfl (l' := #[.val (.int i0), .val (.int i1), .val (.int i2), .val (.int i3), .val (.int (f0_3_s0 i0 i1 i2 i3)), .val (.int (f0_22_s0 i0 i1 i2 i3)), .val (.long (F_f1 (f0_3_s0 i0 i1 i2 i3) (0 : Int32) i2)), .second, .val (.int (F_f2 (F_f1 (f0_3_s0 i0 i1 i2 i3) (0 : Int32) i2) i2)), .unset, .unset, .unset, .unset, .unset, .unset, .unset]) rfl ?_
        show Steps p.tables e below (T3.setTop (mkF m 111 #[.val (.int i0), .val (.int i1), .val (.int i2), .val (.int i3), .val (.int (f0_3_s0 i0 i1 i2 i3)), .val (.int (f0_22_s0 i0 i1 i2 i3)), .val (.long (F_f1 (f0_3_s0 i0 i1 i2 i3) (0 : Int32) i2)), .second, .val (.int (F_f2 (F_f1 (f0_3_s0 i0 i1 i2 i3) (0 : Int32) i2) i2)), .unset, .unset, .unset, .unset, .unset, .unset, .unset] [])) _
        refine XS.iload X3.here hx rfl (hb hby at_111) rfl ?_
        show Steps p.tables e below (T3.setTop (mkF m 113 #[.val (.int i0), .val (.int i1), .val (.int i2), .val (.int i3), .val (.int (f0_3_s0 i0 i1 i2 i3)), .val (.int (f0_22_s0 i0 i1 i2 i3)), .val (.long (F_f1 (f0_3_s0 i0 i1 i2 i3) (0 : Int32) i2)), .second, .val (.int (F_f2 (F_f1 (f0_3_s0 i0 i1 i2 i3) (0 : Int32) i2) i2)), .unset, .unset, .unset, .unset, .unset, .unset, .unset] [(.int (f0_3_s0 i0 i1 i2 i3))])) _
        refine XS.iload X3.here hx rfl (hb hby at_113) rfl ?_
        show Steps p.tables e below (T3.setTop (mkF m 115 #[.val (.int i0), .val (.int i1), .val (.int i2), .val (.int i3), .val (.int (f0_3_s0 i0 i1 i2 i3)), .val (.int (f0_22_s0 i0 i1 i2 i3)), .val (.long (F_f1 (f0_3_s0 i0 i1 i2 i3) (0 : Int32) i2)), .second, .val (.int (F_f2 (F_f1 (f0_3_s0 i0 i1 i2 i3) (0 : Int32) i2) i2)), .unset, .unset, .unset, .unset, .unset, .unset, .unset] [(.int (f0_22_s0 i0 i1 i2 i3)), (.int (f0_3_s0 i0 i1 i2 i3))])) _
        refine XS.iloadN X3.here hx rfl (hb hby at_115) rfl ?_
        show Steps p.tables e below (T3.setTop (mkF m 116 #[.val (.int i0), .val (.int i1), .val (.int i2), .val (.int i3), .val (.int (f0_3_s0 i0 i1 i2 i3)), .val (.int (f0_22_s0 i0 i1 i2 i3)), .val (.long (F_f1 (f0_3_s0 i0 i1 i2 i3) (0 : Int32) i2)), .second, .val (.int (F_f2 (F_f1 (f0_3_s0 i0 i1 i2 i3) (0 : Int32) i2) i2)), .unset, .unset, .unset, .unset, .unset, .unset, .unset] [(.int i2), (.int (f0_22_s0 i0 i1 i2 i3)), (.int (f0_3_s0 i0 i1 i2 i3))])) _
        exact k
      obtain ⟨_, _, ⟨T4, L4, k4, n4⟩, -, X4, ⟨Lc4, hQ4, l4, y4, z4⟩, st4⟩ := Jvm.LawKit.callS X3 hx (y := (⟨"com/example/ratatoskr/ratatoskr/Choices", "count", "(III)J"⟩ : MethodName)) hown (mvT hZ (hw _ (List.mem_of_getElem? (i := 1) rfl))) (mvT hZ (hw _ (List.mem_of_getElem? (i := 2) rfl))) (mvT hZ (hw _ (List.mem_of_getElem? (i := 3) rfl))) (mvT hZ (hw _ (List.mem_of_getElem? (i := 4) rfl))) (by decide) (backOf (W := 0) (rm1 l Z a0 hw [] (f0_3_s0 i0 i1 i2 i3) (f0_22_s0 i0 i1 i2 i3) i2 h0 n0 (own_rk i0 i1 i2 i3)) hZ (hw _ (List.mem_of_getElem? (i := 4) rfl)) (hw _ (List.mem_of_getElem? (i := 3) rfl)) (by decide) (by decide)) (g := (mkF m 116 #[.val (.int i0), .val (.int i1), .val (.int i2), .val (.int i3), .val (.int (f0_3_s0 i0 i1 i2 i3)), .val (.int (f0_22_s0 i0 i1 i2 i3)), .val (.long (F_f1 (f0_3_s0 i0 i1 i2 i3) (0 : Int32) i2)), .second, .val (.int (F_f2 (F_f1 (f0_3_s0 i0 i1 i2 i3) (0 : Int32) i2) i2)), .unset, .unset, .unset, .unset, .unset, .unset, .unset] [(.int i2), (.int (f0_22_s0 i0 i1 i2 i3)), (.int (f0_3_s0 i0 i1 i2 i3))])) rfl (by rw [hml]; rfl) (argsL := [(.int (f0_3_s0 i0 i1 i2 i3)), (.int (f0_22_s0 i0 i1 i2 i3)), (.int i2)]) (rest := []) (lenOf pd_0 rfl) rfl (by show 2 * 0 + _ ≤ _; exact Nat.le_of_eq rfl) (hb hby at_116) (fun _ _ => ⟨rfl, e3, (by decide : 0 + 0 ≤ _), (by decide : 0 + 0 ≤ _)⟩)
      dsimp only [Pt.U, Pt.locs, Pt.cells, Pt.slots] at X4 l4 y4 z4 st4 hQ4
      subst l4 y4 z4
      obtain ⟨rfl, N4q, e4⟩ := hQ4
      have N4 := Fr.app N3 N4q
      refine Outs.of st4 ?_
      show Outs p e below s _ _ _ (T4.setTop (mkF m 119 #[.val (.int i0), .val (.int i1), .val (.int i2), .val (.int i3), .val (.int (f0_3_s0 i0 i1 i2 i3)), .val (.int (f0_22_s0 i0 i1 i2 i3)), .val (.long (F_f1 (f0_3_s0 i0 i1 i2 i3) (0 : Int32) i2)), .second, .val (.int (F_f2 (F_f1 (f0_3_s0 i0 i1 i2 i3) (0 : Int32) i2) i2)), .unset, .unset, .unset, .unset, .unset, .unset, .unset] [(.long (F_f1 (f0_3_s0 i0 i1 i2 i3) (f0_22_s0 i0 i1 i2 i3) i2))]))
      refine Outs.of (U' := T4.setTop (mkF m 128 #[.val (.int i0), .val (.int i1), .val (.int i2), .val (.int i3), .val (.int (f0_3_s0 i0 i1 i2 i3)), .val (.int (f0_22_s0 i0 i1 i2 i3)), .val (.long (F_f1 (f0_3_s0 i0 i1 i2 i3) (0 : Int32) i2)), .second, .val (.int (F_f2 (F_f1 (f0_3_s0 i0 i1 i2 i3) (0 : Int32) i2) i2)), .val (.long (F_f1 (f0_3_s0 i0 i1 i2 i3) (f0_22_s0 i0 i1 i2 i3) i2)), .second, .unset, .unset, .unset, .unset, .unset] [(.int i2), (.int ((f0_22_s0 i0 i1 i2 i3) + (1 : Int32))), (.int (f0_3_s0 i0 i1 i2 i3))])) (fun t k => ?_) ?_
      · refine XS.lstore X4.here hx rfl (hb hby at_119) rfl (l' := #[.val (.int i0), .val (.int i1), .val (.int i2), .val (.int i3), .val (.int (f0_3_s0 i0 i1 i2 i3)), .val (.int (f0_22_s0 i0 i1 i2 i3)), .val (.long (F_f1 (f0_3_s0 i0 i1 i2 i3) (0 : Int32) i2)), .second, .val (.int (F_f2 (F_f1 (f0_3_s0 i0 i1 i2 i3) (0 : Int32) i2) i2)), .val (.long (F_f1 (f0_3_s0 i0 i1 i2 i3) (f0_22_s0 i0 i1 i2 i3) i2)), .second, .unset, .unset, .unset, .unset, .unset]) rfl ?_
        show Steps p.tables e below (T4.setTop (mkF m 121 #[.val (.int i0), .val (.int i1), .val (.int i2), .val (.int i3), .val (.int (f0_3_s0 i0 i1 i2 i3)), .val (.int (f0_22_s0 i0 i1 i2 i3)), .val (.long (F_f1 (f0_3_s0 i0 i1 i2 i3) (0 : Int32) i2)), .second, .val (.int (F_f2 (F_f1 (f0_3_s0 i0 i1 i2 i3) (0 : Int32) i2) i2)), .val (.long (F_f1 (f0_3_s0 i0 i1 i2 i3) (f0_22_s0 i0 i1 i2 i3) i2)), .second, .unset, .unset, .unset, .unset, .unset] [])) _
        refine XS.iload X4.here hx rfl (hb hby at_121) rfl ?_
        show Steps p.tables e below (T4.setTop (mkF m 123 #[.val (.int i0), .val (.int i1), .val (.int i2), .val (.int i3), .val (.int (f0_3_s0 i0 i1 i2 i3)), .val (.int (f0_22_s0 i0 i1 i2 i3)), .val (.long (F_f1 (f0_3_s0 i0 i1 i2 i3) (0 : Int32) i2)), .second, .val (.int (F_f2 (F_f1 (f0_3_s0 i0 i1 i2 i3) (0 : Int32) i2) i2)), .val (.long (F_f1 (f0_3_s0 i0 i1 i2 i3) (f0_22_s0 i0 i1 i2 i3) i2)), .second, .unset, .unset, .unset, .unset, .unset] [(.int (f0_3_s0 i0 i1 i2 i3))])) _
        refine XS.iload X4.here hx rfl (hb hby at_123) rfl ?_
        show Steps p.tables e below (T4.setTop (mkF m 125 #[.val (.int i0), .val (.int i1), .val (.int i2), .val (.int i3), .val (.int (f0_3_s0 i0 i1 i2 i3)), .val (.int (f0_22_s0 i0 i1 i2 i3)), .val (.long (F_f1 (f0_3_s0 i0 i1 i2 i3) (0 : Int32) i2)), .second, .val (.int (F_f2 (F_f1 (f0_3_s0 i0 i1 i2 i3) (0 : Int32) i2) i2)), .val (.long (F_f1 (f0_3_s0 i0 i1 i2 i3) (f0_22_s0 i0 i1 i2 i3) i2)), .second, .unset, .unset, .unset, .unset, .unset] [(.int (f0_22_s0 i0 i1 i2 i3)), (.int (f0_3_s0 i0 i1 i2 i3))])) _
        refine XS.iconst X4.here hx rfl (hb hby at_125) ?_
        show Steps p.tables e below (T4.setTop (mkF m 126 #[.val (.int i0), .val (.int i1), .val (.int i2), .val (.int i3), .val (.int (f0_3_s0 i0 i1 i2 i3)), .val (.int (f0_22_s0 i0 i1 i2 i3)), .val (.long (F_f1 (f0_3_s0 i0 i1 i2 i3) (0 : Int32) i2)), .second, .val (.int (F_f2 (F_f1 (f0_3_s0 i0 i1 i2 i3) (0 : Int32) i2) i2)), .val (.long (F_f1 (f0_3_s0 i0 i1 i2 i3) (f0_22_s0 i0 i1 i2 i3) i2)), .second, .unset, .unset, .unset, .unset, .unset] [(.int (1 : Int32)), (.int (f0_22_s0 i0 i1 i2 i3)), (.int (f0_3_s0 i0 i1 i2 i3))])) _
        refine XS.iadd X4.here hx rfl (hb hby at_126) rfl ?_
        show Steps p.tables e below (T4.setTop (mkF m 127 #[.val (.int i0), .val (.int i1), .val (.int i2), .val (.int i3), .val (.int (f0_3_s0 i0 i1 i2 i3)), .val (.int (f0_22_s0 i0 i1 i2 i3)), .val (.long (F_f1 (f0_3_s0 i0 i1 i2 i3) (0 : Int32) i2)), .second, .val (.int (F_f2 (F_f1 (f0_3_s0 i0 i1 i2 i3) (0 : Int32) i2) i2)), .val (.long (F_f1 (f0_3_s0 i0 i1 i2 i3) (f0_22_s0 i0 i1 i2 i3) i2)), .second, .unset, .unset, .unset, .unset, .unset] [(.int ((f0_22_s0 i0 i1 i2 i3) + (1 : Int32))), (.int (f0_3_s0 i0 i1 i2 i3))])) _
        refine XS.iloadN X4.here hx rfl (hb hby at_127) rfl ?_
        show Steps p.tables e below (T4.setTop (mkF m 128 #[.val (.int i0), .val (.int i1), .val (.int i2), .val (.int i3), .val (.int (f0_3_s0 i0 i1 i2 i3)), .val (.int (f0_22_s0 i0 i1 i2 i3)), .val (.long (F_f1 (f0_3_s0 i0 i1 i2 i3) (0 : Int32) i2)), .second, .val (.int (F_f2 (F_f1 (f0_3_s0 i0 i1 i2 i3) (0 : Int32) i2) i2)), .val (.long (F_f1 (f0_3_s0 i0 i1 i2 i3) (f0_22_s0 i0 i1 i2 i3) i2)), .second, .unset, .unset, .unset, .unset, .unset] [(.int i2), (.int ((f0_22_s0 i0 i1 i2 i3) + (1 : Int32))), (.int (f0_3_s0 i0 i1 i2 i3))])) _
        exact k
      obtain ⟨_, _, ⟨T5, L5, k5, n5⟩, -, X5, ⟨Lc5, hQ5, l5, y5, z5⟩, st5⟩ := Jvm.LawKit.callS X4 hx (y := (⟨"com/example/ratatoskr/ratatoskr/Choices", "count", "(III)J"⟩ : MethodName)) hown (mvT hZ (hw _ (List.mem_of_getElem? (i := 1) rfl))) (mvT hZ (hw _ (List.mem_of_getElem? (i := 2) rfl))) (mvT hZ (hw _ (List.mem_of_getElem? (i := 3) rfl))) (mvT hZ (hw _ (List.mem_of_getElem? (i := 4) rfl))) (by decide) (backOf (W := 0) (rm1 l Z a0 hw [] (f0_3_s0 i0 i1 i2 i3) ((f0_22_s0 i0 i1 i2 i3) + (1 : Int32)) i2 h0 n0 (own_rk1 i0 i1 i2 i3)) hZ (hw _ (List.mem_of_getElem? (i := 4) rfl)) (hw _ (List.mem_of_getElem? (i := 3) rfl)) (by decide) (by decide)) (g := (mkF m 128 #[.val (.int i0), .val (.int i1), .val (.int i2), .val (.int i3), .val (.int (f0_3_s0 i0 i1 i2 i3)), .val (.int (f0_22_s0 i0 i1 i2 i3)), .val (.long (F_f1 (f0_3_s0 i0 i1 i2 i3) (0 : Int32) i2)), .second, .val (.int (F_f2 (F_f1 (f0_3_s0 i0 i1 i2 i3) (0 : Int32) i2) i2)), .val (.long (F_f1 (f0_3_s0 i0 i1 i2 i3) (f0_22_s0 i0 i1 i2 i3) i2)), .second, .unset, .unset, .unset, .unset, .unset] [(.int i2), (.int ((f0_22_s0 i0 i1 i2 i3) + (1 : Int32))), (.int (f0_3_s0 i0 i1 i2 i3))])) rfl (by rw [hml]; rfl) (argsL := [(.int (f0_3_s0 i0 i1 i2 i3)), (.int ((f0_22_s0 i0 i1 i2 i3) + (1 : Int32))), (.int i2)]) (rest := []) (lenOf pd_0 rfl) rfl (by show 2 * 0 + _ ≤ _; exact Nat.le_of_eq rfl) (hb hby at_128) (fun _ _ => ⟨rfl, e4, (by decide : 0 + 0 ≤ _), (by decide : 0 + 0 ≤ _)⟩)
      dsimp only [Pt.U, Pt.locs, Pt.cells, Pt.slots] at X5 l5 y5 z5 st5 hQ5
      subst l5 y5 z5
      obtain ⟨rfl, N5q, e5⟩ := hQ5
      have N5 := Fr.app N4 N5q
      refine Outs.of st5 ?_
      show Outs p e below s _ _ _ (T5.setTop (mkF m 131 #[.val (.int i0), .val (.int i1), .val (.int i2), .val (.int i3), .val (.int (f0_3_s0 i0 i1 i2 i3)), .val (.int (f0_22_s0 i0 i1 i2 i3)), .val (.long (F_f1 (f0_3_s0 i0 i1 i2 i3) (0 : Int32) i2)), .second, .val (.int (F_f2 (F_f1 (f0_3_s0 i0 i1 i2 i3) (0 : Int32) i2) i2)), .val (.long (F_f1 (f0_3_s0 i0 i1 i2 i3) (f0_22_s0 i0 i1 i2 i3) i2)), .second, .unset, .unset, .unset, .unset, .unset] [(.long (F_f1 (f0_3_s0 i0 i1 i2 i3) ((f0_22_s0 i0 i1 i2 i3) + (1 : Int32)) i2))]))
      refine Outs.of (U' := T5.setTop (mkF m 138 #[.val (.int i0), .val (.int i1), .val (.int i2), .val (.int i3), .val (.int (f0_3_s0 i0 i1 i2 i3)), .val (.int (f0_22_s0 i0 i1 i2 i3)), .val (.long (F_f1 (f0_3_s0 i0 i1 i2 i3) (0 : Int32) i2)), .second, .val (.int (F_f2 (F_f1 (f0_3_s0 i0 i1 i2 i3) (0 : Int32) i2) i2)), .val (.long (F_f1 (f0_3_s0 i0 i1 i2 i3) (f0_22_s0 i0 i1 i2 i3) i2)), .second, .val (.long (f0_v131 i0 i1 i2 i3)), .second, .unset, .unset, .unset] [(.int (lcmpW (F_f1 (f0_3_s0 i0 i1 i2 i3) (f0_22_s0 i0 i1 i2 i3) i2) (i2.toInt64)))])) (fun t k => ?_) ?_
      · refine XS.lstore X5.here hx rfl (hb hby at_131) rfl (l' := #[.val (.int i0), .val (.int i1), .val (.int i2), .val (.int i3), .val (.int (f0_3_s0 i0 i1 i2 i3)), .val (.int (f0_22_s0 i0 i1 i2 i3)), .val (.long (F_f1 (f0_3_s0 i0 i1 i2 i3) (0 : Int32) i2)), .second, .val (.int (F_f2 (F_f1 (f0_3_s0 i0 i1 i2 i3) (0 : Int32) i2) i2)), .val (.long (F_f1 (f0_3_s0 i0 i1 i2 i3) (f0_22_s0 i0 i1 i2 i3) i2)), .second, .val (.long (f0_v131 i0 i1 i2 i3)), .second, .unset, .unset, .unset]) rfl ?_
        show Steps p.tables e below (T5.setTop (mkF m 133 #[.val (.int i0), .val (.int i1), .val (.int i2), .val (.int i3), .val (.int (f0_3_s0 i0 i1 i2 i3)), .val (.int (f0_22_s0 i0 i1 i2 i3)), .val (.long (F_f1 (f0_3_s0 i0 i1 i2 i3) (0 : Int32) i2)), .second, .val (.int (F_f2 (F_f1 (f0_3_s0 i0 i1 i2 i3) (0 : Int32) i2) i2)), .val (.long (F_f1 (f0_3_s0 i0 i1 i2 i3) (f0_22_s0 i0 i1 i2 i3) i2)), .second, .val (.long (f0_v131 i0 i1 i2 i3)), .second, .unset, .unset, .unset] [])) _
        refine XS.lload X5.here hx rfl (hb hby at_133) rfl ?_
        show Steps p.tables e below (T5.setTop (mkF m 135 #[.val (.int i0), .val (.int i1), .val (.int i2), .val (.int i3), .val (.int (f0_3_s0 i0 i1 i2 i3)), .val (.int (f0_22_s0 i0 i1 i2 i3)), .val (.long (F_f1 (f0_3_s0 i0 i1 i2 i3) (0 : Int32) i2)), .second, .val (.int (F_f2 (F_f1 (f0_3_s0 i0 i1 i2 i3) (0 : Int32) i2) i2)), .val (.long (F_f1 (f0_3_s0 i0 i1 i2 i3) (f0_22_s0 i0 i1 i2 i3) i2)), .second, .val (.long (f0_v131 i0 i1 i2 i3)), .second, .unset, .unset, .unset] [(.long (F_f1 (f0_3_s0 i0 i1 i2 i3) (f0_22_s0 i0 i1 i2 i3) i2))])) _
        refine XS.iloadN X5.here hx rfl (hb hby at_135) rfl ?_
        show Steps p.tables e below (T5.setTop (mkF m 136 #[.val (.int i0), .val (.int i1), .val (.int i2), .val (.int i3), .val (.int (f0_3_s0 i0 i1 i2 i3)), .val (.int (f0_22_s0 i0 i1 i2 i3)), .val (.long (F_f1 (f0_3_s0 i0 i1 i2 i3) (0 : Int32) i2)), .second, .val (.int (F_f2 (F_f1 (f0_3_s0 i0 i1 i2 i3) (0 : Int32) i2) i2)), .val (.long (F_f1 (f0_3_s0 i0 i1 i2 i3) (f0_22_s0 i0 i1 i2 i3) i2)), .second, .val (.long (f0_v131 i0 i1 i2 i3)), .second, .unset, .unset, .unset] [(.int i2), (.long (F_f1 (f0_3_s0 i0 i1 i2 i3) (f0_22_s0 i0 i1 i2 i3) i2))])) _
        refine XS.i2l X5.here hx rfl (hb hby at_136) rfl ?_
        show Steps p.tables e below (T5.setTop (mkF m 137 #[.val (.int i0), .val (.int i1), .val (.int i2), .val (.int i3), .val (.int (f0_3_s0 i0 i1 i2 i3)), .val (.int (f0_22_s0 i0 i1 i2 i3)), .val (.long (F_f1 (f0_3_s0 i0 i1 i2 i3) (0 : Int32) i2)), .second, .val (.int (F_f2 (F_f1 (f0_3_s0 i0 i1 i2 i3) (0 : Int32) i2) i2)), .val (.long (F_f1 (f0_3_s0 i0 i1 i2 i3) (f0_22_s0 i0 i1 i2 i3) i2)), .second, .val (.long (f0_v131 i0 i1 i2 i3)), .second, .unset, .unset, .unset] [(.long (i2.toInt64)), (.long (F_f1 (f0_3_s0 i0 i1 i2 i3) (f0_22_s0 i0 i1 i2 i3) i2))])) _
        refine XS.lcmp X5.here hx rfl (hb hby at_137) rfl ?_
        show Steps p.tables e below (T5.setTop (mkF m 138 #[.val (.int i0), .val (.int i1), .val (.int i2), .val (.int i3), .val (.int (f0_3_s0 i0 i1 i2 i3)), .val (.int (f0_22_s0 i0 i1 i2 i3)), .val (.long (F_f1 (f0_3_s0 i0 i1 i2 i3) (0 : Int32) i2)), .second, .val (.int (F_f2 (F_f1 (f0_3_s0 i0 i1 i2 i3) (0 : Int32) i2) i2)), .val (.long (F_f1 (f0_3_s0 i0 i1 i2 i3) (f0_22_s0 i0 i1 i2 i3) i2)), .second, .val (.long (f0_v131 i0 i1 i2 i3)), .second, .unset, .unset, .unset] [(.int (lcmpW (F_f1 (f0_3_s0 i0 i1 i2 i3) (f0_22_s0 i0 i1 i2 i3) i2) (i2.toInt64)))])) _
        exact k
      by_cases hc138 : (i2.toInt64) < (F_f1 (f0_3_s0 i0 i1 i2 i3) (f0_22_s0 i0 i1 i2 i3) i2)
      · refine Outs.of (U' := T5.setTop (mkF m 186 #[.val (.int i0), .val (.int i1), .val (.int i2), .val (.int i3), .val (.int (f0_3_s0 i0 i1 i2 i3)), .val (.int (f0_22_s0 i0 i1 i2 i3)), .val (.long (F_f1 (f0_3_s0 i0 i1 i2 i3) (0 : Int32) i2)), .second, .val (.int (F_f2 (F_f1 (f0_3_s0 i0 i1 i2 i3) (0 : Int32) i2) i2)), .val (.long (F_f1 (f0_3_s0 i0 i1 i2 i3) (f0_22_s0 i0 i1 i2 i3) i2)), .second, .val (.long (f0_v131 i0 i1 i2 i3)), .second, .unset, .unset, .unset] [])) (fun t k => ?_) ?_
        · refine XS.ifYes X5.here hx rfl (pc0 := 138) (pc' := 186) rfl (hb hby at_138) rfl ((if0 _ _).trans (tlt ((lw_gt _ _).mpr hc138)).2.2.1) (by decide) (by decide) ?_
          show Steps p.tables e below (T5.setTop (mkF m 186 #[.val (.int i0), .val (.int i1), .val (.int i2), .val (.int i3), .val (.int (f0_3_s0 i0 i1 i2 i3)), .val (.int (f0_22_s0 i0 i1 i2 i3)), .val (.long (F_f1 (f0_3_s0 i0 i1 i2 i3) (0 : Int32) i2)), .second, .val (.int (F_f2 (F_f1 (f0_3_s0 i0 i1 i2 i3) (0 : Int32) i2) i2)), .val (.long (F_f1 (f0_3_s0 i0 i1 i2 i3) (f0_22_s0 i0 i1 i2 i3) i2)), .second, .val (.long (f0_v131 i0 i1 i2 i3)), .second, .unset, .unset, .unset] [])) _
          exact k
        refine Outs.of (U' := T5.setTop (mkF m 189 #[.val (.int i0), .val (.int i1), .val (.int i2), .val (.int i3), .val (.int (f0_3_s0 i0 i1 i2 i3)), .val (.int (f0_22_s0 i0 i1 i2 i3)), .val (.long (F_f1 (f0_3_s0 i0 i1 i2 i3) (0 : Int32) i2)), .second, .val (.int (F_f2 (F_f1 (f0_3_s0 i0 i1 i2 i3) (0 : Int32) i2) i2)), .val (.long (F_f1 (f0_3_s0 i0 i1 i2 i3) (f0_22_s0 i0 i1 i2 i3) i2)), .second, .val (.long (f0_v131 i0 i1 i2 i3)), .second, .unset, .unset, .unset] [(.int i2), (.long (f0_v131 i0 i1 i2 i3))])) (fun t k => ?_) ?_
        · refine XS.lload X5.here hx rfl (hb hby at_186) rfl ?_
          show Steps p.tables e below (T5.setTop (mkF m 188 #[.val (.int i0), .val (.int i1), .val (.int i2), .val (.int i3), .val (.int (f0_3_s0 i0 i1 i2 i3)), .val (.int (f0_22_s0 i0 i1 i2 i3)), .val (.long (F_f1 (f0_3_s0 i0 i1 i2 i3) (0 : Int32) i2)), .second, .val (.int (F_f2 (F_f1 (f0_3_s0 i0 i1 i2 i3) (0 : Int32) i2) i2)), .val (.long (F_f1 (f0_3_s0 i0 i1 i2 i3) (f0_22_s0 i0 i1 i2 i3) i2)), .second, .val (.long (f0_v131 i0 i1 i2 i3)), .second, .unset, .unset, .unset] [(.long (f0_v131 i0 i1 i2 i3))])) _
          refine XS.iloadN X5.here hx rfl (hb hby at_188) rfl ?_
          show Steps p.tables e below (T5.setTop (mkF m 189 #[.val (.int i0), .val (.int i1), .val (.int i2), .val (.int i3), .val (.int (f0_3_s0 i0 i1 i2 i3)), .val (.int (f0_22_s0 i0 i1 i2 i3)), .val (.long (F_f1 (f0_3_s0 i0 i1 i2 i3) (0 : Int32) i2)), .second, .val (.int (F_f2 (F_f1 (f0_3_s0 i0 i1 i2 i3) (0 : Int32) i2) i2)), .val (.long (F_f1 (f0_3_s0 i0 i1 i2 i3) (f0_22_s0 i0 i1 i2 i3) i2)), .second, .val (.long (f0_v131 i0 i1 i2 i3)), .second, .unset, .unset, .unset] [(.int i2), (.long (f0_v131 i0 i1 i2 i3))])) _
          exact k
        obtain ⟨_, _, ⟨T6, L6, k6, n6⟩, -, X6, ⟨Lc6, hQ6, l6, y6, z6⟩, st6⟩ := Jvm.LawKit.callS X5 hx (y := (⟨"com/example/ratatoskr/ratatoskr/ChoicesCountPinLaw", "over", "(JI)Z"⟩ : MethodName)) hown (mvT hZ (hw _ (List.mem_of_getElem? (i := 6) rfl))) (mvT hZ (hw _ (List.mem_of_getElem? (i := 7) rfl))) (mvT hZ (hw _ (List.mem_of_getElem? (i := 8) rfl))) (mvT hZ (hw _ (List.mem_of_getElem? (i := 9) rfl))) (by decide) (backOf (W := 0) (rm2 l Z a0 hw [] (f0_v131 i0 i1 i2 i3) i2 h0 n0 ) hZ (hw _ (List.mem_of_getElem? (i := 9) rfl)) (hw _ (List.mem_of_getElem? (i := 8) rfl)) (by decide) (by decide)) (g := (mkF m 189 #[.val (.int i0), .val (.int i1), .val (.int i2), .val (.int i3), .val (.int (f0_3_s0 i0 i1 i2 i3)), .val (.int (f0_22_s0 i0 i1 i2 i3)), .val (.long (F_f1 (f0_3_s0 i0 i1 i2 i3) (0 : Int32) i2)), .second, .val (.int (F_f2 (F_f1 (f0_3_s0 i0 i1 i2 i3) (0 : Int32) i2) i2)), .val (.long (F_f1 (f0_3_s0 i0 i1 i2 i3) (f0_22_s0 i0 i1 i2 i3) i2)), .second, .val (.long (f0_v131 i0 i1 i2 i3)), .second, .unset, .unset, .unset] [(.int i2), (.long (f0_v131 i0 i1 i2 i3))])) rfl (by rw [hml]; rfl) (argsL := [(.long (f0_v131 i0 i1 i2 i3)), (.int i2)]) (rest := []) (lenOf pd_1 rfl) rfl (by show 2 * 0 + _ ≤ _; exact Nat.le_of_eq rfl) (hb hby at_189) (fun _ _ => ⟨rfl, e5, (by decide : 0 + 0 ≤ _), (by decide : 0 + 0 ≤ _)⟩)
        dsimp only [Pt.U, Pt.locs, Pt.cells, Pt.slots] at X6 l6 y6 z6 st6 hQ6
        subst l6 y6 z6
        obtain ⟨rfl, N6q, e6⟩ := hQ6
        have N6 := Fr.app N5 N6q
        refine Outs.of st6 ?_
        show Outs p e below s _ _ _ (T6.setTop (mkF m 192 #[.val (.int i0), .val (.int i1), .val (.int i2), .val (.int i3), .val (.int (f0_3_s0 i0 i1 i2 i3)), .val (.int (f0_22_s0 i0 i1 i2 i3)), .val (.long (F_f1 (f0_3_s0 i0 i1 i2 i3) (0 : Int32) i2)), .second, .val (.int (F_f2 (F_f1 (f0_3_s0 i0 i1 i2 i3) (0 : Int32) i2) i2)), .val (.long (F_f1 (f0_3_s0 i0 i1 i2 i3) (f0_22_s0 i0 i1 i2 i3) i2)), .second, .val (.long (f0_v131 i0 i1 i2 i3)), .second, .unset, .unset, .unset] [(.int (F_f2 (f0_v131 i0 i1 i2 i3) i2))]))
        refine Outs.of (U' := T6.setTop (mkF m 217 #[.val (.int i0), .val (.int i1), .val (.int i2), .val (.int i3), .val (.int (f0_3_s0 i0 i1 i2 i3)), .val (.int (f0_22_s0 i0 i1 i2 i3)), .val (.long (F_f1 (f0_3_s0 i0 i1 i2 i3) (0 : Int32) i2)), .second, .val (.int (F_f2 (F_f1 (f0_3_s0 i0 i1 i2 i3) (0 : Int32) i2) i2)), .val (.long (F_f1 (f0_3_s0 i0 i1 i2 i3) (f0_22_s0 i0 i1 i2 i3) i2)), .second, .val (.long (f0_v131 i0 i1 i2 i3)), .second, .val (.int (F_f2 (f0_v131 i0 i1 i2 i3) i2)), .unset, .unset] [(.int (f0_200_s0 i0 i1 i2 i3))])) (fun t k => ?_) ?_
        · refine XS.istore X6.here hx rfl (hb hby at_192) rfl (l' := #[.val (.int i0), .val (.int i1), .val (.int i2), .val (.int i3), .val (.int (f0_3_s0 i0 i1 i2 i3)), .val (.int (f0_22_s0 i0 i1 i2 i3)), .val (.long (F_f1 (f0_3_s0 i0 i1 i2 i3) (0 : Int32) i2)), .second, .val (.int (F_f2 (F_f1 (f0_3_s0 i0 i1 i2 i3) (0 : Int32) i2) i2)), .val (.long (F_f1 (f0_3_s0 i0 i1 i2 i3) (f0_22_s0 i0 i1 i2 i3) i2)), .second, .val (.long (f0_v131 i0 i1 i2 i3)), .second, .val (.int (F_f2 (f0_v131 i0 i1 i2 i3) i2)), .unset, .unset]) rfl ?_
          show Steps p.tables e below (T6.setTop (mkF m 194 #[.val (.int i0), .val (.int i1), .val (.int i2), .val (.int i3), .val (.int (f0_3_s0 i0 i1 i2 i3)), .val (.int (f0_22_s0 i0 i1 i2 i3)), .val (.long (F_f1 (f0_3_s0 i0 i1 i2 i3) (0 : Int32) i2)), .second, .val (.int (F_f2 (F_f1 (f0_3_s0 i0 i1 i2 i3) (0 : Int32) i2) i2)), .val (.long (F_f1 (f0_3_s0 i0 i1 i2 i3) (f0_22_s0 i0 i1 i2 i3) i2)), .second, .val (.long (f0_v131 i0 i1 i2 i3)), .second, .val (.int (F_f2 (f0_v131 i0 i1 i2 i3) i2)), .unset, .unset] [])) _
          refine XS.lload X6.here hx rfl (hb hby at_194) rfl ?_
          show Steps p.tables e below (T6.setTop (mkF m 196 #[.val (.int i0), .val (.int i1), .val (.int i2), .val (.int i3), .val (.int (f0_3_s0 i0 i1 i2 i3)), .val (.int (f0_22_s0 i0 i1 i2 i3)), .val (.long (F_f1 (f0_3_s0 i0 i1 i2 i3) (0 : Int32) i2)), .second, .val (.int (F_f2 (F_f1 (f0_3_s0 i0 i1 i2 i3) (0 : Int32) i2) i2)), .val (.long (F_f1 (f0_3_s0 i0 i1 i2 i3) (f0_22_s0 i0 i1 i2 i3) i2)), .second, .val (.long (f0_v131 i0 i1 i2 i3)), .second, .val (.int (F_f2 (f0_v131 i0 i1 i2 i3) i2)), .unset, .unset] [(.long (F_f1 (f0_3_s0 i0 i1 i2 i3) (f0_22_s0 i0 i1 i2 i3) i2))])) _
          refine X6.ldc2Long hx hown (mvT hZ (hw _ (List.mem_of_getElem? (i := 10) rfl))) (g := (mkF m 196 #[.val (.int i0), .val (.int i1), .val (.int i2), .val (.int i3), .val (.int (f0_3_s0 i0 i1 i2 i3)), .val (.int (f0_22_s0 i0 i1 i2 i3)), .val (.long (F_f1 (f0_3_s0 i0 i1 i2 i3) (0 : Int32) i2)), .second, .val (.int (F_f2 (F_f1 (f0_3_s0 i0 i1 i2 i3) (0 : Int32) i2) i2)), .val (.long (F_f1 (f0_3_s0 i0 i1 i2 i3) (f0_22_s0 i0 i1 i2 i3) i2)), .second, .val (.long (f0_v131 i0 i1 i2 i3)), .second, .val (.int (F_f2 (f0_v131 i0 i1 i2 i3) i2)), .unset, .unset] [(.long (F_f1 (f0_3_s0 i0 i1 i2 i3) (f0_22_s0 i0 i1 i2 i3) i2))])) rfl (hb hby at_196) _ ?_
          show Steps p.tables e below (T6.setTop (mkF m 199 #[.val (.int i0), .val (.int i1), .val (.int i2), .val (.int i3), .val (.int (f0_3_s0 i0 i1 i2 i3)), .val (.int (f0_22_s0 i0 i1 i2 i3)), .val (.long (F_f1 (f0_3_s0 i0 i1 i2 i3) (0 : Int32) i2)), .second, .val (.int (F_f2 (F_f1 (f0_3_s0 i0 i1 i2 i3) (0 : Int32) i2) i2)), .val (.long (F_f1 (f0_3_s0 i0 i1 i2 i3) (f0_22_s0 i0 i1 i2 i3) i2)), .second, .val (.long (f0_v131 i0 i1 i2 i3)), .second, .val (.int (F_f2 (f0_v131 i0 i1 i2 i3) i2)), .unset, .unset] [(.long (4611686018427387904 : Int64)), (.long (F_f1 (f0_3_s0 i0 i1 i2 i3) (f0_22_s0 i0 i1 i2 i3) i2))])) _
          refine XS.lcmp X6.here hx rfl (hb hby at_199) rfl ?_
          show Steps p.tables e below (T6.setTop (mkF m 200 #[.val (.int i0), .val (.int i1), .val (.int i2), .val (.int i3), .val (.int (f0_3_s0 i0 i1 i2 i3)), .val (.int (f0_22_s0 i0 i1 i2 i3)), .val (.long (F_f1 (f0_3_s0 i0 i1 i2 i3) (0 : Int32) i2)), .second, .val (.int (F_f2 (F_f1 (f0_3_s0 i0 i1 i2 i3) (0 : Int32) i2) i2)), .val (.long (F_f1 (f0_3_s0 i0 i1 i2 i3) (f0_22_s0 i0 i1 i2 i3) i2)), .second, .val (.long (f0_v131 i0 i1 i2 i3)), .second, .val (.int (F_f2 (f0_v131 i0 i1 i2 i3) i2)), .unset, .unset] [(.int (lcmpW (F_f1 (f0_3_s0 i0 i1 i2 i3) (f0_22_s0 i0 i1 i2 i3) i2) (4611686018427387904 : Int64)))])) _
          by_cases hc200 : (F_f1 (f0_3_s0 i0 i1 i2 i3) (f0_22_s0 i0 i1 i2 i3) i2) < (4611686018427387904 : Int64)
          · refine XS.ifNo X6.here hx rfl (hb hby at_200) rfl ((if0 _ _).trans (tlt ((lw_lt _ _).mpr hc200)).2.1) ?_
            show Steps p.tables e below (T6.setTop (mkF m 203 #[.val (.int i0), .val (.int i1), .val (.int i2), .val (.int i3), .val (.int (f0_3_s0 i0 i1 i2 i3)), .val (.int (f0_22_s0 i0 i1 i2 i3)), .val (.long (F_f1 (f0_3_s0 i0 i1 i2 i3) (0 : Int32) i2)), .second, .val (.int (F_f2 (F_f1 (f0_3_s0 i0 i1 i2 i3) (0 : Int32) i2) i2)), .val (.long (F_f1 (f0_3_s0 i0 i1 i2 i3) (f0_22_s0 i0 i1 i2 i3) i2)), .second, .val (.long (f0_v131 i0 i1 i2 i3)), .second, .val (.int (F_f2 (f0_v131 i0 i1 i2 i3) i2)), .unset, .unset] [])) _
            refine XS.lload X6.here hx rfl (hb hby at_203) rfl ?_
            show Steps p.tables e below (T6.setTop (mkF m 205 #[.val (.int i0), .val (.int i1), .val (.int i2), .val (.int i3), .val (.int (f0_3_s0 i0 i1 i2 i3)), .val (.int (f0_22_s0 i0 i1 i2 i3)), .val (.long (F_f1 (f0_3_s0 i0 i1 i2 i3) (0 : Int32) i2)), .second, .val (.int (F_f2 (F_f1 (f0_3_s0 i0 i1 i2 i3) (0 : Int32) i2) i2)), .val (.long (F_f1 (f0_3_s0 i0 i1 i2 i3) (f0_22_s0 i0 i1 i2 i3) i2)), .second, .val (.long (f0_v131 i0 i1 i2 i3)), .second, .val (.int (F_f2 (f0_v131 i0 i1 i2 i3) i2)), .unset, .unset] [(.long (f0_v131 i0 i1 i2 i3))])) _
            refine X6.ldc2Long hx hown (mvT hZ (hw _ (List.mem_of_getElem? (i := 10) rfl))) (g := (mkF m 205 #[.val (.int i0), .val (.int i1), .val (.int i2), .val (.int i3), .val (.int (f0_3_s0 i0 i1 i2 i3)), .val (.int (f0_22_s0 i0 i1 i2 i3)), .val (.long (F_f1 (f0_3_s0 i0 i1 i2 i3) (0 : Int32) i2)), .second, .val (.int (F_f2 (F_f1 (f0_3_s0 i0 i1 i2 i3) (0 : Int32) i2) i2)), .val (.long (F_f1 (f0_3_s0 i0 i1 i2 i3) (f0_22_s0 i0 i1 i2 i3) i2)), .second, .val (.long (f0_v131 i0 i1 i2 i3)), .second, .val (.int (F_f2 (f0_v131 i0 i1 i2 i3) i2)), .unset, .unset] [(.long (f0_v131 i0 i1 i2 i3))])) rfl (hb hby at_205) _ ?_
            show Steps p.tables e below (T6.setTop (mkF m 208 #[.val (.int i0), .val (.int i1), .val (.int i2), .val (.int i3), .val (.int (f0_3_s0 i0 i1 i2 i3)), .val (.int (f0_22_s0 i0 i1 i2 i3)), .val (.long (F_f1 (f0_3_s0 i0 i1 i2 i3) (0 : Int32) i2)), .second, .val (.int (F_f2 (F_f1 (f0_3_s0 i0 i1 i2 i3) (0 : Int32) i2) i2)), .val (.long (F_f1 (f0_3_s0 i0 i1 i2 i3) (f0_22_s0 i0 i1 i2 i3) i2)), .second, .val (.long (f0_v131 i0 i1 i2 i3)), .second, .val (.int (F_f2 (f0_v131 i0 i1 i2 i3) i2)), .unset, .unset] [(.long (4611686018427387904 : Int64)), (.long (f0_v131 i0 i1 i2 i3))])) _
            refine XS.lcmp X6.here hx rfl (hb hby at_208) rfl ?_
            show Steps p.tables e below (T6.setTop (mkF m 209 #[.val (.int i0), .val (.int i1), .val (.int i2), .val (.int i3), .val (.int (f0_3_s0 i0 i1 i2 i3)), .val (.int (f0_22_s0 i0 i1 i2 i3)), .val (.long (F_f1 (f0_3_s0 i0 i1 i2 i3) (0 : Int32) i2)), .second, .val (.int (F_f2 (F_f1 (f0_3_s0 i0 i1 i2 i3) (0 : Int32) i2) i2)), .val (.long (F_f1 (f0_3_s0 i0 i1 i2 i3) (f0_22_s0 i0 i1 i2 i3) i2)), .second, .val (.long (f0_v131 i0 i1 i2 i3)), .second, .val (.int (F_f2 (f0_v131 i0 i1 i2 i3) i2)), .unset, .unset] [(.int (lcmpW (f0_v131 i0 i1 i2 i3) (4611686018427387904 : Int64)))])) _
            by_cases hc209 : (f0_v131 i0 i1 i2 i3) < (4611686018427387904 : Int64)
            · refine XS.ifNo X6.here hx rfl (hb hby at_209) rfl ((if0 _ _).trans (tlt ((lw_lt _ _).mpr hc209)).2.1) ?_
              show Steps p.tables e below (T6.setTop (mkF m 212 #[.val (.int i0), .val (.int i1), .val (.int i2), .val (.int i3), .val (.int (f0_3_s0 i0 i1 i2 i3)), .val (.int (f0_22_s0 i0 i1 i2 i3)), .val (.long (F_f1 (f0_3_s0 i0 i1 i2 i3) (0 : Int32) i2)), .second, .val (.int (F_f2 (F_f1 (f0_3_s0 i0 i1 i2 i3) (0 : Int32) i2) i2)), .val (.long (F_f1 (f0_3_s0 i0 i1 i2 i3) (f0_22_s0 i0 i1 i2 i3) i2)), .second, .val (.long (f0_v131 i0 i1 i2 i3)), .second, .val (.int (F_f2 (f0_v131 i0 i1 i2 i3) i2)), .unset, .unset] [])) _
              refine XS.iconst X6.here hx rfl (hb hby at_212) ?_
              show Steps p.tables e below (T6.setTop (mkF m 213 #[.val (.int i0), .val (.int i1), .val (.int i2), .val (.int i3), .val (.int (f0_3_s0 i0 i1 i2 i3)), .val (.int (f0_22_s0 i0 i1 i2 i3)), .val (.long (F_f1 (f0_3_s0 i0 i1 i2 i3) (0 : Int32) i2)), .second, .val (.int (F_f2 (F_f1 (f0_3_s0 i0 i1 i2 i3) (0 : Int32) i2) i2)), .val (.long (F_f1 (f0_3_s0 i0 i1 i2 i3) (f0_22_s0 i0 i1 i2 i3) i2)), .second, .val (.long (f0_v131 i0 i1 i2 i3)), .second, .val (.int (F_f2 (f0_v131 i0 i1 i2 i3) i2)), .unset, .unset] [(.int (1 : Int32))])) _
              refine XS.goto X6.here hx rfl (pc0 := 213) (pc' := 217) rfl (hb hby at_213) (by decide) (by decide) ?_
              show Steps p.tables e below (T6.setTop (mkF m 217 #[.val (.int i0), .val (.int i1), .val (.int i2), .val (.int i3), .val (.int (f0_3_s0 i0 i1 i2 i3)), .val (.int (f0_22_s0 i0 i1 i2 i3)), .val (.long (F_f1 (f0_3_s0 i0 i1 i2 i3) (0 : Int32) i2)), .second, .val (.int (F_f2 (F_f1 (f0_3_s0 i0 i1 i2 i3) (0 : Int32) i2) i2)), .val (.long (F_f1 (f0_3_s0 i0 i1 i2 i3) (f0_22_s0 i0 i1 i2 i3) i2)), .second, .val (.long (f0_v131 i0 i1 i2 i3)), .second, .val (.int (F_f2 (f0_v131 i0 i1 i2 i3) i2)), .unset, .unset] [(.int (1 : Int32))])) _
              rw [show (f0_200_s0 i0 i1 i2 i3) = (1 : Int32) from ((if_pos hc200).trans (if_pos hc209))] at k
              exact k
            · refine XS.ifYes X6.here hx rfl (pc0 := 209) (pc' := 216) rfl (hb hby at_209) rfl ((if0 _ _).trans (flt (fun q_ => hc209 ((lw_lt _ _).mp q_))).2.1) (by decide) (by decide) ?_
              show Steps p.tables e below (T6.setTop (mkF m 216 #[.val (.int i0), .val (.int i1), .val (.int i2), .val (.int i3), .val (.int (f0_3_s0 i0 i1 i2 i3)), .val (.int (f0_22_s0 i0 i1 i2 i3)), .val (.long (F_f1 (f0_3_s0 i0 i1 i2 i3) (0 : Int32) i2)), .second, .val (.int (F_f2 (F_f1 (f0_3_s0 i0 i1 i2 i3) (0 : Int32) i2) i2)), .val (.long (F_f1 (f0_3_s0 i0 i1 i2 i3) (f0_22_s0 i0 i1 i2 i3) i2)), .second, .val (.long (f0_v131 i0 i1 i2 i3)), .second, .val (.int (F_f2 (f0_v131 i0 i1 i2 i3) i2)), .unset, .unset] [])) _
              refine XS.iconst X6.here hx rfl (hb hby at_216) ?_
              show Steps p.tables e below (T6.setTop (mkF m 217 #[.val (.int i0), .val (.int i1), .val (.int i2), .val (.int i3), .val (.int (f0_3_s0 i0 i1 i2 i3)), .val (.int (f0_22_s0 i0 i1 i2 i3)), .val (.long (F_f1 (f0_3_s0 i0 i1 i2 i3) (0 : Int32) i2)), .second, .val (.int (F_f2 (F_f1 (f0_3_s0 i0 i1 i2 i3) (0 : Int32) i2) i2)), .val (.long (F_f1 (f0_3_s0 i0 i1 i2 i3) (f0_22_s0 i0 i1 i2 i3) i2)), .second, .val (.long (f0_v131 i0 i1 i2 i3)), .second, .val (.int (F_f2 (f0_v131 i0 i1 i2 i3) i2)), .unset, .unset] [(.int (0 : Int32))])) _
              rw [show (f0_200_s0 i0 i1 i2 i3) = (0 : Int32) from ((if_pos hc200).trans (if_neg hc209))] at k
              exact k
          · refine XS.ifYes X6.here hx rfl (pc0 := 200) (pc' := 216) rfl (hb hby at_200) rfl ((if0 _ _).trans (flt (fun q_ => hc200 ((lw_lt _ _).mp q_))).2.1) (by decide) (by decide) ?_
            show Steps p.tables e below (T6.setTop (mkF m 216 #[.val (.int i0), .val (.int i1), .val (.int i2), .val (.int i3), .val (.int (f0_3_s0 i0 i1 i2 i3)), .val (.int (f0_22_s0 i0 i1 i2 i3)), .val (.long (F_f1 (f0_3_s0 i0 i1 i2 i3) (0 : Int32) i2)), .second, .val (.int (F_f2 (F_f1 (f0_3_s0 i0 i1 i2 i3) (0 : Int32) i2) i2)), .val (.long (F_f1 (f0_3_s0 i0 i1 i2 i3) (f0_22_s0 i0 i1 i2 i3) i2)), .second, .val (.long (f0_v131 i0 i1 i2 i3)), .second, .val (.int (F_f2 (f0_v131 i0 i1 i2 i3) i2)), .unset, .unset] [])) _
            refine XS.iconst X6.here hx rfl (hb hby at_216) ?_
            show Steps p.tables e below (T6.setTop (mkF m 217 #[.val (.int i0), .val (.int i1), .val (.int i2), .val (.int i3), .val (.int (f0_3_s0 i0 i1 i2 i3)), .val (.int (f0_22_s0 i0 i1 i2 i3)), .val (.long (F_f1 (f0_3_s0 i0 i1 i2 i3) (0 : Int32) i2)), .second, .val (.int (F_f2 (F_f1 (f0_3_s0 i0 i1 i2 i3) (0 : Int32) i2) i2)), .val (.long (F_f1 (f0_3_s0 i0 i1 i2 i3) (f0_22_s0 i0 i1 i2 i3) i2)), .second, .val (.long (f0_v131 i0 i1 i2 i3)), .second, .val (.int (F_f2 (f0_v131 i0 i1 i2 i3) i2)), .unset, .unset] [(.int (0 : Int32))])) _
            rw [show (f0_200_s0 i0 i1 i2 i3) = (0 : Int32) from (if_neg hc200)] at k
            exact k
        refine Outs.of (U' := T6.setTop (mkF m 239 #[.val (.int i0), .val (.int i1), .val (.int i2), .val (.int i3), .val (.int (f0_3_s0 i0 i1 i2 i3)), .val (.int (f0_22_s0 i0 i1 i2 i3)), .val (.long (F_f1 (f0_3_s0 i0 i1 i2 i3) (0 : Int32) i2)), .second, .val (.int (F_f2 (F_f1 (f0_3_s0 i0 i1 i2 i3) (0 : Int32) i2) i2)), .val (.long (F_f1 (f0_3_s0 i0 i1 i2 i3) (f0_22_s0 i0 i1 i2 i3) i2)), .second, .val (.long (f0_v131 i0 i1 i2 i3)), .second, .val (.int (F_f2 (f0_v131 i0 i1 i2 i3) i2)), .val (.int (f0_200_s0 i0 i1 i2 i3)), .unset] [(.int (f0_221_s0 i0 i1 i2 i3))])) (fun t k => ?_) ?_
        · refine XS.istore X6.here hx rfl (hb hby at_217) rfl (l' := #[.val (.int i0), .val (.int i1), .val (.int i2), .val (.int i3), .val (.int (f0_3_s0 i0 i1 i2 i3)), .val (.int (f0_22_s0 i0 i1 i2 i3)), .val (.long (F_f1 (f0_3_s0 i0 i1 i2 i3) (0 : Int32) i2)), .second, .val (.int (F_f2 (F_f1 (f0_3_s0 i0 i1 i2 i3) (0 : Int32) i2) i2)), .val (.long (F_f1 (f0_3_s0 i0 i1 i2 i3) (f0_22_s0 i0 i1 i2 i3) i2)), .second, .val (.long (f0_v131 i0 i1 i2 i3)), .second, .val (.int (F_f2 (f0_v131 i0 i1 i2 i3) i2)), .val (.int (f0_200_s0 i0 i1 i2 i3)), .unset]) rfl ?_
          show Steps p.tables e below (T6.setTop (mkF m 219 #[.val (.int i0), .val (.int i1), .val (.int i2), .val (.int i3), .val (.int (f0_3_s0 i0 i1 i2 i3)), .val (.int (f0_22_s0 i0 i1 i2 i3)), .val (.long (F_f1 (f0_3_s0 i0 i1 i2 i3) (0 : Int32) i2)), .second, .val (.int (F_f2 (F_f1 (f0_3_s0 i0 i1 i2 i3) (0 : Int32) i2) i2)), .val (.long (F_f1 (f0_3_s0 i0 i1 i2 i3) (f0_22_s0 i0 i1 i2 i3) i2)), .second, .val (.long (f0_v131 i0 i1 i2 i3)), .second, .val (.int (F_f2 (f0_v131 i0 i1 i2 i3) i2)), .val (.int (f0_200_s0 i0 i1 i2 i3)), .unset] [])) _
          refine XS.iload X6.here hx rfl (hb hby at_219) rfl ?_
          show Steps p.tables e below (T6.setTop (mkF m 221 #[.val (.int i0), .val (.int i1), .val (.int i2), .val (.int i3), .val (.int (f0_3_s0 i0 i1 i2 i3)), .val (.int (f0_22_s0 i0 i1 i2 i3)), .val (.long (F_f1 (f0_3_s0 i0 i1 i2 i3) (0 : Int32) i2)), .second, .val (.int (F_f2 (F_f1 (f0_3_s0 i0 i1 i2 i3) (0 : Int32) i2) i2)), .val (.long (F_f1 (f0_3_s0 i0 i1 i2 i3) (f0_22_s0 i0 i1 i2 i3) i2)), .second, .val (.long (f0_v131 i0 i1 i2 i3)), .second, .val (.int (F_f2 (f0_v131 i0 i1 i2 i3) i2)), .val (.int (f0_200_s0 i0 i1 i2 i3)), .unset] [(.int (F_f2 (F_f1 (f0_3_s0 i0 i1 i2 i3) (0 : Int32) i2) i2))])) _
          by_cases hc221 : (F_f2 (F_f1 (f0_3_s0 i0 i1 i2 i3) (0 : Int32) i2) i2) = (0 : Int32)
          · refine XS.ifYes X6.here hx rfl (pc0 := 221) (pc' := 238) rfl (hb hby at_221) rfl ((if0 _ _).trans (teq hc221).1) (by decide) (by decide) ?_
            show Steps p.tables e below (T6.setTop (mkF m 238 #[.val (.int i0), .val (.int i1), .val (.int i2), .val (.int i3), .val (.int (f0_3_s0 i0 i1 i2 i3)), .val (.int (f0_22_s0 i0 i1 i2 i3)), .val (.long (F_f1 (f0_3_s0 i0 i1 i2 i3) (0 : Int32) i2)), .second, .val (.int (F_f2 (F_f1 (f0_3_s0 i0 i1 i2 i3) (0 : Int32) i2) i2)), .val (.long (F_f1 (f0_3_s0 i0 i1 i2 i3) (f0_22_s0 i0 i1 i2 i3) i2)), .second, .val (.long (f0_v131 i0 i1 i2 i3)), .second, .val (.int (F_f2 (f0_v131 i0 i1 i2 i3) i2)), .val (.int (f0_200_s0 i0 i1 i2 i3)), .unset] [])) _
            refine XS.iconst X6.here hx rfl (hb hby at_238) ?_
            show Steps p.tables e below (T6.setTop (mkF m 239 #[.val (.int i0), .val (.int i1), .val (.int i2), .val (.int i3), .val (.int (f0_3_s0 i0 i1 i2 i3)), .val (.int (f0_22_s0 i0 i1 i2 i3)), .val (.long (F_f1 (f0_3_s0 i0 i1 i2 i3) (0 : Int32) i2)), .second, .val (.int (F_f2 (F_f1 (f0_3_s0 i0 i1 i2 i3) (0 : Int32) i2) i2)), .val (.long (F_f1 (f0_3_s0 i0 i1 i2 i3) (f0_22_s0 i0 i1 i2 i3) i2)), .second, .val (.long (f0_v131 i0 i1 i2 i3)), .second, .val (.int (F_f2 (f0_v131 i0 i1 i2 i3) i2)), .val (.int (f0_200_s0 i0 i1 i2 i3)), .unset] [(.int (0 : Int32))])) _
            rw [show (f0_221_s0 i0 i1 i2 i3) = (0 : Int32) from (if_pos hc221)] at k
            exact k
          · refine XS.ifNo X6.here hx rfl (hb hby at_221) rfl ((if0 _ _).trans (feq hc221).1) ?_
            show Steps p.tables e below (T6.setTop (mkF m 224 #[.val (.int i0), .val (.int i1), .val (.int i2), .val (.int i3), .val (.int (f0_3_s0 i0 i1 i2 i3)), .val (.int (f0_22_s0 i0 i1 i2 i3)), .val (.long (F_f1 (f0_3_s0 i0 i1 i2 i3) (0 : Int32) i2)), .second, .val (.int (F_f2 (F_f1 (f0_3_s0 i0 i1 i2 i3) (0 : Int32) i2) i2)), .val (.long (F_f1 (f0_3_s0 i0 i1 i2 i3) (f0_22_s0 i0 i1 i2 i3) i2)), .second, .val (.long (f0_v131 i0 i1 i2 i3)), .second, .val (.int (F_f2 (f0_v131 i0 i1 i2 i3) i2)), .val (.int (f0_200_s0 i0 i1 i2 i3)), .unset] [])) _
            refine XS.iload X6.here hx rfl (hb hby at_224) rfl ?_
            show Steps p.tables e below (T6.setTop (mkF m 226 #[.val (.int i0), .val (.int i1), .val (.int i2), .val (.int i3), .val (.int (f0_3_s0 i0 i1 i2 i3)), .val (.int (f0_22_s0 i0 i1 i2 i3)), .val (.long (F_f1 (f0_3_s0 i0 i1 i2 i3) (0 : Int32) i2)), .second, .val (.int (F_f2 (F_f1 (f0_3_s0 i0 i1 i2 i3) (0 : Int32) i2) i2)), .val (.long (F_f1 (f0_3_s0 i0 i1 i2 i3) (f0_22_s0 i0 i1 i2 i3) i2)), .second, .val (.long (f0_v131 i0 i1 i2 i3)), .second, .val (.int (F_f2 (f0_v131 i0 i1 i2 i3) i2)), .val (.int (f0_200_s0 i0 i1 i2 i3)), .unset] [(.int (F_f2 (f0_v131 i0 i1 i2 i3) i2))])) _
            by_cases hc226 : (F_f2 (f0_v131 i0 i1 i2 i3) i2) = (0 : Int32)
            · refine XS.ifYes X6.here hx rfl (pc0 := 226) (pc' := 238) rfl (hb hby at_226) rfl ((if0 _ _).trans (teq hc226).1) (by decide) (by decide) ?_
              show Steps p.tables e below (T6.setTop (mkF m 238 #[.val (.int i0), .val (.int i1), .val (.int i2), .val (.int i3), .val (.int (f0_3_s0 i0 i1 i2 i3)), .val (.int (f0_22_s0 i0 i1 i2 i3)), .val (.long (F_f1 (f0_3_s0 i0 i1 i2 i3) (0 : Int32) i2)), .second, .val (.int (F_f2 (F_f1 (f0_3_s0 i0 i1 i2 i3) (0 : Int32) i2) i2)), .val (.long (F_f1 (f0_3_s0 i0 i1 i2 i3) (f0_22_s0 i0 i1 i2 i3) i2)), .second, .val (.long (f0_v131 i0 i1 i2 i3)), .second, .val (.int (F_f2 (f0_v131 i0 i1 i2 i3) i2)), .val (.int (f0_200_s0 i0 i1 i2 i3)), .unset] [])) _
              refine XS.iconst X6.here hx rfl (hb hby at_238) ?_
              show Steps p.tables e below (T6.setTop (mkF m 239 #[.val (.int i0), .val (.int i1), .val (.int i2), .val (.int i3), .val (.int (f0_3_s0 i0 i1 i2 i3)), .val (.int (f0_22_s0 i0 i1 i2 i3)), .val (.long (F_f1 (f0_3_s0 i0 i1 i2 i3) (0 : Int32) i2)), .second, .val (.int (F_f2 (F_f1 (f0_3_s0 i0 i1 i2 i3) (0 : Int32) i2) i2)), .val (.long (F_f1 (f0_3_s0 i0 i1 i2 i3) (f0_22_s0 i0 i1 i2 i3) i2)), .second, .val (.long (f0_v131 i0 i1 i2 i3)), .second, .val (.int (F_f2 (f0_v131 i0 i1 i2 i3) i2)), .val (.int (f0_200_s0 i0 i1 i2 i3)), .unset] [(.int (0 : Int32))])) _
              rw [show (f0_221_s0 i0 i1 i2 i3) = (0 : Int32) from ((if_neg hc221).trans (if_pos hc226))] at k
              exact k
            · refine XS.ifNo X6.here hx rfl (hb hby at_226) rfl ((if0 _ _).trans (feq hc226).1) ?_
              show Steps p.tables e below (T6.setTop (mkF m 229 #[.val (.int i0), .val (.int i1), .val (.int i2), .val (.int i3), .val (.int (f0_3_s0 i0 i1 i2 i3)), .val (.int (f0_22_s0 i0 i1 i2 i3)), .val (.long (F_f1 (f0_3_s0 i0 i1 i2 i3) (0 : Int32) i2)), .second, .val (.int (F_f2 (F_f1 (f0_3_s0 i0 i1 i2 i3) (0 : Int32) i2) i2)), .val (.long (F_f1 (f0_3_s0 i0 i1 i2 i3) (f0_22_s0 i0 i1 i2 i3) i2)), .second, .val (.long (f0_v131 i0 i1 i2 i3)), .second, .val (.int (F_f2 (f0_v131 i0 i1 i2 i3) i2)), .val (.int (f0_200_s0 i0 i1 i2 i3)), .unset] [])) _
              refine XS.iload X6.here hx rfl (hb hby at_229) rfl ?_
              show Steps p.tables e below (T6.setTop (mkF m 231 #[.val (.int i0), .val (.int i1), .val (.int i2), .val (.int i3), .val (.int (f0_3_s0 i0 i1 i2 i3)), .val (.int (f0_22_s0 i0 i1 i2 i3)), .val (.long (F_f1 (f0_3_s0 i0 i1 i2 i3) (0 : Int32) i2)), .second, .val (.int (F_f2 (F_f1 (f0_3_s0 i0 i1 i2 i3) (0 : Int32) i2) i2)), .val (.long (F_f1 (f0_3_s0 i0 i1 i2 i3) (f0_22_s0 i0 i1 i2 i3) i2)), .second, .val (.long (f0_v131 i0 i1 i2 i3)), .second, .val (.int (F_f2 (f0_v131 i0 i1 i2 i3) i2)), .val (.int (f0_200_s0 i0 i1 i2 i3)), .unset] [(.int (f0_200_s0 i0 i1 i2 i3))])) _
              by_cases hc231 : (f0_200_s0 i0 i1 i2 i3) = (0 : Int32)
              · refine XS.ifYes X6.here hx rfl (pc0 := 231) (pc' := 238) rfl (hb hby at_231) rfl ((if0 _ _).trans (teq hc231).1) (by decide) (by decide) ?_
                show Steps p.tables e below (T6.setTop (mkF m 238 #[.val (.int i0), .val (.int i1), .val (.int i2), .val (.int i3), .val (.int (f0_3_s0 i0 i1 i2 i3)), .val (.int (f0_22_s0 i0 i1 i2 i3)), .val (.long (F_f1 (f0_3_s0 i0 i1 i2 i3) (0 : Int32) i2)), .second, .val (.int (F_f2 (F_f1 (f0_3_s0 i0 i1 i2 i3) (0 : Int32) i2) i2)), .val (.long (F_f1 (f0_3_s0 i0 i1 i2 i3) (f0_22_s0 i0 i1 i2 i3) i2)), .second, .val (.long (f0_v131 i0 i1 i2 i3)), .second, .val (.int (F_f2 (f0_v131 i0 i1 i2 i3) i2)), .val (.int (f0_200_s0 i0 i1 i2 i3)), .unset] [])) _
                refine XS.iconst X6.here hx rfl (hb hby at_238) ?_
                show Steps p.tables e below (T6.setTop (mkF m 239 #[.val (.int i0), .val (.int i1), .val (.int i2), .val (.int i3), .val (.int (f0_3_s0 i0 i1 i2 i3)), .val (.int (f0_22_s0 i0 i1 i2 i3)), .val (.long (F_f1 (f0_3_s0 i0 i1 i2 i3) (0 : Int32) i2)), .second, .val (.int (F_f2 (F_f1 (f0_3_s0 i0 i1 i2 i3) (0 : Int32) i2) i2)), .val (.long (F_f1 (f0_3_s0 i0 i1 i2 i3) (f0_22_s0 i0 i1 i2 i3) i2)), .second, .val (.long (f0_v131 i0 i1 i2 i3)), .second, .val (.int (F_f2 (f0_v131 i0 i1 i2 i3) i2)), .val (.int (f0_200_s0 i0 i1 i2 i3)), .unset] [(.int (0 : Int32))])) _
                rw [show (f0_221_s0 i0 i1 i2 i3) = (0 : Int32) from ((if_neg hc221).trans ((if_neg hc226).trans (if_pos hc231)))] at k
                exact k
              · refine XS.ifNo X6.here hx rfl (hb hby at_231) rfl ((if0 _ _).trans (feq hc231).1) ?_
                show Steps p.tables e below (T6.setTop (mkF m 234 #[.val (.int i0), .val (.int i1), .val (.int i2), .val (.int i3), .val (.int (f0_3_s0 i0 i1 i2 i3)), .val (.int (f0_22_s0 i0 i1 i2 i3)), .val (.long (F_f1 (f0_3_s0 i0 i1 i2 i3) (0 : Int32) i2)), .second, .val (.int (F_f2 (F_f1 (f0_3_s0 i0 i1 i2 i3) (0 : Int32) i2) i2)), .val (.long (F_f1 (f0_3_s0 i0 i1 i2 i3) (f0_22_s0 i0 i1 i2 i3) i2)), .second, .val (.long (f0_v131 i0 i1 i2 i3)), .second, .val (.int (F_f2 (f0_v131 i0 i1 i2 i3) i2)), .val (.int (f0_200_s0 i0 i1 i2 i3)), .unset] [])) _
                refine XS.iconst X6.here hx rfl (hb hby at_234) ?_
                show Steps p.tables e below (T6.setTop (mkF m 235 #[.val (.int i0), .val (.int i1), .val (.int i2), .val (.int i3), .val (.int (f0_3_s0 i0 i1 i2 i3)), .val (.int (f0_22_s0 i0 i1 i2 i3)), .val (.long (F_f1 (f0_3_s0 i0 i1 i2 i3) (0 : Int32) i2)), .second, .val (.int (F_f2 (F_f1 (f0_3_s0 i0 i1 i2 i3) (0 : Int32) i2) i2)), .val (.long (F_f1 (f0_3_s0 i0 i1 i2 i3) (f0_22_s0 i0 i1 i2 i3) i2)), .second, .val (.long (f0_v131 i0 i1 i2 i3)), .second, .val (.int (F_f2 (f0_v131 i0 i1 i2 i3) i2)), .val (.int (f0_200_s0 i0 i1 i2 i3)), .unset] [(.int (1 : Int32))])) _
                refine XS.goto X6.here hx rfl (pc0 := 235) (pc' := 239) rfl (hb hby at_235) (by decide) (by decide) ?_
                show Steps p.tables e below (T6.setTop (mkF m 239 #[.val (.int i0), .val (.int i1), .val (.int i2), .val (.int i3), .val (.int (f0_3_s0 i0 i1 i2 i3)), .val (.int (f0_22_s0 i0 i1 i2 i3)), .val (.long (F_f1 (f0_3_s0 i0 i1 i2 i3) (0 : Int32) i2)), .second, .val (.int (F_f2 (F_f1 (f0_3_s0 i0 i1 i2 i3) (0 : Int32) i2) i2)), .val (.long (F_f1 (f0_3_s0 i0 i1 i2 i3) (f0_22_s0 i0 i1 i2 i3) i2)), .second, .val (.long (f0_v131 i0 i1 i2 i3)), .second, .val (.int (F_f2 (f0_v131 i0 i1 i2 i3) i2)), .val (.int (f0_200_s0 i0 i1 i2 i3)), .unset] [(.int (1 : Int32))])) _
                rw [show (f0_221_s0 i0 i1 i2 i3) = (1 : Int32) from ((if_neg hc221).trans ((if_neg hc226).trans (if_neg hc231)))] at k
                exact k
        exact Outs.retN (t := .boolean) (z := (f0_221_s0 i0 i1 i2 i3)) X6 hx hret (by simp) (hb hby at_239) hlk (by decide) (by decide) e6 ⟨congrArg (fun z_ => some (Value.int z_)) (law_221_s0_3 i0 i1 i2 i3 hc40 hc85 hc138), N6⟩
      · refine Outs.of (U' := T5.setTop (mkF m 141 #[.val (.int i0), .val (.int i1), .val (.int i2), .val (.int i3), .val (.int (f0_3_s0 i0 i1 i2 i3)), .val (.int (f0_22_s0 i0 i1 i2 i3)), .val (.long (F_f1 (f0_3_s0 i0 i1 i2 i3) (0 : Int32) i2)), .second, .val (.int (F_f2 (F_f1 (f0_3_s0 i0 i1 i2 i3) (0 : Int32) i2) i2)), .val (.long (F_f1 (f0_3_s0 i0 i1 i2 i3) (f0_22_s0 i0 i1 i2 i3) i2)), .second, .val (.long (f0_v131 i0 i1 i2 i3)), .second, .unset, .unset, .unset] [])) (fun t k => ?_) ?_
        · refine XS.ifNo X5.here hx rfl (hb hby at_138) rfl ((if0 _ _).trans (flt (fun q_ => hc138 ((lw_gt _ _).mp q_))).2.2.1) ?_
          show Steps p.tables e below (T5.setTop (mkF m 141 #[.val (.int i0), .val (.int i1), .val (.int i2), .val (.int i3), .val (.int (f0_3_s0 i0 i1 i2 i3)), .val (.int (f0_22_s0 i0 i1 i2 i3)), .val (.long (F_f1 (f0_3_s0 i0 i1 i2 i3) (0 : Int32) i2)), .second, .val (.int (F_f2 (F_f1 (f0_3_s0 i0 i1 i2 i3) (0 : Int32) i2) i2)), .val (.long (F_f1 (f0_3_s0 i0 i1 i2 i3) (f0_22_s0 i0 i1 i2 i3) i2)), .second, .val (.long (f0_v131 i0 i1 i2 i3)), .second, .unset, .unset, .unset] [])) _
          exact k
        refine Outs.of (U' := T5.setTop (mkF m 154 #[.val (.int i0), .val (.int i1), .val (.int i2), .val (.int i3), .val (.int (f0_3_s0 i0 i1 i2 i3)), .val (.int (f0_22_s0 i0 i1 i2 i3)), .val (.long (F_f1 (f0_3_s0 i0 i1 i2 i3) (0 : Int32) i2)), .second, .val (.int (F_f2 (F_f1 (f0_3_s0 i0 i1 i2 i3) (0 : Int32) i2) i2)), .val (.long (F_f1 (f0_3_s0 i0 i1 i2 i3) (f0_22_s0 i0 i1 i2 i3) i2)), .second, .val (.long (f0_v131 i0 i1 i2 i3)), .second, .unset, .val (.long (f0_v147 i0 i1 i2 i3)), .second] [(.int (lcmpW (f0_v147 i0 i1 i2 i3) (i2.toInt64)))])) (fun t k => ?_) ?_
        · refine XS.lload X5.here hx rfl (hb hby at_141) rfl ?_
          show Steps p.tables e below (T5.setTop (mkF m 143 #[.val (.int i0), .val (.int i1), .val (.int i2), .val (.int i3), .val (.int (f0_3_s0 i0 i1 i2 i3)), .val (.int (f0_22_s0 i0 i1 i2 i3)), .val (.long (F_f1 (f0_3_s0 i0 i1 i2 i3) (0 : Int32) i2)), .second, .val (.int (F_f2 (F_f1 (f0_3_s0 i0 i1 i2 i3) (0 : Int32) i2) i2)), .val (.long (F_f1 (f0_3_s0 i0 i1 i2 i3) (f0_22_s0 i0 i1 i2 i3) i2)), .second, .val (.long (f0_v131 i0 i1 i2 i3)), .second, .unset, .unset, .unset] [(.long (F_f1 (f0_3_s0 i0 i1 i2 i3) (f0_22_s0 i0 i1 i2 i3) i2))])) _
          refine XS.iload X5.here hx rfl (hb hby at_143) rfl ?_
          show Steps p.tables e below (T5.setTop (mkF m 145 #[.val (.int i0), .val (.int i1), .val (.int i2), .val (.int i3), .val (.int (f0_3_s0 i0 i1 i2 i3)), .val (.int (f0_22_s0 i0 i1 i2 i3)), .val (.long (F_f1 (f0_3_s0 i0 i1 i2 i3) (0 : Int32) i2)), .second, .val (.int (F_f2 (F_f1 (f0_3_s0 i0 i1 i2 i3) (0 : Int32) i2) i2)), .val (.long (F_f1 (f0_3_s0 i0 i1 i2 i3) (f0_22_s0 i0 i1 i2 i3) i2)), .second, .val (.long (f0_v131 i0 i1 i2 i3)), .second, .unset, .unset, .unset] [(.int (f0_3_s0 i0 i1 i2 i3)), (.long (F_f1 (f0_3_s0 i0 i1 i2 i3) (f0_22_s0 i0 i1 i2 i3) i2))])) _
          refine XS.i2l X5.here hx rfl (hb hby at_145) rfl ?_
          show Steps p.tables e below (T5.setTop (mkF m 146 #[.val (.int i0), .val (.int i1), .val (.int i2), .val (.int i3), .val (.int (f0_3_s0 i0 i1 i2 i3)), .val (.int (f0_22_s0 i0 i1 i2 i3)), .val (.long (F_f1 (f0_3_s0 i0 i1 i2 i3) (0 : Int32) i2)), .second, .val (.int (F_f2 (F_f1 (f0_3_s0 i0 i1 i2 i3) (0 : Int32) i2) i2)), .val (.long (F_f1 (f0_3_s0 i0 i1 i2 i3) (f0_22_s0 i0 i1 i2 i3) i2)), .second, .val (.long (f0_v131 i0 i1 i2 i3)), .second, .unset, .unset, .unset] [(.long ((f0_3_s0 i0 i1 i2 i3).toInt64)), (.long (F_f1 (f0_3_s0 i0 i1 i2 i3) (f0_22_s0 i0 i1 i2 i3) i2))])) _
          refine XS.lmul X5.here hx rfl (hb hby at_146) rfl ?_
          show Steps p.tables e below (T5.setTop (mkF m 147 #[.val (.int i0), .val (.int i1), .val (.int i2), .val (.int i3), .val (.int (f0_3_s0 i0 i1 i2 i3)), .val (.int (f0_22_s0 i0 i1 i2 i3)), .val (.long (F_f1 (f0_3_s0 i0 i1 i2 i3) (0 : Int32) i2)), .second, .val (.int (F_f2 (F_f1 (f0_3_s0 i0 i1 i2 i3) (0 : Int32) i2) i2)), .val (.long (F_f1 (f0_3_s0 i0 i1 i2 i3) (f0_22_s0 i0 i1 i2 i3) i2)), .second, .val (.long (f0_v131 i0 i1 i2 i3)), .second, .unset, .unset, .unset] [(.long ((F_f1 (f0_3_s0 i0 i1 i2 i3) (f0_22_s0 i0 i1 i2 i3) i2) * ((f0_3_s0 i0 i1 i2 i3).toInt64)))])) _
          refine XS.lstore X5.here hx rfl (hb hby at_147) rfl (l' := #[.val (.int i0), .val (.int i1), .val (.int i2), .val (.int i3), .val (.int (f0_3_s0 i0 i1 i2 i3)), .val (.int (f0_22_s0 i0 i1 i2 i3)), .val (.long (F_f1 (f0_3_s0 i0 i1 i2 i3) (0 : Int32) i2)), .second, .val (.int (F_f2 (F_f1 (f0_3_s0 i0 i1 i2 i3) (0 : Int32) i2) i2)), .val (.long (F_f1 (f0_3_s0 i0 i1 i2 i3) (f0_22_s0 i0 i1 i2 i3) i2)), .second, .val (.long (f0_v131 i0 i1 i2 i3)), .second, .unset, .val (.long (f0_v147 i0 i1 i2 i3)), .second]) rfl ?_
          show Steps p.tables e below (T5.setTop (mkF m 149 #[.val (.int i0), .val (.int i1), .val (.int i2), .val (.int i3), .val (.int (f0_3_s0 i0 i1 i2 i3)), .val (.int (f0_22_s0 i0 i1 i2 i3)), .val (.long (F_f1 (f0_3_s0 i0 i1 i2 i3) (0 : Int32) i2)), .second, .val (.int (F_f2 (F_f1 (f0_3_s0 i0 i1 i2 i3) (0 : Int32) i2) i2)), .val (.long (F_f1 (f0_3_s0 i0 i1 i2 i3) (f0_22_s0 i0 i1 i2 i3) i2)), .second, .val (.long (f0_v131 i0 i1 i2 i3)), .second, .unset, .val (.long (f0_v147 i0 i1 i2 i3)), .second] [])) _
          refine XS.lload X5.here hx rfl (hb hby at_149) rfl ?_
          show Steps p.tables e below (T5.setTop (mkF m 151 #[.val (.int i0), .val (.int i1), .val (.int i2), .val (.int i3), .val (.int (f0_3_s0 i0 i1 i2 i3)), .val (.int (f0_22_s0 i0 i1 i2 i3)), .val (.long (F_f1 (f0_3_s0 i0 i1 i2 i3) (0 : Int32) i2)), .second, .val (.int (F_f2 (F_f1 (f0_3_s0 i0 i1 i2 i3) (0 : Int32) i2) i2)), .val (.long (F_f1 (f0_3_s0 i0 i1 i2 i3) (f0_22_s0 i0 i1 i2 i3) i2)), .second, .val (.long (f0_v131 i0 i1 i2 i3)), .second, .unset, .val (.long (f0_v147 i0 i1 i2 i3)), .second] [(.long (f0_v147 i0 i1 i2 i3))])) _
          refine XS.iloadN X5.here hx rfl (hb hby at_151) rfl ?_
          show Steps p.tables e below (T5.setTop (mkF m 152 #[.val (.int i0), .val (.int i1), .val (.int i2), .val (.int i3), .val (.int (f0_3_s0 i0 i1 i2 i3)), .val (.int (f0_22_s0 i0 i1 i2 i3)), .val (.long (F_f1 (f0_3_s0 i0 i1 i2 i3) (0 : Int32) i2)), .second, .val (.int (F_f2 (F_f1 (f0_3_s0 i0 i1 i2 i3) (0 : Int32) i2) i2)), .val (.long (F_f1 (f0_3_s0 i0 i1 i2 i3) (f0_22_s0 i0 i1 i2 i3) i2)), .second, .val (.long (f0_v131 i0 i1 i2 i3)), .second, .unset, .val (.long (f0_v147 i0 i1 i2 i3)), .second] [(.int i2), (.long (f0_v147 i0 i1 i2 i3))])) _
          refine XS.i2l X5.here hx rfl (hb hby at_152) rfl ?_
          show Steps p.tables e below (T5.setTop (mkF m 153 #[.val (.int i0), .val (.int i1), .val (.int i2), .val (.int i3), .val (.int (f0_3_s0 i0 i1 i2 i3)), .val (.int (f0_22_s0 i0 i1 i2 i3)), .val (.long (F_f1 (f0_3_s0 i0 i1 i2 i3) (0 : Int32) i2)), .second, .val (.int (F_f2 (F_f1 (f0_3_s0 i0 i1 i2 i3) (0 : Int32) i2) i2)), .val (.long (F_f1 (f0_3_s0 i0 i1 i2 i3) (f0_22_s0 i0 i1 i2 i3) i2)), .second, .val (.long (f0_v131 i0 i1 i2 i3)), .second, .unset, .val (.long (f0_v147 i0 i1 i2 i3)), .second] [(.long (i2.toInt64)), (.long (f0_v147 i0 i1 i2 i3))])) _
          refine XS.lcmp X5.here hx rfl (hb hby at_153) rfl ?_
          show Steps p.tables e below (T5.setTop (mkF m 154 #[.val (.int i0), .val (.int i1), .val (.int i2), .val (.int i3), .val (.int (f0_3_s0 i0 i1 i2 i3)), .val (.int (f0_22_s0 i0 i1 i2 i3)), .val (.long (F_f1 (f0_3_s0 i0 i1 i2 i3) (0 : Int32) i2)), .second, .val (.int (F_f2 (F_f1 (f0_3_s0 i0 i1 i2 i3) (0 : Int32) i2) i2)), .val (.long (F_f1 (f0_3_s0 i0 i1 i2 i3) (f0_22_s0 i0 i1 i2 i3) i2)), .second, .val (.long (f0_v131 i0 i1 i2 i3)), .second, .unset, .val (.long (f0_v147 i0 i1 i2 i3)), .second] [(.int (lcmpW (f0_v147 i0 i1 i2 i3) (i2.toInt64)))])) _
          exact k
        by_cases hc154 : (i2.toInt64) < (f0_v147 i0 i1 i2 i3)
        · refine Outs.of (U' := T5.setTop (mkF m 175 #[.val (.int i0), .val (.int i1), .val (.int i2), .val (.int i3), .val (.int (f0_3_s0 i0 i1 i2 i3)), .val (.int (f0_22_s0 i0 i1 i2 i3)), .val (.long (F_f1 (f0_3_s0 i0 i1 i2 i3) (0 : Int32) i2)), .second, .val (.int (F_f2 (F_f1 (f0_3_s0 i0 i1 i2 i3) (0 : Int32) i2) i2)), .val (.long (F_f1 (f0_3_s0 i0 i1 i2 i3) (f0_22_s0 i0 i1 i2 i3) i2)), .second, .val (.long (f0_v131 i0 i1 i2 i3)), .second, .unset, .val (.long (f0_v147 i0 i1 i2 i3)), .second] [])) (fun t k => ?_) ?_
          · refine XS.ifYes X5.here hx rfl (pc0 := 154) (pc' := 175) rfl (hb hby at_154) rfl ((if0 _ _).trans (tlt ((lw_gt _ _).mpr hc154)).2.2.1) (by decide) (by decide) ?_
            show Steps p.tables e below (T5.setTop (mkF m 175 #[.val (.int i0), .val (.int i1), .val (.int i2), .val (.int i3), .val (.int (f0_3_s0 i0 i1 i2 i3)), .val (.int (f0_22_s0 i0 i1 i2 i3)), .val (.long (F_f1 (f0_3_s0 i0 i1 i2 i3) (0 : Int32) i2)), .second, .val (.int (F_f2 (F_f1 (f0_3_s0 i0 i1 i2 i3) (0 : Int32) i2) i2)), .val (.long (F_f1 (f0_3_s0 i0 i1 i2 i3) (f0_22_s0 i0 i1 i2 i3) i2)), .second, .val (.long (f0_v131 i0 i1 i2 i3)), .second, .unset, .val (.long (f0_v147 i0 i1 i2 i3)), .second] [])) _
            exact k
          refine Outs.of (U' := T5.setTop (mkF m 178 #[.val (.int i0), .val (.int i1), .val (.int i2), .val (.int i3), .val (.int (f0_3_s0 i0 i1 i2 i3)), .val (.int (f0_22_s0 i0 i1 i2 i3)), .val (.long (F_f1 (f0_3_s0 i0 i1 i2 i3) (0 : Int32) i2)), .second, .val (.int (F_f2 (F_f1 (f0_3_s0 i0 i1 i2 i3) (0 : Int32) i2) i2)), .val (.long (F_f1 (f0_3_s0 i0 i1 i2 i3) (f0_22_s0 i0 i1 i2 i3) i2)), .second, .val (.long (f0_v131 i0 i1 i2 i3)), .second, .unset, .val (.long (f0_v147 i0 i1 i2 i3)), .second] [(.int i2), (.long (f0_v131 i0 i1 i2 i3))])) (fun t k => ?_) ?_
          · refine XS.lload X5.here hx rfl (hb hby at_175) rfl ?_
            show Steps p.tables e below (T5.setTop (mkF m 177 #[.val (.int i0), .val (.int i1), .val (.int i2), .val (.int i3), .val (.int (f0_3_s0 i0 i1 i2 i3)), .val (.int (f0_22_s0 i0 i1 i2 i3)), .val (.long (F_f1 (f0_3_s0 i0 i1 i2 i3) (0 : Int32) i2)), .second, .val (.int (F_f2 (F_f1 (f0_3_s0 i0 i1 i2 i3) (0 : Int32) i2) i2)), .val (.long (F_f1 (f0_3_s0 i0 i1 i2 i3) (f0_22_s0 i0 i1 i2 i3) i2)), .second, .val (.long (f0_v131 i0 i1 i2 i3)), .second, .unset, .val (.long (f0_v147 i0 i1 i2 i3)), .second] [(.long (f0_v131 i0 i1 i2 i3))])) _
            refine XS.iloadN X5.here hx rfl (hb hby at_177) rfl ?_
            show Steps p.tables e below (T5.setTop (mkF m 178 #[.val (.int i0), .val (.int i1), .val (.int i2), .val (.int i3), .val (.int (f0_3_s0 i0 i1 i2 i3)), .val (.int (f0_22_s0 i0 i1 i2 i3)), .val (.long (F_f1 (f0_3_s0 i0 i1 i2 i3) (0 : Int32) i2)), .second, .val (.int (F_f2 (F_f1 (f0_3_s0 i0 i1 i2 i3) (0 : Int32) i2) i2)), .val (.long (F_f1 (f0_3_s0 i0 i1 i2 i3) (f0_22_s0 i0 i1 i2 i3) i2)), .second, .val (.long (f0_v131 i0 i1 i2 i3)), .second, .unset, .val (.long (f0_v147 i0 i1 i2 i3)), .second] [(.int i2), (.long (f0_v131 i0 i1 i2 i3))])) _
            exact k
          obtain ⟨_, _, ⟨T7, L7, k7, n7⟩, -, X7, ⟨Lc7, hQ7, l7, y7, z7⟩, st7⟩ := Jvm.LawKit.callS X5 hx (y := (⟨"com/example/ratatoskr/ratatoskr/ChoicesCountPinLaw", "over", "(JI)Z"⟩ : MethodName)) hown (mvT hZ (hw _ (List.mem_of_getElem? (i := 6) rfl))) (mvT hZ (hw _ (List.mem_of_getElem? (i := 7) rfl))) (mvT hZ (hw _ (List.mem_of_getElem? (i := 8) rfl))) (mvT hZ (hw _ (List.mem_of_getElem? (i := 9) rfl))) (by decide) (backOf (W := 0) (rm2 l Z a0 hw [] (f0_v131 i0 i1 i2 i3) i2 h0 n0 ) hZ (hw _ (List.mem_of_getElem? (i := 9) rfl)) (hw _ (List.mem_of_getElem? (i := 8) rfl)) (by decide) (by decide)) (g := (mkF m 178 #[.val (.int i0), .val (.int i1), .val (.int i2), .val (.int i3), .val (.int (f0_3_s0 i0 i1 i2 i3)), .val (.int (f0_22_s0 i0 i1 i2 i3)), .val (.long (F_f1 (f0_3_s0 i0 i1 i2 i3) (0 : Int32) i2)), .second, .val (.int (F_f2 (F_f1 (f0_3_s0 i0 i1 i2 i3) (0 : Int32) i2) i2)), .val (.long (F_f1 (f0_3_s0 i0 i1 i2 i3) (f0_22_s0 i0 i1 i2 i3) i2)), .second, .val (.long (f0_v131 i0 i1 i2 i3)), .second, .unset, .val (.long (f0_v147 i0 i1 i2 i3)), .second] [(.int i2), (.long (f0_v131 i0 i1 i2 i3))])) rfl (by rw [hml]; rfl) (argsL := [(.long (f0_v131 i0 i1 i2 i3)), (.int i2)]) (rest := []) (lenOf pd_1 rfl) rfl (by show 2 * 0 + _ ≤ _; exact Nat.le_of_eq rfl) (hb hby at_178) (fun _ _ => ⟨rfl, e5, (by decide : 0 + 0 ≤ _), (by decide : 0 + 0 ≤ _)⟩)
          dsimp only [Pt.U, Pt.locs, Pt.cells, Pt.slots] at X7 l7 y7 z7 st7 hQ7
          subst l7 y7 z7
          obtain ⟨rfl, N7q, e7⟩ := hQ7
          have N7 := Fr.app N5 N7q
          refine Outs.of st7 ?_
          show Outs p e below s _ _ _ (T7.setTop (mkF m 181 #[.val (.int i0), .val (.int i1), .val (.int i2), .val (.int i3), .val (.int (f0_3_s0 i0 i1 i2 i3)), .val (.int (f0_22_s0 i0 i1 i2 i3)), .val (.long (F_f1 (f0_3_s0 i0 i1 i2 i3) (0 : Int32) i2)), .second, .val (.int (F_f2 (F_f1 (f0_3_s0 i0 i1 i2 i3) (0 : Int32) i2) i2)), .val (.long (F_f1 (f0_3_s0 i0 i1 i2 i3) (f0_22_s0 i0 i1 i2 i3) i2)), .second, .val (.long (f0_v131 i0 i1 i2 i3)), .second, .unset, .val (.long (f0_v147 i0 i1 i2 i3)), .second] [(.int (F_f2 (f0_v131 i0 i1 i2 i3) i2))]))
          refine Outs.of (U' := T7.setTop (mkF m 217 #[.val (.int i0), .val (.int i1), .val (.int i2), .val (.int i3), .val (.int (f0_3_s0 i0 i1 i2 i3)), .val (.int (f0_22_s0 i0 i1 i2 i3)), .val (.long (F_f1 (f0_3_s0 i0 i1 i2 i3) (0 : Int32) i2)), .second, .val (.int (F_f2 (F_f1 (f0_3_s0 i0 i1 i2 i3) (0 : Int32) i2) i2)), .val (.long (F_f1 (f0_3_s0 i0 i1 i2 i3) (f0_22_s0 i0 i1 i2 i3) i2)), .second, .val (.long (f0_v131 i0 i1 i2 i3)), .second, .val (.int (F_f2 (f0_v131 i0 i1 i2 i3) i2)), .val (.long (f0_v147 i0 i1 i2 i3)), .second] [(.int (f0_200_s0 i0 i1 i2 i3))])) (fun t k => ?_) ?_
          · refine XS.istore X7.here hx rfl (hb hby at_181) rfl (l' := #[.val (.int i0), .val (.int i1), .val (.int i2), .val (.int i3), .val (.int (f0_3_s0 i0 i1 i2 i3)), .val (.int (f0_22_s0 i0 i1 i2 i3)), .val (.long (F_f1 (f0_3_s0 i0 i1 i2 i3) (0 : Int32) i2)), .second, .val (.int (F_f2 (F_f1 (f0_3_s0 i0 i1 i2 i3) (0 : Int32) i2) i2)), .val (.long (F_f1 (f0_3_s0 i0 i1 i2 i3) (f0_22_s0 i0 i1 i2 i3) i2)), .second, .val (.long (f0_v131 i0 i1 i2 i3)), .second, .val (.int (F_f2 (f0_v131 i0 i1 i2 i3) i2)), .val (.long (f0_v147 i0 i1 i2 i3)), .second]) rfl ?_
            show Steps p.tables e below (T7.setTop (mkF m 183 #[.val (.int i0), .val (.int i1), .val (.int i2), .val (.int i3), .val (.int (f0_3_s0 i0 i1 i2 i3)), .val (.int (f0_22_s0 i0 i1 i2 i3)), .val (.long (F_f1 (f0_3_s0 i0 i1 i2 i3) (0 : Int32) i2)), .second, .val (.int (F_f2 (F_f1 (f0_3_s0 i0 i1 i2 i3) (0 : Int32) i2) i2)), .val (.long (F_f1 (f0_3_s0 i0 i1 i2 i3) (f0_22_s0 i0 i1 i2 i3) i2)), .second, .val (.long (f0_v131 i0 i1 i2 i3)), .second, .val (.int (F_f2 (f0_v131 i0 i1 i2 i3) i2)), .val (.long (f0_v147 i0 i1 i2 i3)), .second] [])) _
            refine XS.goto X7.here hx rfl (pc0 := 183) (pc' := 194) rfl (hb hby at_183) (by decide) (by decide) ?_
            show Steps p.tables e below (T7.setTop (mkF m 194 #[.val (.int i0), .val (.int i1), .val (.int i2), .val (.int i3), .val (.int (f0_3_s0 i0 i1 i2 i3)), .val (.int (f0_22_s0 i0 i1 i2 i3)), .val (.long (F_f1 (f0_3_s0 i0 i1 i2 i3) (0 : Int32) i2)), .second, .val (.int (F_f2 (F_f1 (f0_3_s0 i0 i1 i2 i3) (0 : Int32) i2) i2)), .val (.long (F_f1 (f0_3_s0 i0 i1 i2 i3) (f0_22_s0 i0 i1 i2 i3) i2)), .second, .val (.long (f0_v131 i0 i1 i2 i3)), .second, .val (.int (F_f2 (f0_v131 i0 i1 i2 i3) i2)), .val (.long (f0_v147 i0 i1 i2 i3)), .second] [])) _
            refine XS.lload X7.here hx rfl (hb hby at_194) rfl ?_
            show Steps p.tables e below (T7.setTop (mkF m 196 #[.val (.int i0), .val (.int i1), .val (.int i2), .val (.int i3), .val (.int (f0_3_s0 i0 i1 i2 i3)), .val (.int (f0_22_s0 i0 i1 i2 i3)), .val (.long (F_f1 (f0_3_s0 i0 i1 i2 i3) (0 : Int32) i2)), .second, .val (.int (F_f2 (F_f1 (f0_3_s0 i0 i1 i2 i3) (0 : Int32) i2) i2)), .val (.long (F_f1 (f0_3_s0 i0 i1 i2 i3) (f0_22_s0 i0 i1 i2 i3) i2)), .second, .val (.long (f0_v131 i0 i1 i2 i3)), .second, .val (.int (F_f2 (f0_v131 i0 i1 i2 i3) i2)), .val (.long (f0_v147 i0 i1 i2 i3)), .second] [(.long (F_f1 (f0_3_s0 i0 i1 i2 i3) (f0_22_s0 i0 i1 i2 i3) i2))])) _
            refine X7.ldc2Long hx hown (mvT hZ (hw _ (List.mem_of_getElem? (i := 10) rfl))) (g := (mkF m 196 #[.val (.int i0), .val (.int i1), .val (.int i2), .val (.int i3), .val (.int (f0_3_s0 i0 i1 i2 i3)), .val (.int (f0_22_s0 i0 i1 i2 i3)), .val (.long (F_f1 (f0_3_s0 i0 i1 i2 i3) (0 : Int32) i2)), .second, .val (.int (F_f2 (F_f1 (f0_3_s0 i0 i1 i2 i3) (0 : Int32) i2) i2)), .val (.long (F_f1 (f0_3_s0 i0 i1 i2 i3) (f0_22_s0 i0 i1 i2 i3) i2)), .second, .val (.long (f0_v131 i0 i1 i2 i3)), .second, .val (.int (F_f2 (f0_v131 i0 i1 i2 i3) i2)), .val (.long (f0_v147 i0 i1 i2 i3)), .second] [(.long (F_f1 (f0_3_s0 i0 i1 i2 i3) (f0_22_s0 i0 i1 i2 i3) i2))])) rfl (hb hby at_196) _ ?_
            show Steps p.tables e below (T7.setTop (mkF m 199 #[.val (.int i0), .val (.int i1), .val (.int i2), .val (.int i3), .val (.int (f0_3_s0 i0 i1 i2 i3)), .val (.int (f0_22_s0 i0 i1 i2 i3)), .val (.long (F_f1 (f0_3_s0 i0 i1 i2 i3) (0 : Int32) i2)), .second, .val (.int (F_f2 (F_f1 (f0_3_s0 i0 i1 i2 i3) (0 : Int32) i2) i2)), .val (.long (F_f1 (f0_3_s0 i0 i1 i2 i3) (f0_22_s0 i0 i1 i2 i3) i2)), .second, .val (.long (f0_v131 i0 i1 i2 i3)), .second, .val (.int (F_f2 (f0_v131 i0 i1 i2 i3) i2)), .val (.long (f0_v147 i0 i1 i2 i3)), .second] [(.long (4611686018427387904 : Int64)), (.long (F_f1 (f0_3_s0 i0 i1 i2 i3) (f0_22_s0 i0 i1 i2 i3) i2))])) _
            refine XS.lcmp X7.here hx rfl (hb hby at_199) rfl ?_
            show Steps p.tables e below (T7.setTop (mkF m 200 #[.val (.int i0), .val (.int i1), .val (.int i2), .val (.int i3), .val (.int (f0_3_s0 i0 i1 i2 i3)), .val (.int (f0_22_s0 i0 i1 i2 i3)), .val (.long (F_f1 (f0_3_s0 i0 i1 i2 i3) (0 : Int32) i2)), .second, .val (.int (F_f2 (F_f1 (f0_3_s0 i0 i1 i2 i3) (0 : Int32) i2) i2)), .val (.long (F_f1 (f0_3_s0 i0 i1 i2 i3) (f0_22_s0 i0 i1 i2 i3) i2)), .second, .val (.long (f0_v131 i0 i1 i2 i3)), .second, .val (.int (F_f2 (f0_v131 i0 i1 i2 i3) i2)), .val (.long (f0_v147 i0 i1 i2 i3)), .second] [(.int (lcmpW (F_f1 (f0_3_s0 i0 i1 i2 i3) (f0_22_s0 i0 i1 i2 i3) i2) (4611686018427387904 : Int64)))])) _
            by_cases hc200 : (F_f1 (f0_3_s0 i0 i1 i2 i3) (f0_22_s0 i0 i1 i2 i3) i2) < (4611686018427387904 : Int64)
            · refine XS.ifNo X7.here hx rfl (hb hby at_200) rfl ((if0 _ _).trans (tlt ((lw_lt _ _).mpr hc200)).2.1) ?_
              show Steps p.tables e below (T7.setTop (mkF m 203 #[.val (.int i0), .val (.int i1), .val (.int i2), .val (.int i3), .val (.int (f0_3_s0 i0 i1 i2 i3)), .val (.int (f0_22_s0 i0 i1 i2 i3)), .val (.long (F_f1 (f0_3_s0 i0 i1 i2 i3) (0 : Int32) i2)), .second, .val (.int (F_f2 (F_f1 (f0_3_s0 i0 i1 i2 i3) (0 : Int32) i2) i2)), .val (.long (F_f1 (f0_3_s0 i0 i1 i2 i3) (f0_22_s0 i0 i1 i2 i3) i2)), .second, .val (.long (f0_v131 i0 i1 i2 i3)), .second, .val (.int (F_f2 (f0_v131 i0 i1 i2 i3) i2)), .val (.long (f0_v147 i0 i1 i2 i3)), .second] [])) _
              refine XS.lload X7.here hx rfl (hb hby at_203) rfl ?_
              show Steps p.tables e below (T7.setTop (mkF m 205 #[.val (.int i0), .val (.int i1), .val (.int i2), .val (.int i3), .val (.int (f0_3_s0 i0 i1 i2 i3)), .val (.int (f0_22_s0 i0 i1 i2 i3)), .val (.long (F_f1 (f0_3_s0 i0 i1 i2 i3) (0 : Int32) i2)), .second, .val (.int (F_f2 (F_f1 (f0_3_s0 i0 i1 i2 i3) (0 : Int32) i2) i2)), .val (.long (F_f1 (f0_3_s0 i0 i1 i2 i3) (f0_22_s0 i0 i1 i2 i3) i2)), .second, .val (.long (f0_v131 i0 i1 i2 i3)), .second, .val (.int (F_f2 (f0_v131 i0 i1 i2 i3) i2)), .val (.long (f0_v147 i0 i1 i2 i3)), .second] [(.long (f0_v131 i0 i1 i2 i3))])) _
              refine X7.ldc2Long hx hown (mvT hZ (hw _ (List.mem_of_getElem? (i := 10) rfl))) (g := (mkF m 205 #[.val (.int i0), .val (.int i1), .val (.int i2), .val (.int i3), .val (.int (f0_3_s0 i0 i1 i2 i3)), .val (.int (f0_22_s0 i0 i1 i2 i3)), .val (.long (F_f1 (f0_3_s0 i0 i1 i2 i3) (0 : Int32) i2)), .second, .val (.int (F_f2 (F_f1 (f0_3_s0 i0 i1 i2 i3) (0 : Int32) i2) i2)), .val (.long (F_f1 (f0_3_s0 i0 i1 i2 i3) (f0_22_s0 i0 i1 i2 i3) i2)), .second, .val (.long (f0_v131 i0 i1 i2 i3)), .second, .val (.int (F_f2 (f0_v131 i0 i1 i2 i3) i2)), .val (.long (f0_v147 i0 i1 i2 i3)), .second] [(.long (f0_v131 i0 i1 i2 i3))])) rfl (hb hby at_205) _ ?_
              show Steps p.tables e below (T7.setTop (mkF m 208 #[.val (.int i0), .val (.int i1), .val (.int i2), .val (.int i3), .val (.int (f0_3_s0 i0 i1 i2 i3)), .val (.int (f0_22_s0 i0 i1 i2 i3)), .val (.long (F_f1 (f0_3_s0 i0 i1 i2 i3) (0 : Int32) i2)), .second, .val (.int (F_f2 (F_f1 (f0_3_s0 i0 i1 i2 i3) (0 : Int32) i2) i2)), .val (.long (F_f1 (f0_3_s0 i0 i1 i2 i3) (f0_22_s0 i0 i1 i2 i3) i2)), .second, .val (.long (f0_v131 i0 i1 i2 i3)), .second, .val (.int (F_f2 (f0_v131 i0 i1 i2 i3) i2)), .val (.long (f0_v147 i0 i1 i2 i3)), .second] [(.long (4611686018427387904 : Int64)), (.long (f0_v131 i0 i1 i2 i3))])) _
              refine XS.lcmp X7.here hx rfl (hb hby at_208) rfl ?_
              show Steps p.tables e below (T7.setTop (mkF m 209 #[.val (.int i0), .val (.int i1), .val (.int i2), .val (.int i3), .val (.int (f0_3_s0 i0 i1 i2 i3)), .val (.int (f0_22_s0 i0 i1 i2 i3)), .val (.long (F_f1 (f0_3_s0 i0 i1 i2 i3) (0 : Int32) i2)), .second, .val (.int (F_f2 (F_f1 (f0_3_s0 i0 i1 i2 i3) (0 : Int32) i2) i2)), .val (.long (F_f1 (f0_3_s0 i0 i1 i2 i3) (f0_22_s0 i0 i1 i2 i3) i2)), .second, .val (.long (f0_v131 i0 i1 i2 i3)), .second, .val (.int (F_f2 (f0_v131 i0 i1 i2 i3) i2)), .val (.long (f0_v147 i0 i1 i2 i3)), .second] [(.int (lcmpW (f0_v131 i0 i1 i2 i3) (4611686018427387904 : Int64)))])) _
              by_cases hc209 : (f0_v131 i0 i1 i2 i3) < (4611686018427387904 : Int64)
              · refine XS.ifNo X7.here hx rfl (hb hby at_209) rfl ((if0 _ _).trans (tlt ((lw_lt _ _).mpr hc209)).2.1) ?_
                show Steps p.tables e below (T7.setTop (mkF m 212 #[.val (.int i0), .val (.int i1), .val (.int i2), .val (.int i3), .val (.int (f0_3_s0 i0 i1 i2 i3)), .val (.int (f0_22_s0 i0 i1 i2 i3)), .val (.long (F_f1 (f0_3_s0 i0 i1 i2 i3) (0 : Int32) i2)), .second, .val (.int (F_f2 (F_f1 (f0_3_s0 i0 i1 i2 i3) (0 : Int32) i2) i2)), .val (.long (F_f1 (f0_3_s0 i0 i1 i2 i3) (f0_22_s0 i0 i1 i2 i3) i2)), .second, .val (.long (f0_v131 i0 i1 i2 i3)), .second, .val (.int (F_f2 (f0_v131 i0 i1 i2 i3) i2)), .val (.long (f0_v147 i0 i1 i2 i3)), .second] [])) _
                refine XS.iconst X7.here hx rfl (hb hby at_212) ?_
                show Steps p.tables e below (T7.setTop (mkF m 213 #[.val (.int i0), .val (.int i1), .val (.int i2), .val (.int i3), .val (.int (f0_3_s0 i0 i1 i2 i3)), .val (.int (f0_22_s0 i0 i1 i2 i3)), .val (.long (F_f1 (f0_3_s0 i0 i1 i2 i3) (0 : Int32) i2)), .second, .val (.int (F_f2 (F_f1 (f0_3_s0 i0 i1 i2 i3) (0 : Int32) i2) i2)), .val (.long (F_f1 (f0_3_s0 i0 i1 i2 i3) (f0_22_s0 i0 i1 i2 i3) i2)), .second, .val (.long (f0_v131 i0 i1 i2 i3)), .second, .val (.int (F_f2 (f0_v131 i0 i1 i2 i3) i2)), .val (.long (f0_v147 i0 i1 i2 i3)), .second] [(.int (1 : Int32))])) _
                refine XS.goto X7.here hx rfl (pc0 := 213) (pc' := 217) rfl (hb hby at_213) (by decide) (by decide) ?_
                show Steps p.tables e below (T7.setTop (mkF m 217 #[.val (.int i0), .val (.int i1), .val (.int i2), .val (.int i3), .val (.int (f0_3_s0 i0 i1 i2 i3)), .val (.int (f0_22_s0 i0 i1 i2 i3)), .val (.long (F_f1 (f0_3_s0 i0 i1 i2 i3) (0 : Int32) i2)), .second, .val (.int (F_f2 (F_f1 (f0_3_s0 i0 i1 i2 i3) (0 : Int32) i2) i2)), .val (.long (F_f1 (f0_3_s0 i0 i1 i2 i3) (f0_22_s0 i0 i1 i2 i3) i2)), .second, .val (.long (f0_v131 i0 i1 i2 i3)), .second, .val (.int (F_f2 (f0_v131 i0 i1 i2 i3) i2)), .val (.long (f0_v147 i0 i1 i2 i3)), .second] [(.int (1 : Int32))])) _
                rw [show (f0_200_s0 i0 i1 i2 i3) = (1 : Int32) from ((if_pos hc200).trans (if_pos hc209))] at k
                exact k
              · refine XS.ifYes X7.here hx rfl (pc0 := 209) (pc' := 216) rfl (hb hby at_209) rfl ((if0 _ _).trans (flt (fun q_ => hc209 ((lw_lt _ _).mp q_))).2.1) (by decide) (by decide) ?_
                show Steps p.tables e below (T7.setTop (mkF m 216 #[.val (.int i0), .val (.int i1), .val (.int i2), .val (.int i3), .val (.int (f0_3_s0 i0 i1 i2 i3)), .val (.int (f0_22_s0 i0 i1 i2 i3)), .val (.long (F_f1 (f0_3_s0 i0 i1 i2 i3) (0 : Int32) i2)), .second, .val (.int (F_f2 (F_f1 (f0_3_s0 i0 i1 i2 i3) (0 : Int32) i2) i2)), .val (.long (F_f1 (f0_3_s0 i0 i1 i2 i3) (f0_22_s0 i0 i1 i2 i3) i2)), .second, .val (.long (f0_v131 i0 i1 i2 i3)), .second, .val (.int (F_f2 (f0_v131 i0 i1 i2 i3) i2)), .val (.long (f0_v147 i0 i1 i2 i3)), .second] [])) _
                refine XS.iconst X7.here hx rfl (hb hby at_216) ?_
                show Steps p.tables e below (T7.setTop (mkF m 217 #[.val (.int i0), .val (.int i1), .val (.int i2), .val (.int i3), .val (.int (f0_3_s0 i0 i1 i2 i3)), .val (.int (f0_22_s0 i0 i1 i2 i3)), .val (.long (F_f1 (f0_3_s0 i0 i1 i2 i3) (0 : Int32) i2)), .second, .val (.int (F_f2 (F_f1 (f0_3_s0 i0 i1 i2 i3) (0 : Int32) i2) i2)), .val (.long (F_f1 (f0_3_s0 i0 i1 i2 i3) (f0_22_s0 i0 i1 i2 i3) i2)), .second, .val (.long (f0_v131 i0 i1 i2 i3)), .second, .val (.int (F_f2 (f0_v131 i0 i1 i2 i3) i2)), .val (.long (f0_v147 i0 i1 i2 i3)), .second] [(.int (0 : Int32))])) _
                rw [show (f0_200_s0 i0 i1 i2 i3) = (0 : Int32) from ((if_pos hc200).trans (if_neg hc209))] at k
                exact k
            · refine XS.ifYes X7.here hx rfl (pc0 := 200) (pc' := 216) rfl (hb hby at_200) rfl ((if0 _ _).trans (flt (fun q_ => hc200 ((lw_lt _ _).mp q_))).2.1) (by decide) (by decide) ?_
              show Steps p.tables e below (T7.setTop (mkF m 216 #[.val (.int i0), .val (.int i1), .val (.int i2), .val (.int i3), .val (.int (f0_3_s0 i0 i1 i2 i3)), .val (.int (f0_22_s0 i0 i1 i2 i3)), .val (.long (F_f1 (f0_3_s0 i0 i1 i2 i3) (0 : Int32) i2)), .second, .val (.int (F_f2 (F_f1 (f0_3_s0 i0 i1 i2 i3) (0 : Int32) i2) i2)), .val (.long (F_f1 (f0_3_s0 i0 i1 i2 i3) (f0_22_s0 i0 i1 i2 i3) i2)), .second, .val (.long (f0_v131 i0 i1 i2 i3)), .second, .val (.int (F_f2 (f0_v131 i0 i1 i2 i3) i2)), .val (.long (f0_v147 i0 i1 i2 i3)), .second] [])) _
              refine XS.iconst X7.here hx rfl (hb hby at_216) ?_
              show Steps p.tables e below (T7.setTop (mkF m 217 #[.val (.int i0), .val (.int i1), .val (.int i2), .val (.int i3), .val (.int (f0_3_s0 i0 i1 i2 i3)), .val (.int (f0_22_s0 i0 i1 i2 i3)), .val (.long (F_f1 (f0_3_s0 i0 i1 i2 i3) (0 : Int32) i2)), .second, .val (.int (F_f2 (F_f1 (f0_3_s0 i0 i1 i2 i3) (0 : Int32) i2) i2)), .val (.long (F_f1 (f0_3_s0 i0 i1 i2 i3) (f0_22_s0 i0 i1 i2 i3) i2)), .second, .val (.long (f0_v131 i0 i1 i2 i3)), .second, .val (.int (F_f2 (f0_v131 i0 i1 i2 i3) i2)), .val (.long (f0_v147 i0 i1 i2 i3)), .second] [(.int (0 : Int32))])) _
              rw [show (f0_200_s0 i0 i1 i2 i3) = (0 : Int32) from (if_neg hc200)] at k
              exact k
          refine Outs.of (U' := T7.setTop (mkF m 239 #[.val (.int i0), .val (.int i1), .val (.int i2), .val (.int i3), .val (.int (f0_3_s0 i0 i1 i2 i3)), .val (.int (f0_22_s0 i0 i1 i2 i3)), .val (.long (F_f1 (f0_3_s0 i0 i1 i2 i3) (0 : Int32) i2)), .second, .val (.int (F_f2 (F_f1 (f0_3_s0 i0 i1 i2 i3) (0 : Int32) i2) i2)), .val (.long (F_f1 (f0_3_s0 i0 i1 i2 i3) (f0_22_s0 i0 i1 i2 i3) i2)), .second, .val (.long (f0_v131 i0 i1 i2 i3)), .second, .val (.int (F_f2 (f0_v131 i0 i1 i2 i3) i2)), .val (.int (f0_200_s0 i0 i1 i2 i3)), .unset] [(.int (f0_221_s0 i0 i1 i2 i3))])) (fun t k => ?_) ?_
          · refine XS.istore X7.here hx rfl (hb hby at_217) rfl (l' := #[.val (.int i0), .val (.int i1), .val (.int i2), .val (.int i3), .val (.int (f0_3_s0 i0 i1 i2 i3)), .val (.int (f0_22_s0 i0 i1 i2 i3)), .val (.long (F_f1 (f0_3_s0 i0 i1 i2 i3) (0 : Int32) i2)), .second, .val (.int (F_f2 (F_f1 (f0_3_s0 i0 i1 i2 i3) (0 : Int32) i2) i2)), .val (.long (F_f1 (f0_3_s0 i0 i1 i2 i3) (f0_22_s0 i0 i1 i2 i3) i2)), .second, .val (.long (f0_v131 i0 i1 i2 i3)), .second, .val (.int (F_f2 (f0_v131 i0 i1 i2 i3) i2)), .val (.int (f0_200_s0 i0 i1 i2 i3)), .unset]) rfl ?_
            show Steps p.tables e below (T7.setTop (mkF m 219 #[.val (.int i0), .val (.int i1), .val (.int i2), .val (.int i3), .val (.int (f0_3_s0 i0 i1 i2 i3)), .val (.int (f0_22_s0 i0 i1 i2 i3)), .val (.long (F_f1 (f0_3_s0 i0 i1 i2 i3) (0 : Int32) i2)), .second, .val (.int (F_f2 (F_f1 (f0_3_s0 i0 i1 i2 i3) (0 : Int32) i2) i2)), .val (.long (F_f1 (f0_3_s0 i0 i1 i2 i3) (f0_22_s0 i0 i1 i2 i3) i2)), .second, .val (.long (f0_v131 i0 i1 i2 i3)), .second, .val (.int (F_f2 (f0_v131 i0 i1 i2 i3) i2)), .val (.int (f0_200_s0 i0 i1 i2 i3)), .unset] [])) _
            refine XS.iload X7.here hx rfl (hb hby at_219) rfl ?_
            show Steps p.tables e below (T7.setTop (mkF m 221 #[.val (.int i0), .val (.int i1), .val (.int i2), .val (.int i3), .val (.int (f0_3_s0 i0 i1 i2 i3)), .val (.int (f0_22_s0 i0 i1 i2 i3)), .val (.long (F_f1 (f0_3_s0 i0 i1 i2 i3) (0 : Int32) i2)), .second, .val (.int (F_f2 (F_f1 (f0_3_s0 i0 i1 i2 i3) (0 : Int32) i2) i2)), .val (.long (F_f1 (f0_3_s0 i0 i1 i2 i3) (f0_22_s0 i0 i1 i2 i3) i2)), .second, .val (.long (f0_v131 i0 i1 i2 i3)), .second, .val (.int (F_f2 (f0_v131 i0 i1 i2 i3) i2)), .val (.int (f0_200_s0 i0 i1 i2 i3)), .unset] [(.int (F_f2 (F_f1 (f0_3_s0 i0 i1 i2 i3) (0 : Int32) i2) i2))])) _
            by_cases hc221 : (F_f2 (F_f1 (f0_3_s0 i0 i1 i2 i3) (0 : Int32) i2) i2) = (0 : Int32)
            · refine XS.ifYes X7.here hx rfl (pc0 := 221) (pc' := 238) rfl (hb hby at_221) rfl ((if0 _ _).trans (teq hc221).1) (by decide) (by decide) ?_
              show Steps p.tables e below (T7.setTop (mkF m 238 #[.val (.int i0), .val (.int i1), .val (.int i2), .val (.int i3), .val (.int (f0_3_s0 i0 i1 i2 i3)), .val (.int (f0_22_s0 i0 i1 i2 i3)), .val (.long (F_f1 (f0_3_s0 i0 i1 i2 i3) (0 : Int32) i2)), .second, .val (.int (F_f2 (F_f1 (f0_3_s0 i0 i1 i2 i3) (0 : Int32) i2) i2)), .val (.long (F_f1 (f0_3_s0 i0 i1 i2 i3) (f0_22_s0 i0 i1 i2 i3) i2)), .second, .val (.long (f0_v131 i0 i1 i2 i3)), .second, .val (.int (F_f2 (f0_v131 i0 i1 i2 i3) i2)), .val (.int (f0_200_s0 i0 i1 i2 i3)), .unset] [])) _
              refine XS.iconst X7.here hx rfl (hb hby at_238) ?_
              show Steps p.tables e below (T7.setTop (mkF m 239 #[.val (.int i0), .val (.int i1), .val (.int i2), .val (.int i3), .val (.int (f0_3_s0 i0 i1 i2 i3)), .val (.int (f0_22_s0 i0 i1 i2 i3)), .val (.long (F_f1 (f0_3_s0 i0 i1 i2 i3) (0 : Int32) i2)), .second, .val (.int (F_f2 (F_f1 (f0_3_s0 i0 i1 i2 i3) (0 : Int32) i2) i2)), .val (.long (F_f1 (f0_3_s0 i0 i1 i2 i3) (f0_22_s0 i0 i1 i2 i3) i2)), .second, .val (.long (f0_v131 i0 i1 i2 i3)), .second, .val (.int (F_f2 (f0_v131 i0 i1 i2 i3) i2)), .val (.int (f0_200_s0 i0 i1 i2 i3)), .unset] [(.int (0 : Int32))])) _
              rw [show (f0_221_s0 i0 i1 i2 i3) = (0 : Int32) from (if_pos hc221)] at k
              exact k
            · refine XS.ifNo X7.here hx rfl (hb hby at_221) rfl ((if0 _ _).trans (feq hc221).1) ?_
              show Steps p.tables e below (T7.setTop (mkF m 224 #[.val (.int i0), .val (.int i1), .val (.int i2), .val (.int i3), .val (.int (f0_3_s0 i0 i1 i2 i3)), .val (.int (f0_22_s0 i0 i1 i2 i3)), .val (.long (F_f1 (f0_3_s0 i0 i1 i2 i3) (0 : Int32) i2)), .second, .val (.int (F_f2 (F_f1 (f0_3_s0 i0 i1 i2 i3) (0 : Int32) i2) i2)), .val (.long (F_f1 (f0_3_s0 i0 i1 i2 i3) (f0_22_s0 i0 i1 i2 i3) i2)), .second, .val (.long (f0_v131 i0 i1 i2 i3)), .second, .val (.int (F_f2 (f0_v131 i0 i1 i2 i3) i2)), .val (.int (f0_200_s0 i0 i1 i2 i3)), .unset] [])) _
              refine XS.iload X7.here hx rfl (hb hby at_224) rfl ?_
              show Steps p.tables e below (T7.setTop (mkF m 226 #[.val (.int i0), .val (.int i1), .val (.int i2), .val (.int i3), .val (.int (f0_3_s0 i0 i1 i2 i3)), .val (.int (f0_22_s0 i0 i1 i2 i3)), .val (.long (F_f1 (f0_3_s0 i0 i1 i2 i3) (0 : Int32) i2)), .second, .val (.int (F_f2 (F_f1 (f0_3_s0 i0 i1 i2 i3) (0 : Int32) i2) i2)), .val (.long (F_f1 (f0_3_s0 i0 i1 i2 i3) (f0_22_s0 i0 i1 i2 i3) i2)), .second, .val (.long (f0_v131 i0 i1 i2 i3)), .second, .val (.int (F_f2 (f0_v131 i0 i1 i2 i3) i2)), .val (.int (f0_200_s0 i0 i1 i2 i3)), .unset] [(.int (F_f2 (f0_v131 i0 i1 i2 i3) i2))])) _
              by_cases hc226 : (F_f2 (f0_v131 i0 i1 i2 i3) i2) = (0 : Int32)
              · refine XS.ifYes X7.here hx rfl (pc0 := 226) (pc' := 238) rfl (hb hby at_226) rfl ((if0 _ _).trans (teq hc226).1) (by decide) (by decide) ?_
                show Steps p.tables e below (T7.setTop (mkF m 238 #[.val (.int i0), .val (.int i1), .val (.int i2), .val (.int i3), .val (.int (f0_3_s0 i0 i1 i2 i3)), .val (.int (f0_22_s0 i0 i1 i2 i3)), .val (.long (F_f1 (f0_3_s0 i0 i1 i2 i3) (0 : Int32) i2)), .second, .val (.int (F_f2 (F_f1 (f0_3_s0 i0 i1 i2 i3) (0 : Int32) i2) i2)), .val (.long (F_f1 (f0_3_s0 i0 i1 i2 i3) (f0_22_s0 i0 i1 i2 i3) i2)), .second, .val (.long (f0_v131 i0 i1 i2 i3)), .second, .val (.int (F_f2 (f0_v131 i0 i1 i2 i3) i2)), .val (.int (f0_200_s0 i0 i1 i2 i3)), .unset] [])) _
                refine XS.iconst X7.here hx rfl (hb hby at_238) ?_
                show Steps p.tables e below (T7.setTop (mkF m 239 #[.val (.int i0), .val (.int i1), .val (.int i2), .val (.int i3), .val (.int (f0_3_s0 i0 i1 i2 i3)), .val (.int (f0_22_s0 i0 i1 i2 i3)), .val (.long (F_f1 (f0_3_s0 i0 i1 i2 i3) (0 : Int32) i2)), .second, .val (.int (F_f2 (F_f1 (f0_3_s0 i0 i1 i2 i3) (0 : Int32) i2) i2)), .val (.long (F_f1 (f0_3_s0 i0 i1 i2 i3) (f0_22_s0 i0 i1 i2 i3) i2)), .second, .val (.long (f0_v131 i0 i1 i2 i3)), .second, .val (.int (F_f2 (f0_v131 i0 i1 i2 i3) i2)), .val (.int (f0_200_s0 i0 i1 i2 i3)), .unset] [(.int (0 : Int32))])) _
                rw [show (f0_221_s0 i0 i1 i2 i3) = (0 : Int32) from ((if_neg hc221).trans (if_pos hc226))] at k
                exact k
              · refine XS.ifNo X7.here hx rfl (hb hby at_226) rfl ((if0 _ _).trans (feq hc226).1) ?_
                show Steps p.tables e below (T7.setTop (mkF m 229 #[.val (.int i0), .val (.int i1), .val (.int i2), .val (.int i3), .val (.int (f0_3_s0 i0 i1 i2 i3)), .val (.int (f0_22_s0 i0 i1 i2 i3)), .val (.long (F_f1 (f0_3_s0 i0 i1 i2 i3) (0 : Int32) i2)), .second, .val (.int (F_f2 (F_f1 (f0_3_s0 i0 i1 i2 i3) (0 : Int32) i2) i2)), .val (.long (F_f1 (f0_3_s0 i0 i1 i2 i3) (f0_22_s0 i0 i1 i2 i3) i2)), .second, .val (.long (f0_v131 i0 i1 i2 i3)), .second, .val (.int (F_f2 (f0_v131 i0 i1 i2 i3) i2)), .val (.int (f0_200_s0 i0 i1 i2 i3)), .unset] [])) _
                refine XS.iload X7.here hx rfl (hb hby at_229) rfl ?_
                show Steps p.tables e below (T7.setTop (mkF m 231 #[.val (.int i0), .val (.int i1), .val (.int i2), .val (.int i3), .val (.int (f0_3_s0 i0 i1 i2 i3)), .val (.int (f0_22_s0 i0 i1 i2 i3)), .val (.long (F_f1 (f0_3_s0 i0 i1 i2 i3) (0 : Int32) i2)), .second, .val (.int (F_f2 (F_f1 (f0_3_s0 i0 i1 i2 i3) (0 : Int32) i2) i2)), .val (.long (F_f1 (f0_3_s0 i0 i1 i2 i3) (f0_22_s0 i0 i1 i2 i3) i2)), .second, .val (.long (f0_v131 i0 i1 i2 i3)), .second, .val (.int (F_f2 (f0_v131 i0 i1 i2 i3) i2)), .val (.int (f0_200_s0 i0 i1 i2 i3)), .unset] [(.int (f0_200_s0 i0 i1 i2 i3))])) _
                by_cases hc231 : (f0_200_s0 i0 i1 i2 i3) = (0 : Int32)
                · refine XS.ifYes X7.here hx rfl (pc0 := 231) (pc' := 238) rfl (hb hby at_231) rfl ((if0 _ _).trans (teq hc231).1) (by decide) (by decide) ?_
                  show Steps p.tables e below (T7.setTop (mkF m 238 #[.val (.int i0), .val (.int i1), .val (.int i2), .val (.int i3), .val (.int (f0_3_s0 i0 i1 i2 i3)), .val (.int (f0_22_s0 i0 i1 i2 i3)), .val (.long (F_f1 (f0_3_s0 i0 i1 i2 i3) (0 : Int32) i2)), .second, .val (.int (F_f2 (F_f1 (f0_3_s0 i0 i1 i2 i3) (0 : Int32) i2) i2)), .val (.long (F_f1 (f0_3_s0 i0 i1 i2 i3) (f0_22_s0 i0 i1 i2 i3) i2)), .second, .val (.long (f0_v131 i0 i1 i2 i3)), .second, .val (.int (F_f2 (f0_v131 i0 i1 i2 i3) i2)), .val (.int (f0_200_s0 i0 i1 i2 i3)), .unset] [])) _
                  refine XS.iconst X7.here hx rfl (hb hby at_238) ?_
                  show Steps p.tables e below (T7.setTop (mkF m 239 #[.val (.int i0), .val (.int i1), .val (.int i2), .val (.int i3), .val (.int (f0_3_s0 i0 i1 i2 i3)), .val (.int (f0_22_s0 i0 i1 i2 i3)), .val (.long (F_f1 (f0_3_s0 i0 i1 i2 i3) (0 : Int32) i2)), .second, .val (.int (F_f2 (F_f1 (f0_3_s0 i0 i1 i2 i3) (0 : Int32) i2) i2)), .val (.long (F_f1 (f0_3_s0 i0 i1 i2 i3) (f0_22_s0 i0 i1 i2 i3) i2)), .second, .val (.long (f0_v131 i0 i1 i2 i3)), .second, .val (.int (F_f2 (f0_v131 i0 i1 i2 i3) i2)), .val (.int (f0_200_s0 i0 i1 i2 i3)), .unset] [(.int (0 : Int32))])) _
                  rw [show (f0_221_s0 i0 i1 i2 i3) = (0 : Int32) from ((if_neg hc221).trans ((if_neg hc226).trans (if_pos hc231)))] at k
                  exact k
                · refine XS.ifNo X7.here hx rfl (hb hby at_231) rfl ((if0 _ _).trans (feq hc231).1) ?_
                  show Steps p.tables e below (T7.setTop (mkF m 234 #[.val (.int i0), .val (.int i1), .val (.int i2), .val (.int i3), .val (.int (f0_3_s0 i0 i1 i2 i3)), .val (.int (f0_22_s0 i0 i1 i2 i3)), .val (.long (F_f1 (f0_3_s0 i0 i1 i2 i3) (0 : Int32) i2)), .second, .val (.int (F_f2 (F_f1 (f0_3_s0 i0 i1 i2 i3) (0 : Int32) i2) i2)), .val (.long (F_f1 (f0_3_s0 i0 i1 i2 i3) (f0_22_s0 i0 i1 i2 i3) i2)), .second, .val (.long (f0_v131 i0 i1 i2 i3)), .second, .val (.int (F_f2 (f0_v131 i0 i1 i2 i3) i2)), .val (.int (f0_200_s0 i0 i1 i2 i3)), .unset] [])) _
                  refine XS.iconst X7.here hx rfl (hb hby at_234) ?_
                  show Steps p.tables e below (T7.setTop (mkF m 235 #[.val (.int i0), .val (.int i1), .val (.int i2), .val (.int i3), .val (.int (f0_3_s0 i0 i1 i2 i3)), .val (.int (f0_22_s0 i0 i1 i2 i3)), .val (.long (F_f1 (f0_3_s0 i0 i1 i2 i3) (0 : Int32) i2)), .second, .val (.int (F_f2 (F_f1 (f0_3_s0 i0 i1 i2 i3) (0 : Int32) i2) i2)), .val (.long (F_f1 (f0_3_s0 i0 i1 i2 i3) (f0_22_s0 i0 i1 i2 i3) i2)), .second, .val (.long (f0_v131 i0 i1 i2 i3)), .second, .val (.int (F_f2 (f0_v131 i0 i1 i2 i3) i2)), .val (.int (f0_200_s0 i0 i1 i2 i3)), .unset] [(.int (1 : Int32))])) _
                  refine XS.goto X7.here hx rfl (pc0 := 235) (pc' := 239) rfl (hb hby at_235) (by decide) (by decide) ?_
                  show Steps p.tables e below (T7.setTop (mkF m 239 #[.val (.int i0), .val (.int i1), .val (.int i2), .val (.int i3), .val (.int (f0_3_s0 i0 i1 i2 i3)), .val (.int (f0_22_s0 i0 i1 i2 i3)), .val (.long (F_f1 (f0_3_s0 i0 i1 i2 i3) (0 : Int32) i2)), .second, .val (.int (F_f2 (F_f1 (f0_3_s0 i0 i1 i2 i3) (0 : Int32) i2) i2)), .val (.long (F_f1 (f0_3_s0 i0 i1 i2 i3) (f0_22_s0 i0 i1 i2 i3) i2)), .second, .val (.long (f0_v131 i0 i1 i2 i3)), .second, .val (.int (F_f2 (f0_v131 i0 i1 i2 i3) i2)), .val (.int (f0_200_s0 i0 i1 i2 i3)), .unset] [(.int (1 : Int32))])) _
                  rw [show (f0_221_s0 i0 i1 i2 i3) = (1 : Int32) from ((if_neg hc221).trans ((if_neg hc226).trans (if_neg hc231)))] at k
                  exact k
          exact Outs.retN (t := .boolean) (z := (f0_221_s0 i0 i1 i2 i3)) X7 hx hret (by simp) (hb hby at_239) hlk (by decide) (by decide) e7 ⟨congrArg (fun z_ => some (Value.int z_)) (law_221_s0_4 i0 i1 i2 i3 hc40 hc85 hc138 hc154), N7⟩
        · refine Outs.of (U' := T5.setTop (mkF m 157 #[.val (.int i0), .val (.int i1), .val (.int i2), .val (.int i3), .val (.int (f0_3_s0 i0 i1 i2 i3)), .val (.int (f0_22_s0 i0 i1 i2 i3)), .val (.long (F_f1 (f0_3_s0 i0 i1 i2 i3) (0 : Int32) i2)), .second, .val (.int (F_f2 (F_f1 (f0_3_s0 i0 i1 i2 i3) (0 : Int32) i2) i2)), .val (.long (F_f1 (f0_3_s0 i0 i1 i2 i3) (f0_22_s0 i0 i1 i2 i3) i2)), .second, .val (.long (f0_v131 i0 i1 i2 i3)), .second, .unset, .val (.long (f0_v147 i0 i1 i2 i3)), .second] [])) (fun t k => ?_) ?_
          · refine XS.ifNo X5.here hx rfl (hb hby at_154) rfl ((if0 _ _).trans (flt (fun q_ => hc154 ((lw_gt _ _).mp q_))).2.2.1) ?_
            show Steps p.tables e below (T5.setTop (mkF m 157 #[.val (.int i0), .val (.int i1), .val (.int i2), .val (.int i3), .val (.int (f0_3_s0 i0 i1 i2 i3)), .val (.int (f0_22_s0 i0 i1 i2 i3)), .val (.long (F_f1 (f0_3_s0 i0 i1 i2 i3) (0 : Int32) i2)), .second, .val (.int (F_f2 (F_f1 (f0_3_s0 i0 i1 i2 i3) (0 : Int32) i2) i2)), .val (.long (F_f1 (f0_3_s0 i0 i1 i2 i3) (f0_22_s0 i0 i1 i2 i3) i2)), .second, .val (.long (f0_v131 i0 i1 i2 i3)), .second, .unset, .val (.long (f0_v147 i0 i1 i2 i3)), .second] [])) _
            exact k
          refine Outs.of (U' := T5.setTop (mkF m 170 #[.val (.int i0), .val (.int i1), .val (.int i2), .val (.int i3), .val (.int (f0_3_s0 i0 i1 i2 i3)), .val (.int (f0_22_s0 i0 i1 i2 i3)), .val (.long (F_f1 (f0_3_s0 i0 i1 i2 i3) (0 : Int32) i2)), .second, .val (.int (F_f2 (F_f1 (f0_3_s0 i0 i1 i2 i3) (0 : Int32) i2) i2)), .val (.long (F_f1 (f0_3_s0 i0 i1 i2 i3) (f0_22_s0 i0 i1 i2 i3) i2)), .second, .val (.long (f0_v131 i0 i1 i2 i3)), .second, .unset, .val (.long (f0_v147 i0 i1 i2 i3)), .second] [(.int (f0_162_s0 i0 i1 i2 i3))])) (fun t k => ?_) ?_
          · refine XS.lload X5.here hx rfl (hb hby at_157) rfl ?_
            show Steps p.tables e below (T5.setTop (mkF m 159 #[.val (.int i0), .val (.int i1), .val (.int i2), .val (.int i3), .val (.int (f0_3_s0 i0 i1 i2 i3)), .val (.int (f0_22_s0 i0 i1 i2 i3)), .val (.long (F_f1 (f0_3_s0 i0 i1 i2 i3) (0 : Int32) i2)), .second, .val (.int (F_f2 (F_f1 (f0_3_s0 i0 i1 i2 i3) (0 : Int32) i2) i2)), .val (.long (F_f1 (f0_3_s0 i0 i1 i2 i3) (f0_22_s0 i0 i1 i2 i3) i2)), .second, .val (.long (f0_v131 i0 i1 i2 i3)), .second, .unset, .val (.long (f0_v147 i0 i1 i2 i3)), .second] [(.long (f0_v131 i0 i1 i2 i3))])) _
            refine XS.lload X5.here hx rfl (hb hby at_159) rfl ?_
            show Steps p.tables e below (T5.setTop (mkF m 161 #[.val (.int i0), .val (.int i1), .val (.int i2), .val (.int i3), .val (.int (f0_3_s0 i0 i1 i2 i3)), .val (.int (f0_22_s0 i0 i1 i2 i3)), .val (.long (F_f1 (f0_3_s0 i0 i1 i2 i3) (0 : Int32) i2)), .second, .val (.int (F_f2 (F_f1 (f0_3_s0 i0 i1 i2 i3) (0 : Int32) i2) i2)), .val (.long (F_f1 (f0_3_s0 i0 i1 i2 i3) (f0_22_s0 i0 i1 i2 i3) i2)), .second, .val (.long (f0_v131 i0 i1 i2 i3)), .second, .unset, .val (.long (f0_v147 i0 i1 i2 i3)), .second] [(.long (f0_v147 i0 i1 i2 i3)), (.long (f0_v131 i0 i1 i2 i3))])) _
            refine XS.lcmp X5.here hx rfl (hb hby at_161) rfl ?_
            show Steps p.tables e below (T5.setTop (mkF m 162 #[.val (.int i0), .val (.int i1), .val (.int i2), .val (.int i3), .val (.int (f0_3_s0 i0 i1 i2 i3)), .val (.int (f0_22_s0 i0 i1 i2 i3)), .val (.long (F_f1 (f0_3_s0 i0 i1 i2 i3) (0 : Int32) i2)), .second, .val (.int (F_f2 (F_f1 (f0_3_s0 i0 i1 i2 i3) (0 : Int32) i2) i2)), .val (.long (F_f1 (f0_3_s0 i0 i1 i2 i3) (f0_22_s0 i0 i1 i2 i3) i2)), .second, .val (.long (f0_v131 i0 i1 i2 i3)), .second, .unset, .val (.long (f0_v147 i0 i1 i2 i3)), .second] [(.int (lcmpW (f0_v131 i0 i1 i2 i3) (f0_v147 i0 i1 i2 i3)))])) _
            by_cases hc162 : (f0_v131 i0 i1 i2 i3) = (f0_v147 i0 i1 i2 i3)
            · refine XS.ifNo X5.here hx rfl (hb hby at_162) rfl ((if0 _ _).trans (teq ((lw_eq _ _).mpr hc162)).2) ?_
              show Steps p.tables e below (T5.setTop (mkF m 165 #[.val (.int i0), .val (.int i1), .val (.int i2), .val (.int i3), .val (.int (f0_3_s0 i0 i1 i2 i3)), .val (.int (f0_22_s0 i0 i1 i2 i3)), .val (.long (F_f1 (f0_3_s0 i0 i1 i2 i3) (0 : Int32) i2)), .second, .val (.int (F_f2 (F_f1 (f0_3_s0 i0 i1 i2 i3) (0 : Int32) i2) i2)), .val (.long (F_f1 (f0_3_s0 i0 i1 i2 i3) (f0_22_s0 i0 i1 i2 i3) i2)), .second, .val (.long (f0_v131 i0 i1 i2 i3)), .second, .unset, .val (.long (f0_v147 i0 i1 i2 i3)), .second] [])) _
              refine XS.iconst X5.here hx rfl (hb hby at_165) ?_
              show Steps p.tables e below (T5.setTop (mkF m 166 #[.val (.int i0), .val (.int i1), .val (.int i2), .val (.int i3), .val (.int (f0_3_s0 i0 i1 i2 i3)), .val (.int (f0_22_s0 i0 i1 i2 i3)), .val (.long (F_f1 (f0_3_s0 i0 i1 i2 i3) (0 : Int32) i2)), .second, .val (.int (F_f2 (F_f1 (f0_3_s0 i0 i1 i2 i3) (0 : Int32) i2) i2)), .val (.long (F_f1 (f0_3_s0 i0 i1 i2 i3) (f0_22_s0 i0 i1 i2 i3) i2)), .second, .val (.long (f0_v131 i0 i1 i2 i3)), .second, .unset, .val (.long (f0_v147 i0 i1 i2 i3)), .second] [(.int (1 : Int32))])) _
              refine XS.goto X5.here hx rfl (pc0 := 166) (pc' := 170) rfl (hb hby at_166) (by decide) (by decide) ?_
              show Steps p.tables e below (T5.setTop (mkF m 170 #[.val (.int i0), .val (.int i1), .val (.int i2), .val (.int i3), .val (.int (f0_3_s0 i0 i1 i2 i3)), .val (.int (f0_22_s0 i0 i1 i2 i3)), .val (.long (F_f1 (f0_3_s0 i0 i1 i2 i3) (0 : Int32) i2)), .second, .val (.int (F_f2 (F_f1 (f0_3_s0 i0 i1 i2 i3) (0 : Int32) i2) i2)), .val (.long (F_f1 (f0_3_s0 i0 i1 i2 i3) (f0_22_s0 i0 i1 i2 i3) i2)), .second, .val (.long (f0_v131 i0 i1 i2 i3)), .second, .unset, .val (.long (f0_v147 i0 i1 i2 i3)), .second] [(.int (1 : Int32))])) _
              rw [show (f0_162_s0 i0 i1 i2 i3) = (1 : Int32) from (if_pos hc162)] at k
              exact k
            · refine XS.ifYes X5.here hx rfl (pc0 := 162) (pc' := 169) rfl (hb hby at_162) rfl ((if0 _ _).trans (feq (fun q_ => hc162 ((lw_eq _ _).mp q_))).2) (by decide) (by decide) ?_
              show Steps p.tables e below (T5.setTop (mkF m 169 #[.val (.int i0), .val (.int i1), .val (.int i2), .val (.int i3), .val (.int (f0_3_s0 i0 i1 i2 i3)), .val (.int (f0_22_s0 i0 i1 i2 i3)), .val (.long (F_f1 (f0_3_s0 i0 i1 i2 i3) (0 : Int32) i2)), .second, .val (.int (F_f2 (F_f1 (f0_3_s0 i0 i1 i2 i3) (0 : Int32) i2) i2)), .val (.long (F_f1 (f0_3_s0 i0 i1 i2 i3) (f0_22_s0 i0 i1 i2 i3) i2)), .second, .val (.long (f0_v131 i0 i1 i2 i3)), .second, .unset, .val (.long (f0_v147 i0 i1 i2 i3)), .second] [])) _
              refine XS.iconst X5.here hx rfl (hb hby at_169) ?_
              show Steps p.tables e below (T5.setTop (mkF m 170 #[.val (.int i0), .val (.int i1), .val (.int i2), .val (.int i3), .val (.int (f0_3_s0 i0 i1 i2 i3)), .val (.int (f0_22_s0 i0 i1 i2 i3)), .val (.long (F_f1 (f0_3_s0 i0 i1 i2 i3) (0 : Int32) i2)), .second, .val (.int (F_f2 (F_f1 (f0_3_s0 i0 i1 i2 i3) (0 : Int32) i2) i2)), .val (.long (F_f1 (f0_3_s0 i0 i1 i2 i3) (f0_22_s0 i0 i1 i2 i3) i2)), .second, .val (.long (f0_v131 i0 i1 i2 i3)), .second, .unset, .val (.long (f0_v147 i0 i1 i2 i3)), .second] [(.int (0 : Int32))])) _
              rw [show (f0_162_s0 i0 i1 i2 i3) = (0 : Int32) from (if_neg hc162)] at k
              exact k
          refine Outs.of (U' := T5.setTop (mkF m 217 #[.val (.int i0), .val (.int i1), .val (.int i2), .val (.int i3), .val (.int (f0_3_s0 i0 i1 i2 i3)), .val (.int (f0_22_s0 i0 i1 i2 i3)), .val (.long (F_f1 (f0_3_s0 i0 i1 i2 i3) (0 : Int32) i2)), .second, .val (.int (F_f2 (F_f1 (f0_3_s0 i0 i1 i2 i3) (0 : Int32) i2) i2)), .val (.long (F_f1 (f0_3_s0 i0 i1 i2 i3) (f0_22_s0 i0 i1 i2 i3) i2)), .second, .val (.long (f0_v131 i0 i1 i2 i3)), .second, .val (.int (f0_162_s0 i0 i1 i2 i3)), .val (.long (f0_v147 i0 i1 i2 i3)), .second] [(.int (f0_200_s0 i0 i1 i2 i3))])) (fun t k => ?_) ?_
          · refine XS.istore X5.here hx rfl (hb hby at_170) rfl (l' := #[.val (.int i0), .val (.int i1), .val (.int i2), .val (.int i3), .val (.int (f0_3_s0 i0 i1 i2 i3)), .val (.int (f0_22_s0 i0 i1 i2 i3)), .val (.long (F_f1 (f0_3_s0 i0 i1 i2 i3) (0 : Int32) i2)), .second, .val (.int (F_f2 (F_f1 (f0_3_s0 i0 i1 i2 i3) (0 : Int32) i2) i2)), .val (.long (F_f1 (f0_3_s0 i0 i1 i2 i3) (f0_22_s0 i0 i1 i2 i3) i2)), .second, .val (.long (f0_v131 i0 i1 i2 i3)), .second, .val (.int (f0_162_s0 i0 i1 i2 i3)), .val (.long (f0_v147 i0 i1 i2 i3)), .second]) rfl ?_
            show Steps p.tables e below (T5.setTop (mkF m 172 #[.val (.int i0), .val (.int i1), .val (.int i2), .val (.int i3), .val (.int (f0_3_s0 i0 i1 i2 i3)), .val (.int (f0_22_s0 i0 i1 i2 i3)), .val (.long (F_f1 (f0_3_s0 i0 i1 i2 i3) (0 : Int32) i2)), .second, .val (.int (F_f2 (F_f1 (f0_3_s0 i0 i1 i2 i3) (0 : Int32) i2) i2)), .val (.long (F_f1 (f0_3_s0 i0 i1 i2 i3) (f0_22_s0 i0 i1 i2 i3) i2)), .second, .val (.long (f0_v131 i0 i1 i2 i3)), .second, .val (.int (f0_162_s0 i0 i1 i2 i3)), .val (.long (f0_v147 i0 i1 i2 i3)), .second] [])) _
            refine XS.goto X5.here hx rfl (pc0 := 172) (pc' := 183) rfl (hb hby at_172) (by decide) (by decide) ?_
            show Steps p.tables e below (T5.setTop (mkF m 183 #[.val (.int i0), .val (.int i1), .val (.int i2), .val (.int i3), .val (.int (f0_3_s0 i0 i1 i2 i3)), .val (.int (f0_22_s0 i0 i1 i2 i3)), .val (.long (F_f1 (f0_3_s0 i0 i1 i2 i3) (0 : Int32) i2)), .second, .val (.int (F_f2 (F_f1 (f0_3_s0 i0 i1 i2 i3) (0 : Int32) i2) i2)), .val (.long (F_f1 (f0_3_s0 i0 i1 i2 i3) (f0_22_s0 i0 i1 i2 i3) i2)), .second, .val (.long (f0_v131 i0 i1 i2 i3)), .second, .val (.int (f0_162_s0 i0 i1 i2 i3)), .val (.long (f0_v147 i0 i1 i2 i3)), .second] [])) _
            refine XS.goto X5.here hx rfl (pc0 := 183) (pc' := 194) rfl (hb hby at_183) (by decide) (by decide) ?_
            show Steps p.tables e below (T5.setTop (mkF m 194 #[.val (.int i0), .val (.int i1), .val (.int i2), .val (.int i3), .val (.int (f0_3_s0 i0 i1 i2 i3)), .val (.int (f0_22_s0 i0 i1 i2 i3)), .val (.long (F_f1 (f0_3_s0 i0 i1 i2 i3) (0 : Int32) i2)), .second, .val (.int (F_f2 (F_f1 (f0_3_s0 i0 i1 i2 i3) (0 : Int32) i2) i2)), .val (.long (F_f1 (f0_3_s0 i0 i1 i2 i3) (f0_22_s0 i0 i1 i2 i3) i2)), .second, .val (.long (f0_v131 i0 i1 i2 i3)), .second, .val (.int (f0_162_s0 i0 i1 i2 i3)), .val (.long (f0_v147 i0 i1 i2 i3)), .second] [])) _
            refine XS.lload X5.here hx rfl (hb hby at_194) rfl ?_
            show Steps p.tables e below (T5.setTop (mkF m 196 #[.val (.int i0), .val (.int i1), .val (.int i2), .val (.int i3), .val (.int (f0_3_s0 i0 i1 i2 i3)), .val (.int (f0_22_s0 i0 i1 i2 i3)), .val (.long (F_f1 (f0_3_s0 i0 i1 i2 i3) (0 : Int32) i2)), .second, .val (.int (F_f2 (F_f1 (f0_3_s0 i0 i1 i2 i3) (0 : Int32) i2) i2)), .val (.long (F_f1 (f0_3_s0 i0 i1 i2 i3) (f0_22_s0 i0 i1 i2 i3) i2)), .second, .val (.long (f0_v131 i0 i1 i2 i3)), .second, .val (.int (f0_162_s0 i0 i1 i2 i3)), .val (.long (f0_v147 i0 i1 i2 i3)), .second] [(.long (F_f1 (f0_3_s0 i0 i1 i2 i3) (f0_22_s0 i0 i1 i2 i3) i2))])) _
            refine X5.ldc2Long hx hown (mvT hZ (hw _ (List.mem_of_getElem? (i := 10) rfl))) (g := (mkF m 196 #[.val (.int i0), .val (.int i1), .val (.int i2), .val (.int i3), .val (.int (f0_3_s0 i0 i1 i2 i3)), .val (.int (f0_22_s0 i0 i1 i2 i3)), .val (.long (F_f1 (f0_3_s0 i0 i1 i2 i3) (0 : Int32) i2)), .second, .val (.int (F_f2 (F_f1 (f0_3_s0 i0 i1 i2 i3) (0 : Int32) i2) i2)), .val (.long (F_f1 (f0_3_s0 i0 i1 i2 i3) (f0_22_s0 i0 i1 i2 i3) i2)), .second, .val (.long (f0_v131 i0 i1 i2 i3)), .second, .val (.int (f0_162_s0 i0 i1 i2 i3)), .val (.long (f0_v147 i0 i1 i2 i3)), .second] [(.long (F_f1 (f0_3_s0 i0 i1 i2 i3) (f0_22_s0 i0 i1 i2 i3) i2))])) rfl (hb hby at_196) _ ?_
            show Steps p.tables e below (T5.setTop (mkF m 199 #[.val (.int i0), .val (.int i1), .val (.int i2), .val (.int i3), .val (.int (f0_3_s0 i0 i1 i2 i3)), .val (.int (f0_22_s0 i0 i1 i2 i3)), .val (.long (F_f1 (f0_3_s0 i0 i1 i2 i3) (0 : Int32) i2)), .second, .val (.int (F_f2 (F_f1 (f0_3_s0 i0 i1 i2 i3) (0 : Int32) i2) i2)), .val (.long (F_f1 (f0_3_s0 i0 i1 i2 i3) (f0_22_s0 i0 i1 i2 i3) i2)), .second, .val (.long (f0_v131 i0 i1 i2 i3)), .second, .val (.int (f0_162_s0 i0 i1 i2 i3)), .val (.long (f0_v147 i0 i1 i2 i3)), .second] [(.long (4611686018427387904 : Int64)), (.long (F_f1 (f0_3_s0 i0 i1 i2 i3) (f0_22_s0 i0 i1 i2 i3) i2))])) _
            refine XS.lcmp X5.here hx rfl (hb hby at_199) rfl ?_
            show Steps p.tables e below (T5.setTop (mkF m 200 #[.val (.int i0), .val (.int i1), .val (.int i2), .val (.int i3), .val (.int (f0_3_s0 i0 i1 i2 i3)), .val (.int (f0_22_s0 i0 i1 i2 i3)), .val (.long (F_f1 (f0_3_s0 i0 i1 i2 i3) (0 : Int32) i2)), .second, .val (.int (F_f2 (F_f1 (f0_3_s0 i0 i1 i2 i3) (0 : Int32) i2) i2)), .val (.long (F_f1 (f0_3_s0 i0 i1 i2 i3) (f0_22_s0 i0 i1 i2 i3) i2)), .second, .val (.long (f0_v131 i0 i1 i2 i3)), .second, .val (.int (f0_162_s0 i0 i1 i2 i3)), .val (.long (f0_v147 i0 i1 i2 i3)), .second] [(.int (lcmpW (F_f1 (f0_3_s0 i0 i1 i2 i3) (f0_22_s0 i0 i1 i2 i3) i2) (4611686018427387904 : Int64)))])) _
            by_cases hc200 : (F_f1 (f0_3_s0 i0 i1 i2 i3) (f0_22_s0 i0 i1 i2 i3) i2) < (4611686018427387904 : Int64)
            · refine XS.ifNo X5.here hx rfl (hb hby at_200) rfl ((if0 _ _).trans (tlt ((lw_lt _ _).mpr hc200)).2.1) ?_
              show Steps p.tables e below (T5.setTop (mkF m 203 #[.val (.int i0), .val (.int i1), .val (.int i2), .val (.int i3), .val (.int (f0_3_s0 i0 i1 i2 i3)), .val (.int (f0_22_s0 i0 i1 i2 i3)), .val (.long (F_f1 (f0_3_s0 i0 i1 i2 i3) (0 : Int32) i2)), .second, .val (.int (F_f2 (F_f1 (f0_3_s0 i0 i1 i2 i3) (0 : Int32) i2) i2)), .val (.long (F_f1 (f0_3_s0 i0 i1 i2 i3) (f0_22_s0 i0 i1 i2 i3) i2)), .second, .val (.long (f0_v131 i0 i1 i2 i3)), .second, .val (.int (f0_162_s0 i0 i1 i2 i3)), .val (.long (f0_v147 i0 i1 i2 i3)), .second] [])) _
              refine XS.lload X5.here hx rfl (hb hby at_203) rfl ?_
              show Steps p.tables e below (T5.setTop (mkF m 205 #[.val (.int i0), .val (.int i1), .val (.int i2), .val (.int i3), .val (.int (f0_3_s0 i0 i1 i2 i3)), .val (.int (f0_22_s0 i0 i1 i2 i3)), .val (.long (F_f1 (f0_3_s0 i0 i1 i2 i3) (0 : Int32) i2)), .second, .val (.int (F_f2 (F_f1 (f0_3_s0 i0 i1 i2 i3) (0 : Int32) i2) i2)), .val (.long (F_f1 (f0_3_s0 i0 i1 i2 i3) (f0_22_s0 i0 i1 i2 i3) i2)), .second, .val (.long (f0_v131 i0 i1 i2 i3)), .second, .val (.int (f0_162_s0 i0 i1 i2 i3)), .val (.long (f0_v147 i0 i1 i2 i3)), .second] [(.long (f0_v131 i0 i1 i2 i3))])) _
              refine X5.ldc2Long hx hown (mvT hZ (hw _ (List.mem_of_getElem? (i := 10) rfl))) (g := (mkF m 205 #[.val (.int i0), .val (.int i1), .val (.int i2), .val (.int i3), .val (.int (f0_3_s0 i0 i1 i2 i3)), .val (.int (f0_22_s0 i0 i1 i2 i3)), .val (.long (F_f1 (f0_3_s0 i0 i1 i2 i3) (0 : Int32) i2)), .second, .val (.int (F_f2 (F_f1 (f0_3_s0 i0 i1 i2 i3) (0 : Int32) i2) i2)), .val (.long (F_f1 (f0_3_s0 i0 i1 i2 i3) (f0_22_s0 i0 i1 i2 i3) i2)), .second, .val (.long (f0_v131 i0 i1 i2 i3)), .second, .val (.int (f0_162_s0 i0 i1 i2 i3)), .val (.long (f0_v147 i0 i1 i2 i3)), .second] [(.long (f0_v131 i0 i1 i2 i3))])) rfl (hb hby at_205) _ ?_
              show Steps p.tables e below (T5.setTop (mkF m 208 #[.val (.int i0), .val (.int i1), .val (.int i2), .val (.int i3), .val (.int (f0_3_s0 i0 i1 i2 i3)), .val (.int (f0_22_s0 i0 i1 i2 i3)), .val (.long (F_f1 (f0_3_s0 i0 i1 i2 i3) (0 : Int32) i2)), .second, .val (.int (F_f2 (F_f1 (f0_3_s0 i0 i1 i2 i3) (0 : Int32) i2) i2)), .val (.long (F_f1 (f0_3_s0 i0 i1 i2 i3) (f0_22_s0 i0 i1 i2 i3) i2)), .second, .val (.long (f0_v131 i0 i1 i2 i3)), .second, .val (.int (f0_162_s0 i0 i1 i2 i3)), .val (.long (f0_v147 i0 i1 i2 i3)), .second] [(.long (4611686018427387904 : Int64)), (.long (f0_v131 i0 i1 i2 i3))])) _
              refine XS.lcmp X5.here hx rfl (hb hby at_208) rfl ?_
              show Steps p.tables e below (T5.setTop (mkF m 209 #[.val (.int i0), .val (.int i1), .val (.int i2), .val (.int i3), .val (.int (f0_3_s0 i0 i1 i2 i3)), .val (.int (f0_22_s0 i0 i1 i2 i3)), .val (.long (F_f1 (f0_3_s0 i0 i1 i2 i3) (0 : Int32) i2)), .second, .val (.int (F_f2 (F_f1 (f0_3_s0 i0 i1 i2 i3) (0 : Int32) i2) i2)), .val (.long (F_f1 (f0_3_s0 i0 i1 i2 i3) (f0_22_s0 i0 i1 i2 i3) i2)), .second, .val (.long (f0_v131 i0 i1 i2 i3)), .second, .val (.int (f0_162_s0 i0 i1 i2 i3)), .val (.long (f0_v147 i0 i1 i2 i3)), .second] [(.int (lcmpW (f0_v131 i0 i1 i2 i3) (4611686018427387904 : Int64)))])) _
              by_cases hc209 : (f0_v131 i0 i1 i2 i3) < (4611686018427387904 : Int64)
              · refine XS.ifNo X5.here hx rfl (hb hby at_209) rfl ((if0 _ _).trans (tlt ((lw_lt _ _).mpr hc209)).2.1) ?_
                show Steps p.tables e below (T5.setTop (mkF m 212 #[.val (.int i0), .val (.int i1), .val (.int i2), .val (.int i3), .val (.int (f0_3_s0 i0 i1 i2 i3)), .val (.int (f0_22_s0 i0 i1 i2 i3)), .val (.long (F_f1 (f0_3_s0 i0 i1 i2 i3) (0 : Int32) i2)), .second, .val (.int (F_f2 (F_f1 (f0_3_s0 i0 i1 i2 i3) (0 : Int32) i2) i2)), .val (.long (F_f1 (f0_3_s0 i0 i1 i2 i3) (f0_22_s0 i0 i1 i2 i3) i2)), .second, .val (.long (f0_v131 i0 i1 i2 i3)), .second, .val (.int (f0_162_s0 i0 i1 i2 i3)), .val (.long (f0_v147 i0 i1 i2 i3)), .second] [])) _
                refine XS.iconst X5.here hx rfl (hb hby at_212) ?_
                show Steps p.tables e below (T5.setTop (mkF m 213 #[.val (.int i0), .val (.int i1), .val (.int i2), .val (.int i3), .val (.int (f0_3_s0 i0 i1 i2 i3)), .val (.int (f0_22_s0 i0 i1 i2 i3)), .val (.long (F_f1 (f0_3_s0 i0 i1 i2 i3) (0 : Int32) i2)), .second, .val (.int (F_f2 (F_f1 (f0_3_s0 i0 i1 i2 i3) (0 : Int32) i2) i2)), .val (.long (F_f1 (f0_3_s0 i0 i1 i2 i3) (f0_22_s0 i0 i1 i2 i3) i2)), .second, .val (.long (f0_v131 i0 i1 i2 i3)), .second, .val (.int (f0_162_s0 i0 i1 i2 i3)), .val (.long (f0_v147 i0 i1 i2 i3)), .second] [(.int (1 : Int32))])) _
                refine XS.goto X5.here hx rfl (pc0 := 213) (pc' := 217) rfl (hb hby at_213) (by decide) (by decide) ?_
                show Steps p.tables e below (T5.setTop (mkF m 217 #[.val (.int i0), .val (.int i1), .val (.int i2), .val (.int i3), .val (.int (f0_3_s0 i0 i1 i2 i3)), .val (.int (f0_22_s0 i0 i1 i2 i3)), .val (.long (F_f1 (f0_3_s0 i0 i1 i2 i3) (0 : Int32) i2)), .second, .val (.int (F_f2 (F_f1 (f0_3_s0 i0 i1 i2 i3) (0 : Int32) i2) i2)), .val (.long (F_f1 (f0_3_s0 i0 i1 i2 i3) (f0_22_s0 i0 i1 i2 i3) i2)), .second, .val (.long (f0_v131 i0 i1 i2 i3)), .second, .val (.int (f0_162_s0 i0 i1 i2 i3)), .val (.long (f0_v147 i0 i1 i2 i3)), .second] [(.int (1 : Int32))])) _
                rw [show (f0_200_s0 i0 i1 i2 i3) = (1 : Int32) from ((if_pos hc200).trans (if_pos hc209))] at k
                exact k
              · refine XS.ifYes X5.here hx rfl (pc0 := 209) (pc' := 216) rfl (hb hby at_209) rfl ((if0 _ _).trans (flt (fun q_ => hc209 ((lw_lt _ _).mp q_))).2.1) (by decide) (by decide) ?_
                show Steps p.tables e below (T5.setTop (mkF m 216 #[.val (.int i0), .val (.int i1), .val (.int i2), .val (.int i3), .val (.int (f0_3_s0 i0 i1 i2 i3)), .val (.int (f0_22_s0 i0 i1 i2 i3)), .val (.long (F_f1 (f0_3_s0 i0 i1 i2 i3) (0 : Int32) i2)), .second, .val (.int (F_f2 (F_f1 (f0_3_s0 i0 i1 i2 i3) (0 : Int32) i2) i2)), .val (.long (F_f1 (f0_3_s0 i0 i1 i2 i3) (f0_22_s0 i0 i1 i2 i3) i2)), .second, .val (.long (f0_v131 i0 i1 i2 i3)), .second, .val (.int (f0_162_s0 i0 i1 i2 i3)), .val (.long (f0_v147 i0 i1 i2 i3)), .second] [])) _
                refine XS.iconst X5.here hx rfl (hb hby at_216) ?_
                show Steps p.tables e below (T5.setTop (mkF m 217 #[.val (.int i0), .val (.int i1), .val (.int i2), .val (.int i3), .val (.int (f0_3_s0 i0 i1 i2 i3)), .val (.int (f0_22_s0 i0 i1 i2 i3)), .val (.long (F_f1 (f0_3_s0 i0 i1 i2 i3) (0 : Int32) i2)), .second, .val (.int (F_f2 (F_f1 (f0_3_s0 i0 i1 i2 i3) (0 : Int32) i2) i2)), .val (.long (F_f1 (f0_3_s0 i0 i1 i2 i3) (f0_22_s0 i0 i1 i2 i3) i2)), .second, .val (.long (f0_v131 i0 i1 i2 i3)), .second, .val (.int (f0_162_s0 i0 i1 i2 i3)), .val (.long (f0_v147 i0 i1 i2 i3)), .second] [(.int (0 : Int32))])) _
                rw [show (f0_200_s0 i0 i1 i2 i3) = (0 : Int32) from ((if_pos hc200).trans (if_neg hc209))] at k
                exact k
            · refine XS.ifYes X5.here hx rfl (pc0 := 200) (pc' := 216) rfl (hb hby at_200) rfl ((if0 _ _).trans (flt (fun q_ => hc200 ((lw_lt _ _).mp q_))).2.1) (by decide) (by decide) ?_
              show Steps p.tables e below (T5.setTop (mkF m 216 #[.val (.int i0), .val (.int i1), .val (.int i2), .val (.int i3), .val (.int (f0_3_s0 i0 i1 i2 i3)), .val (.int (f0_22_s0 i0 i1 i2 i3)), .val (.long (F_f1 (f0_3_s0 i0 i1 i2 i3) (0 : Int32) i2)), .second, .val (.int (F_f2 (F_f1 (f0_3_s0 i0 i1 i2 i3) (0 : Int32) i2) i2)), .val (.long (F_f1 (f0_3_s0 i0 i1 i2 i3) (f0_22_s0 i0 i1 i2 i3) i2)), .second, .val (.long (f0_v131 i0 i1 i2 i3)), .second, .val (.int (f0_162_s0 i0 i1 i2 i3)), .val (.long (f0_v147 i0 i1 i2 i3)), .second] [])) _
              refine XS.iconst X5.here hx rfl (hb hby at_216) ?_
              show Steps p.tables e below (T5.setTop (mkF m 217 #[.val (.int i0), .val (.int i1), .val (.int i2), .val (.int i3), .val (.int (f0_3_s0 i0 i1 i2 i3)), .val (.int (f0_22_s0 i0 i1 i2 i3)), .val (.long (F_f1 (f0_3_s0 i0 i1 i2 i3) (0 : Int32) i2)), .second, .val (.int (F_f2 (F_f1 (f0_3_s0 i0 i1 i2 i3) (0 : Int32) i2) i2)), .val (.long (F_f1 (f0_3_s0 i0 i1 i2 i3) (f0_22_s0 i0 i1 i2 i3) i2)), .second, .val (.long (f0_v131 i0 i1 i2 i3)), .second, .val (.int (f0_162_s0 i0 i1 i2 i3)), .val (.long (f0_v147 i0 i1 i2 i3)), .second] [(.int (0 : Int32))])) _
              rw [show (f0_200_s0 i0 i1 i2 i3) = (0 : Int32) from (if_neg hc200)] at k
              exact k
          refine Outs.of (U' := T5.setTop (mkF m 239 #[.val (.int i0), .val (.int i1), .val (.int i2), .val (.int i3), .val (.int (f0_3_s0 i0 i1 i2 i3)), .val (.int (f0_22_s0 i0 i1 i2 i3)), .val (.long (F_f1 (f0_3_s0 i0 i1 i2 i3) (0 : Int32) i2)), .second, .val (.int (F_f2 (F_f1 (f0_3_s0 i0 i1 i2 i3) (0 : Int32) i2) i2)), .val (.long (F_f1 (f0_3_s0 i0 i1 i2 i3) (f0_22_s0 i0 i1 i2 i3) i2)), .second, .val (.long (f0_v131 i0 i1 i2 i3)), .second, .val (.int (f0_162_s0 i0 i1 i2 i3)), .val (.int (f0_200_s0 i0 i1 i2 i3)), .unset] [(.int (f0_221_s0a i0 i1 i2 i3))])) (fun t k => ?_) ?_
          · refine XS.istore X5.here hx rfl (hb hby at_217) rfl (l' := #[.val (.int i0), .val (.int i1), .val (.int i2), .val (.int i3), .val (.int (f0_3_s0 i0 i1 i2 i3)), .val (.int (f0_22_s0 i0 i1 i2 i3)), .val (.long (F_f1 (f0_3_s0 i0 i1 i2 i3) (0 : Int32) i2)), .second, .val (.int (F_f2 (F_f1 (f0_3_s0 i0 i1 i2 i3) (0 : Int32) i2) i2)), .val (.long (F_f1 (f0_3_s0 i0 i1 i2 i3) (f0_22_s0 i0 i1 i2 i3) i2)), .second, .val (.long (f0_v131 i0 i1 i2 i3)), .second, .val (.int (f0_162_s0 i0 i1 i2 i3)), .val (.int (f0_200_s0 i0 i1 i2 i3)), .unset]) rfl ?_
            show Steps p.tables e below (T5.setTop (mkF m 219 #[.val (.int i0), .val (.int i1), .val (.int i2), .val (.int i3), .val (.int (f0_3_s0 i0 i1 i2 i3)), .val (.int (f0_22_s0 i0 i1 i2 i3)), .val (.long (F_f1 (f0_3_s0 i0 i1 i2 i3) (0 : Int32) i2)), .second, .val (.int (F_f2 (F_f1 (f0_3_s0 i0 i1 i2 i3) (0 : Int32) i2) i2)), .val (.long (F_f1 (f0_3_s0 i0 i1 i2 i3) (f0_22_s0 i0 i1 i2 i3) i2)), .second, .val (.long (f0_v131 i0 i1 i2 i3)), .second, .val (.int (f0_162_s0 i0 i1 i2 i3)), .val (.int (f0_200_s0 i0 i1 i2 i3)), .unset] [])) _
            refine XS.iload X5.here hx rfl (hb hby at_219) rfl ?_
            show Steps p.tables e below (T5.setTop (mkF m 221 #[.val (.int i0), .val (.int i1), .val (.int i2), .val (.int i3), .val (.int (f0_3_s0 i0 i1 i2 i3)), .val (.int (f0_22_s0 i0 i1 i2 i3)), .val (.long (F_f1 (f0_3_s0 i0 i1 i2 i3) (0 : Int32) i2)), .second, .val (.int (F_f2 (F_f1 (f0_3_s0 i0 i1 i2 i3) (0 : Int32) i2) i2)), .val (.long (F_f1 (f0_3_s0 i0 i1 i2 i3) (f0_22_s0 i0 i1 i2 i3) i2)), .second, .val (.long (f0_v131 i0 i1 i2 i3)), .second, .val (.int (f0_162_s0 i0 i1 i2 i3)), .val (.int (f0_200_s0 i0 i1 i2 i3)), .unset] [(.int (F_f2 (F_f1 (f0_3_s0 i0 i1 i2 i3) (0 : Int32) i2) i2))])) _
            by_cases hc221 : (F_f2 (F_f1 (f0_3_s0 i0 i1 i2 i3) (0 : Int32) i2) i2) = (0 : Int32)
            · refine XS.ifYes X5.here hx rfl (pc0 := 221) (pc' := 238) rfl (hb hby at_221) rfl ((if0 _ _).trans (teq hc221).1) (by decide) (by decide) ?_
              show Steps p.tables e below (T5.setTop (mkF m 238 #[.val (.int i0), .val (.int i1), .val (.int i2), .val (.int i3), .val (.int (f0_3_s0 i0 i1 i2 i3)), .val (.int (f0_22_s0 i0 i1 i2 i3)), .val (.long (F_f1 (f0_3_s0 i0 i1 i2 i3) (0 : Int32) i2)), .second, .val (.int (F_f2 (F_f1 (f0_3_s0 i0 i1 i2 i3) (0 : Int32) i2) i2)), .val (.long (F_f1 (f0_3_s0 i0 i1 i2 i3) (f0_22_s0 i0 i1 i2 i3) i2)), .second, .val (.long (f0_v131 i0 i1 i2 i3)), .second, .val (.int (f0_162_s0 i0 i1 i2 i3)), .val (.int (f0_200_s0 i0 i1 i2 i3)), .unset] [])) _
              refine XS.iconst X5.here hx rfl (hb hby at_238) ?_
              show Steps p.tables e below (T5.setTop (mkF m 239 #[.val (.int i0), .val (.int i1), .val (.int i2), .val (.int i3), .val (.int (f0_3_s0 i0 i1 i2 i3)), .val (.int (f0_22_s0 i0 i1 i2 i3)), .val (.long (F_f1 (f0_3_s0 i0 i1 i2 i3) (0 : Int32) i2)), .second, .val (.int (F_f2 (F_f1 (f0_3_s0 i0 i1 i2 i3) (0 : Int32) i2) i2)), .val (.long (F_f1 (f0_3_s0 i0 i1 i2 i3) (f0_22_s0 i0 i1 i2 i3) i2)), .second, .val (.long (f0_v131 i0 i1 i2 i3)), .second, .val (.int (f0_162_s0 i0 i1 i2 i3)), .val (.int (f0_200_s0 i0 i1 i2 i3)), .unset] [(.int (0 : Int32))])) _
              rw [show (f0_221_s0a i0 i1 i2 i3) = (0 : Int32) from (if_pos hc221)] at k
              exact k
            · refine XS.ifNo X5.here hx rfl (hb hby at_221) rfl ((if0 _ _).trans (feq hc221).1) ?_
              show Steps p.tables e below (T5.setTop (mkF m 224 #[.val (.int i0), .val (.int i1), .val (.int i2), .val (.int i3), .val (.int (f0_3_s0 i0 i1 i2 i3)), .val (.int (f0_22_s0 i0 i1 i2 i3)), .val (.long (F_f1 (f0_3_s0 i0 i1 i2 i3) (0 : Int32) i2)), .second, .val (.int (F_f2 (F_f1 (f0_3_s0 i0 i1 i2 i3) (0 : Int32) i2) i2)), .val (.long (F_f1 (f0_3_s0 i0 i1 i2 i3) (f0_22_s0 i0 i1 i2 i3) i2)), .second, .val (.long (f0_v131 i0 i1 i2 i3)), .second, .val (.int (f0_162_s0 i0 i1 i2 i3)), .val (.int (f0_200_s0 i0 i1 i2 i3)), .unset] [])) _
              refine XS.iload X5.here hx rfl (hb hby at_224) rfl ?_
              show Steps p.tables e below (T5.setTop (mkF m 226 #[.val (.int i0), .val (.int i1), .val (.int i2), .val (.int i3), .val (.int (f0_3_s0 i0 i1 i2 i3)), .val (.int (f0_22_s0 i0 i1 i2 i3)), .val (.long (F_f1 (f0_3_s0 i0 i1 i2 i3) (0 : Int32) i2)), .second, .val (.int (F_f2 (F_f1 (f0_3_s0 i0 i1 i2 i3) (0 : Int32) i2) i2)), .val (.long (F_f1 (f0_3_s0 i0 i1 i2 i3) (f0_22_s0 i0 i1 i2 i3) i2)), .second, .val (.long (f0_v131 i0 i1 i2 i3)), .second, .val (.int (f0_162_s0 i0 i1 i2 i3)), .val (.int (f0_200_s0 i0 i1 i2 i3)), .unset] [(.int (f0_162_s0 i0 i1 i2 i3))])) _
              by_cases hc226 : (f0_162_s0 i0 i1 i2 i3) = (0 : Int32)
              · refine XS.ifYes X5.here hx rfl (pc0 := 226) (pc' := 238) rfl (hb hby at_226) rfl ((if0 _ _).trans (teq hc226).1) (by decide) (by decide) ?_
                show Steps p.tables e below (T5.setTop (mkF m 238 #[.val (.int i0), .val (.int i1), .val (.int i2), .val (.int i3), .val (.int (f0_3_s0 i0 i1 i2 i3)), .val (.int (f0_22_s0 i0 i1 i2 i3)), .val (.long (F_f1 (f0_3_s0 i0 i1 i2 i3) (0 : Int32) i2)), .second, .val (.int (F_f2 (F_f1 (f0_3_s0 i0 i1 i2 i3) (0 : Int32) i2) i2)), .val (.long (F_f1 (f0_3_s0 i0 i1 i2 i3) (f0_22_s0 i0 i1 i2 i3) i2)), .second, .val (.long (f0_v131 i0 i1 i2 i3)), .second, .val (.int (f0_162_s0 i0 i1 i2 i3)), .val (.int (f0_200_s0 i0 i1 i2 i3)), .unset] [])) _
                refine XS.iconst X5.here hx rfl (hb hby at_238) ?_
                show Steps p.tables e below (T5.setTop (mkF m 239 #[.val (.int i0), .val (.int i1), .val (.int i2), .val (.int i3), .val (.int (f0_3_s0 i0 i1 i2 i3)), .val (.int (f0_22_s0 i0 i1 i2 i3)), .val (.long (F_f1 (f0_3_s0 i0 i1 i2 i3) (0 : Int32) i2)), .second, .val (.int (F_f2 (F_f1 (f0_3_s0 i0 i1 i2 i3) (0 : Int32) i2) i2)), .val (.long (F_f1 (f0_3_s0 i0 i1 i2 i3) (f0_22_s0 i0 i1 i2 i3) i2)), .second, .val (.long (f0_v131 i0 i1 i2 i3)), .second, .val (.int (f0_162_s0 i0 i1 i2 i3)), .val (.int (f0_200_s0 i0 i1 i2 i3)), .unset] [(.int (0 : Int32))])) _
                rw [show (f0_221_s0a i0 i1 i2 i3) = (0 : Int32) from ((if_neg hc221).trans (if_pos hc226))] at k
                exact k
              · refine XS.ifNo X5.here hx rfl (hb hby at_226) rfl ((if0 _ _).trans (feq hc226).1) ?_
                show Steps p.tables e below (T5.setTop (mkF m 229 #[.val (.int i0), .val (.int i1), .val (.int i2), .val (.int i3), .val (.int (f0_3_s0 i0 i1 i2 i3)), .val (.int (f0_22_s0 i0 i1 i2 i3)), .val (.long (F_f1 (f0_3_s0 i0 i1 i2 i3) (0 : Int32) i2)), .second, .val (.int (F_f2 (F_f1 (f0_3_s0 i0 i1 i2 i3) (0 : Int32) i2) i2)), .val (.long (F_f1 (f0_3_s0 i0 i1 i2 i3) (f0_22_s0 i0 i1 i2 i3) i2)), .second, .val (.long (f0_v131 i0 i1 i2 i3)), .second, .val (.int (f0_162_s0 i0 i1 i2 i3)), .val (.int (f0_200_s0 i0 i1 i2 i3)), .unset] [])) _
                refine XS.iload X5.here hx rfl (hb hby at_229) rfl ?_
                show Steps p.tables e below (T5.setTop (mkF m 231 #[.val (.int i0), .val (.int i1), .val (.int i2), .val (.int i3), .val (.int (f0_3_s0 i0 i1 i2 i3)), .val (.int (f0_22_s0 i0 i1 i2 i3)), .val (.long (F_f1 (f0_3_s0 i0 i1 i2 i3) (0 : Int32) i2)), .second, .val (.int (F_f2 (F_f1 (f0_3_s0 i0 i1 i2 i3) (0 : Int32) i2) i2)), .val (.long (F_f1 (f0_3_s0 i0 i1 i2 i3) (f0_22_s0 i0 i1 i2 i3) i2)), .second, .val (.long (f0_v131 i0 i1 i2 i3)), .second, .val (.int (f0_162_s0 i0 i1 i2 i3)), .val (.int (f0_200_s0 i0 i1 i2 i3)), .unset] [(.int (f0_200_s0 i0 i1 i2 i3))])) _
                by_cases hc231 : (f0_200_s0 i0 i1 i2 i3) = (0 : Int32)
                · refine XS.ifYes X5.here hx rfl (pc0 := 231) (pc' := 238) rfl (hb hby at_231) rfl ((if0 _ _).trans (teq hc231).1) (by decide) (by decide) ?_
                  show Steps p.tables e below (T5.setTop (mkF m 238 #[.val (.int i0), .val (.int i1), .val (.int i2), .val (.int i3), .val (.int (f0_3_s0 i0 i1 i2 i3)), .val (.int (f0_22_s0 i0 i1 i2 i3)), .val (.long (F_f1 (f0_3_s0 i0 i1 i2 i3) (0 : Int32) i2)), .second, .val (.int (F_f2 (F_f1 (f0_3_s0 i0 i1 i2 i3) (0 : Int32) i2) i2)), .val (.long (F_f1 (f0_3_s0 i0 i1 i2 i3) (f0_22_s0 i0 i1 i2 i3) i2)), .second, .val (.long (f0_v131 i0 i1 i2 i3)), .second, .val (.int (f0_162_s0 i0 i1 i2 i3)), .val (.int (f0_200_s0 i0 i1 i2 i3)), .unset] [])) _
                  refine XS.iconst X5.here hx rfl (hb hby at_238) ?_
                  show Steps p.tables e below (T5.setTop (mkF m 239 #[.val (.int i0), .val (.int i1), .val (.int i2), .val (.int i3), .val (.int (f0_3_s0 i0 i1 i2 i3)), .val (.int (f0_22_s0 i0 i1 i2 i3)), .val (.long (F_f1 (f0_3_s0 i0 i1 i2 i3) (0 : Int32) i2)), .second, .val (.int (F_f2 (F_f1 (f0_3_s0 i0 i1 i2 i3) (0 : Int32) i2) i2)), .val (.long (F_f1 (f0_3_s0 i0 i1 i2 i3) (f0_22_s0 i0 i1 i2 i3) i2)), .second, .val (.long (f0_v131 i0 i1 i2 i3)), .second, .val (.int (f0_162_s0 i0 i1 i2 i3)), .val (.int (f0_200_s0 i0 i1 i2 i3)), .unset] [(.int (0 : Int32))])) _
                  rw [show (f0_221_s0a i0 i1 i2 i3) = (0 : Int32) from ((if_neg hc221).trans ((if_neg hc226).trans (if_pos hc231)))] at k
                  exact k
                · refine XS.ifNo X5.here hx rfl (hb hby at_231) rfl ((if0 _ _).trans (feq hc231).1) ?_
                  show Steps p.tables e below (T5.setTop (mkF m 234 #[.val (.int i0), .val (.int i1), .val (.int i2), .val (.int i3), .val (.int (f0_3_s0 i0 i1 i2 i3)), .val (.int (f0_22_s0 i0 i1 i2 i3)), .val (.long (F_f1 (f0_3_s0 i0 i1 i2 i3) (0 : Int32) i2)), .second, .val (.int (F_f2 (F_f1 (f0_3_s0 i0 i1 i2 i3) (0 : Int32) i2) i2)), .val (.long (F_f1 (f0_3_s0 i0 i1 i2 i3) (f0_22_s0 i0 i1 i2 i3) i2)), .second, .val (.long (f0_v131 i0 i1 i2 i3)), .second, .val (.int (f0_162_s0 i0 i1 i2 i3)), .val (.int (f0_200_s0 i0 i1 i2 i3)), .unset] [])) _
                  refine XS.iconst X5.here hx rfl (hb hby at_234) ?_
                  show Steps p.tables e below (T5.setTop (mkF m 235 #[.val (.int i0), .val (.int i1), .val (.int i2), .val (.int i3), .val (.int (f0_3_s0 i0 i1 i2 i3)), .val (.int (f0_22_s0 i0 i1 i2 i3)), .val (.long (F_f1 (f0_3_s0 i0 i1 i2 i3) (0 : Int32) i2)), .second, .val (.int (F_f2 (F_f1 (f0_3_s0 i0 i1 i2 i3) (0 : Int32) i2) i2)), .val (.long (F_f1 (f0_3_s0 i0 i1 i2 i3) (f0_22_s0 i0 i1 i2 i3) i2)), .second, .val (.long (f0_v131 i0 i1 i2 i3)), .second, .val (.int (f0_162_s0 i0 i1 i2 i3)), .val (.int (f0_200_s0 i0 i1 i2 i3)), .unset] [(.int (1 : Int32))])) _
                  refine XS.goto X5.here hx rfl (pc0 := 235) (pc' := 239) rfl (hb hby at_235) (by decide) (by decide) ?_
                  show Steps p.tables e below (T5.setTop (mkF m 239 #[.val (.int i0), .val (.int i1), .val (.int i2), .val (.int i3), .val (.int (f0_3_s0 i0 i1 i2 i3)), .val (.int (f0_22_s0 i0 i1 i2 i3)), .val (.long (F_f1 (f0_3_s0 i0 i1 i2 i3) (0 : Int32) i2)), .second, .val (.int (F_f2 (F_f1 (f0_3_s0 i0 i1 i2 i3) (0 : Int32) i2) i2)), .val (.long (F_f1 (f0_3_s0 i0 i1 i2 i3) (f0_22_s0 i0 i1 i2 i3) i2)), .second, .val (.long (f0_v131 i0 i1 i2 i3)), .second, .val (.int (f0_162_s0 i0 i1 i2 i3)), .val (.int (f0_200_s0 i0 i1 i2 i3)), .unset] [(.int (1 : Int32))])) _
                  rw [show (f0_221_s0a i0 i1 i2 i3) = (1 : Int32) from ((if_neg hc221).trans ((if_neg hc226).trans (if_neg hc231)))] at k
                  exact k
          exact Outs.retN (t := .boolean) (z := (f0_221_s0a i0 i1 i2 i3)) X5 hx hret (by simp) (hb hby at_239) hlk (by decide) (by decide) e5 ⟨congrArg (fun z_ => some (Value.int z_)) (law_221_s0a_4 i0 i1 i2 i3 hc40 hc85 hc138 hc154), N5⟩
    · refine Outs.of (U' := T2.setTop (mkF m 88 #[.val (.int i0), .val (.int i1), .val (.int i2), .val (.int i3), .val (.int (f0_3_s0 i0 i1 i2 i3)), .val (.int (f0_22_s0 i0 i1 i2 i3)), .val (.long (F_f1 (f0_3_s0 i0 i1 i2 i3) (0 : Int32) i2)), .second, .unset, .unset, .unset, .unset, .unset, .unset, .unset, .unset] [])) (fun t k => ?_) ?_
      · refine XS.icmpNo X2.here hx rfl (hb hby at_85) rfl (flt hc85).2.2.1 ?_
        show Steps p.tables e below (T2.setTop (mkF m 88 #[.val (.int i0), .val (.int i1), .val (.int i2), .val (.int i3), .val (.int (f0_3_s0 i0 i1 i2 i3)), .val (.int (f0_22_s0 i0 i1 i2 i3)), .val (.long (F_f1 (f0_3_s0 i0 i1 i2 i3) (0 : Int32) i2)), .second, .unset, .unset, .unset, .unset, .unset, .unset, .unset, .unset] [])) _
        exact k
      refine Outs.of (U' := T2.setTop (mkF m 109 #[.val (.int i0), .val (.int i1), .val (.int i2), .val (.int i3), .val (.int (f0_3_s0 i0 i1 i2 i3)), .val (.int (f0_22_s0 i0 i1 i2 i3)), .val (.long (F_f1 (f0_3_s0 i0 i1 i2 i3) (0 : Int32) i2)), .second, .unset, .unset, .unset, .unset, .unset, .unset, .unset, .unset] [(.int (f0_92_s0 i0 i1 i2 i3))])) (fun t k => ?_) ?_
      · refine XS.lload X2.here hx rfl (hb hby at_88) rfl ?_
        show Steps p.tables e below (T2.setTop (mkF m 90 #[.val (.int i0), .val (.int i1), .val (.int i2), .val (.int i3), .val (.int (f0_3_s0 i0 i1 i2 i3)), .val (.int (f0_22_s0 i0 i1 i2 i3)), .val (.long (F_f1 (f0_3_s0 i0 i1 i2 i3) (0 : Int32) i2)), .second, .unset, .unset, .unset, .unset, .unset, .unset, .unset, .unset] [(.long (F_f1 (f0_3_s0 i0 i1 i2 i3) (0 : Int32) i2))])) _
        refine XS.lconst X2.here hx rfl (hb hby at_90) ?_
        show Steps p.tables e below (T2.setTop (mkF m 91 #[.val (.int i0), .val (.int i1), .val (.int i2), .val (.int i3), .val (.int (f0_3_s0 i0 i1 i2 i3)), .val (.int (f0_22_s0 i0 i1 i2 i3)), .val (.long (F_f1 (f0_3_s0 i0 i1 i2 i3) (0 : Int32) i2)), .second, .unset, .unset, .unset, .unset, .unset, .unset, .unset, .unset] [(.long (1 : Int64)), (.long (F_f1 (f0_3_s0 i0 i1 i2 i3) (0 : Int32) i2))])) _
        refine XS.lcmp X2.here hx rfl (hb hby at_91) rfl ?_
        show Steps p.tables e below (T2.setTop (mkF m 92 #[.val (.int i0), .val (.int i1), .val (.int i2), .val (.int i3), .val (.int (f0_3_s0 i0 i1 i2 i3)), .val (.int (f0_22_s0 i0 i1 i2 i3)), .val (.long (F_f1 (f0_3_s0 i0 i1 i2 i3) (0 : Int32) i2)), .second, .unset, .unset, .unset, .unset, .unset, .unset, .unset, .unset] [(.int (lcmpW (F_f1 (f0_3_s0 i0 i1 i2 i3) (0 : Int32) i2) (1 : Int64)))])) _
        by_cases hc92 : (F_f1 (f0_3_s0 i0 i1 i2 i3) (0 : Int32) i2) = (1 : Int64)
        · refine XS.ifNo X2.here hx rfl (hb hby at_92) rfl ((if0 _ _).trans (teq ((lw_eq _ _).mpr hc92)).2) ?_
          show Steps p.tables e below (T2.setTop (mkF m 95 #[.val (.int i0), .val (.int i1), .val (.int i2), .val (.int i3), .val (.int (f0_3_s0 i0 i1 i2 i3)), .val (.int (f0_22_s0 i0 i1 i2 i3)), .val (.long (F_f1 (f0_3_s0 i0 i1 i2 i3) (0 : Int32) i2)), .second, .unset, .unset, .unset, .unset, .unset, .unset, .unset, .unset] [])) _
          refine XS.iconst X2.here hx rfl (hb hby at_95) ?_
          show Steps p.tables e below (T2.setTop (mkF m 96 #[.val (.int i0), .val (.int i1), .val (.int i2), .val (.int i3), .val (.int (f0_3_s0 i0 i1 i2 i3)), .val (.int (f0_22_s0 i0 i1 i2 i3)), .val (.long (F_f1 (f0_3_s0 i0 i1 i2 i3) (0 : Int32) i2)), .second, .unset, .unset, .unset, .unset, .unset, .unset, .unset, .unset] [(.int (1 : Int32))])) _
          refine XS.goto X2.here hx rfl (pc0 := 96) (pc' := 109) rfl (hb hby at_96) (by decide) (by decide) ?_
          show Steps p.tables e below (T2.setTop (mkF m 109 #[.val (.int i0), .val (.int i1), .val (.int i2), .val (.int i3), .val (.int (f0_3_s0 i0 i1 i2 i3)), .val (.int (f0_22_s0 i0 i1 i2 i3)), .val (.long (F_f1 (f0_3_s0 i0 i1 i2 i3) (0 : Int32) i2)), .second, .unset, .unset, .unset, .unset, .unset, .unset, .unset, .unset] [(.int (1 : Int32))])) _
          rw [show (f0_92_s0 i0 i1 i2 i3) = (1 : Int32) from (if_pos hc92)] at k
          exact k
        · refine XS.ifYes X2.here hx rfl (pc0 := 92) (pc' := 99) rfl (hb hby at_92) rfl ((if0 _ _).trans (feq (fun q_ => hc92 ((lw_eq _ _).mp q_))).2) (by decide) (by decide) ?_
          show Steps p.tables e below (T2.setTop (mkF m 99 #[.val (.int i0), .val (.int i1), .val (.int i2), .val (.int i3), .val (.int (f0_3_s0 i0 i1 i2 i3)), .val (.int (f0_22_s0 i0 i1 i2 i3)), .val (.long (F_f1 (f0_3_s0 i0 i1 i2 i3) (0 : Int32) i2)), .second, .unset, .unset, .unset, .unset, .unset, .unset, .unset, .unset] [])) _
          refine XS.iconst X2.here hx rfl (hb hby at_99) ?_
          show Steps p.tables e below (T2.setTop (mkF m 100 #[.val (.int i0), .val (.int i1), .val (.int i2), .val (.int i3), .val (.int (f0_3_s0 i0 i1 i2 i3)), .val (.int (f0_22_s0 i0 i1 i2 i3)), .val (.long (F_f1 (f0_3_s0 i0 i1 i2 i3) (0 : Int32) i2)), .second, .unset, .unset, .unset, .unset, .unset, .unset, .unset, .unset] [(.int (0 : Int32))])) _
          refine XS.goto X2.here hx rfl (pc0 := 100) (pc' := 109) rfl (hb hby at_100) (by decide) (by decide) ?_
          show Steps p.tables e below (T2.setTop (mkF m 109 #[.val (.int i0), .val (.int i1), .val (.int i2), .val (.int i3), .val (.int (f0_3_s0 i0 i1 i2 i3)), .val (.int (f0_22_s0 i0 i1 i2 i3)), .val (.long (F_f1 (f0_3_s0 i0 i1 i2 i3) (0 : Int32) i2)), .second, .unset, .unset, .unset, .unset, .unset, .unset, .unset, .unset] [(.int (0 : Int32))])) _
          rw [show (f0_92_s0 i0 i1 i2 i3) = (0 : Int32) from (if_neg hc92)] at k
          exact k
      refine Outs.of (U' := T2.setTop (mkF m 116 #[.val (.int i0), .val (.int i1), .val (.int i2), .val (.int i3), .val (.int (f0_3_s0 i0 i1 i2 i3)), .val (.int (f0_22_s0 i0 i1 i2 i3)), .val (.long (F_f1 (f0_3_s0 i0 i1 i2 i3) (0 : Int32) i2)), .second, .val (.int (f0_92_s0 i0 i1 i2 i3)), .unset, .unset, .unset, .unset, .unset, .unset, .unset] [(.int i2), (.int (f0_22_s0 i0 i1 i2 i3)), (.int (f0_3_s0 i0 i1 i2 i3))])) (fun t k => ?_) ?_
      · refine XS.istore X2.here hx rfl (hb hby at_109) rfl (l' := #[.val (.int i0), .val (.int i1), .val (.int i2), .val (.int i3), .val (.int (f0_3_s0 i0 i1 i2 i3)), .val (.int (f0_22_s0 i0 i1 i2 i3)), .val (.long (F_f1 (f0_3_s0 i0 i1 i2 i3) (0 : Int32) i2)), .second, .val (.int (f0_92_s0 i0 i1 i2 i3)), .unset, .unset, .unset, .unset, .unset, .unset, .unset]) rfl ?_
        show Steps p.tables e below (T2.setTop (mkF m 111 #[.val (.int i0), .val (.int i1), .val (.int i2), .val (.int i3), .val (.int (f0_3_s0 i0 i1 i2 i3)), .val (.int (f0_22_s0 i0 i1 i2 i3)), .val (.long (F_f1 (f0_3_s0 i0 i1 i2 i3) (0 : Int32) i2)), .second, .val (.int (f0_92_s0 i0 i1 i2 i3)), .unset, .unset, .unset, .unset, .unset, .unset, .unset] [])) _
        refine XS.iload X2.here hx rfl (hb hby at_111) rfl ?_
        show Steps p.tables e below (T2.setTop (mkF m 113 #[.val (.int i0), .val (.int i1), .val (.int i2), .val (.int i3), .val (.int (f0_3_s0 i0 i1 i2 i3)), .val (.int (f0_22_s0 i0 i1 i2 i3)), .val (.long (F_f1 (f0_3_s0 i0 i1 i2 i3) (0 : Int32) i2)), .second, .val (.int (f0_92_s0 i0 i1 i2 i3)), .unset, .unset, .unset, .unset, .unset, .unset, .unset] [(.int (f0_3_s0 i0 i1 i2 i3))])) _
        refine XS.iload X2.here hx rfl (hb hby at_113) rfl ?_
        show Steps p.tables e below (T2.setTop (mkF m 115 #[.val (.int i0), .val (.int i1), .val (.int i2), .val (.int i3), .val (.int (f0_3_s0 i0 i1 i2 i3)), .val (.int (f0_22_s0 i0 i1 i2 i3)), .val (.long (F_f1 (f0_3_s0 i0 i1 i2 i3) (0 : Int32) i2)), .second, .val (.int (f0_92_s0 i0 i1 i2 i3)), .unset, .unset, .unset, .unset, .unset, .unset, .unset] [(.int (f0_22_s0 i0 i1 i2 i3)), (.int (f0_3_s0 i0 i1 i2 i3))])) _
        refine XS.iloadN X2.here hx rfl (hb hby at_115) rfl ?_
        show Steps p.tables e below (T2.setTop (mkF m 116 #[.val (.int i0), .val (.int i1), .val (.int i2), .val (.int i3), .val (.int (f0_3_s0 i0 i1 i2 i3)), .val (.int (f0_22_s0 i0 i1 i2 i3)), .val (.long (F_f1 (f0_3_s0 i0 i1 i2 i3) (0 : Int32) i2)), .second, .val (.int (f0_92_s0 i0 i1 i2 i3)), .unset, .unset, .unset, .unset, .unset, .unset, .unset] [(.int i2), (.int (f0_22_s0 i0 i1 i2 i3)), (.int (f0_3_s0 i0 i1 i2 i3))])) _
        exact k
      obtain ⟨_, _, ⟨T8, L8, k8, n8⟩, -, X8, ⟨Lc8, hQ8, l8, y8, z8⟩, st8⟩ := Jvm.LawKit.callS X2 hx (y := (⟨"com/example/ratatoskr/ratatoskr/Choices", "count", "(III)J"⟩ : MethodName)) hown (mvT hZ (hw _ (List.mem_of_getElem? (i := 1) rfl))) (mvT hZ (hw _ (List.mem_of_getElem? (i := 2) rfl))) (mvT hZ (hw _ (List.mem_of_getElem? (i := 3) rfl))) (mvT hZ (hw _ (List.mem_of_getElem? (i := 4) rfl))) (by decide) (backOf (W := 0) (rm1 l Z a0 hw [] (f0_3_s0 i0 i1 i2 i3) (f0_22_s0 i0 i1 i2 i3) i2 h0 n0 (own_rk i0 i1 i2 i3)) hZ (hw _ (List.mem_of_getElem? (i := 4) rfl)) (hw _ (List.mem_of_getElem? (i := 3) rfl)) (by decide) (by decide)) (g := (mkF m 116 #[.val (.int i0), .val (.int i1), .val (.int i2), .val (.int i3), .val (.int (f0_3_s0 i0 i1 i2 i3)), .val (.int (f0_22_s0 i0 i1 i2 i3)), .val (.long (F_f1 (f0_3_s0 i0 i1 i2 i3) (0 : Int32) i2)), .second, .val (.int (f0_92_s0 i0 i1 i2 i3)), .unset, .unset, .unset, .unset, .unset, .unset, .unset] [(.int i2), (.int (f0_22_s0 i0 i1 i2 i3)), (.int (f0_3_s0 i0 i1 i2 i3))])) rfl (by rw [hml]; rfl) (argsL := [(.int (f0_3_s0 i0 i1 i2 i3)), (.int (f0_22_s0 i0 i1 i2 i3)), (.int i2)]) (rest := []) (lenOf pd_0 rfl) rfl (by show 2 * 0 + _ ≤ _; exact Nat.le_of_eq rfl) (hb hby at_116) (fun _ _ => ⟨rfl, e2, (by decide : 0 + 0 ≤ _), (by decide : 0 + 0 ≤ _)⟩)
      dsimp only [Pt.U, Pt.locs, Pt.cells, Pt.slots] at X8 l8 y8 z8 st8 hQ8
      subst l8 y8 z8
      obtain ⟨rfl, N8q, e8⟩ := hQ8
      have N8 := Fr.app N2 N8q
      refine Outs.of st8 ?_
      show Outs p e below s _ _ _ (T8.setTop (mkF m 119 #[.val (.int i0), .val (.int i1), .val (.int i2), .val (.int i3), .val (.int (f0_3_s0 i0 i1 i2 i3)), .val (.int (f0_22_s0 i0 i1 i2 i3)), .val (.long (F_f1 (f0_3_s0 i0 i1 i2 i3) (0 : Int32) i2)), .second, .val (.int (f0_92_s0 i0 i1 i2 i3)), .unset, .unset, .unset, .unset, .unset, .unset, .unset] [(.long (F_f1 (f0_3_s0 i0 i1 i2 i3) (f0_22_s0 i0 i1 i2 i3) i2))]))
      refine Outs.of (U' := T8.setTop (mkF m 128 #[.val (.int i0), .val (.int i1), .val (.int i2), .val (.int i3), .val (.int (f0_3_s0 i0 i1 i2 i3)), .val (.int (f0_22_s0 i0 i1 i2 i3)), .val (.long (F_f1 (f0_3_s0 i0 i1 i2 i3) (0 : Int32) i2)), .second, .val (.int (f0_92_s0 i0 i1 i2 i3)), .val (.long (F_f1 (f0_3_s0 i0 i1 i2 i3) (f0_22_s0 i0 i1 i2 i3) i2)), .second, .unset, .unset, .unset, .unset, .unset] [(.int i2), (.int ((f0_22_s0 i0 i1 i2 i3) + (1 : Int32))), (.int (f0_3_s0 i0 i1 i2 i3))])) (fun t k => ?_) ?_
      · refine XS.lstore X8.here hx rfl (hb hby at_119) rfl (l' := #[.val (.int i0), .val (.int i1), .val (.int i2), .val (.int i3), .val (.int (f0_3_s0 i0 i1 i2 i3)), .val (.int (f0_22_s0 i0 i1 i2 i3)), .val (.long (F_f1 (f0_3_s0 i0 i1 i2 i3) (0 : Int32) i2)), .second, .val (.int (f0_92_s0 i0 i1 i2 i3)), .val (.long (F_f1 (f0_3_s0 i0 i1 i2 i3) (f0_22_s0 i0 i1 i2 i3) i2)), .second, .unset, .unset, .unset, .unset, .unset]) rfl ?_
        show Steps p.tables e below (T8.setTop (mkF m 121 #[.val (.int i0), .val (.int i1), .val (.int i2), .val (.int i3), .val (.int (f0_3_s0 i0 i1 i2 i3)), .val (.int (f0_22_s0 i0 i1 i2 i3)), .val (.long (F_f1 (f0_3_s0 i0 i1 i2 i3) (0 : Int32) i2)), .second, .val (.int (f0_92_s0 i0 i1 i2 i3)), .val (.long (F_f1 (f0_3_s0 i0 i1 i2 i3) (f0_22_s0 i0 i1 i2 i3) i2)), .second, .unset, .unset, .unset, .unset, .unset] [])) _
        refine XS.iload X8.here hx rfl (hb hby at_121) rfl ?_
        show Steps p.tables e below (T8.setTop (mkF m 123 #[.val (.int i0), .val (.int i1), .val (.int i2), .val (.int i3), .val (.int (f0_3_s0 i0 i1 i2 i3)), .val (.int (f0_22_s0 i0 i1 i2 i3)), .val (.long (F_f1 (f0_3_s0 i0 i1 i2 i3) (0 : Int32) i2)), .second, .val (.int (f0_92_s0 i0 i1 i2 i3)), .val (.long (F_f1 (f0_3_s0 i0 i1 i2 i3) (f0_22_s0 i0 i1 i2 i3) i2)), .second, .unset, .unset, .unset, .unset, .unset] [(.int (f0_3_s0 i0 i1 i2 i3))])) _
        refine XS.iload X8.here hx rfl (hb hby at_123) rfl ?_
        show Steps p.tables e below (T8.setTop (mkF m 125 #[.val (.int i0), .val (.int i1), .val (.int i2), .val (.int i3), .val (.int (f0_3_s0 i0 i1 i2 i3)), .val (.int (f0_22_s0 i0 i1 i2 i3)), .val (.long (F_f1 (f0_3_s0 i0 i1 i2 i3) (0 : Int32) i2)), .second, .val (.int (f0_92_s0 i0 i1 i2 i3)), .val (.long (F_f1 (f0_3_s0 i0 i1 i2 i3) (f0_22_s0 i0 i1 i2 i3) i2)), .second, .unset, .unset, .unset, .unset, .unset] [(.int (f0_22_s0 i0 i1 i2 i3)), (.int (f0_3_s0 i0 i1 i2 i3))])) _
        refine XS.iconst X8.here hx rfl (hb hby at_125) ?_
        show Steps p.tables e below (T8.setTop (mkF m 126 #[.val (.int i0), .val (.int i1), .val (.int i2), .val (.int i3), .val (.int (f0_3_s0 i0 i1 i2 i3)), .val (.int (f0_22_s0 i0 i1 i2 i3)), .val (.long (F_f1 (f0_3_s0 i0 i1 i2 i3) (0 : Int32) i2)), .second, .val (.int (f0_92_s0 i0 i1 i2 i3)), .val (.long (F_f1 (f0_3_s0 i0 i1 i2 i3) (f0_22_s0 i0 i1 i2 i3) i2)), .second, .unset, .unset, .unset, .unset, .unset] [(.int (1 : Int32)), (.int (f0_22_s0 i0 i1 i2 i3)), (.int (f0_3_s0 i0 i1 i2 i3))])) _
        refine XS.iadd X8.here hx rfl (hb hby at_126) rfl ?_
        show Steps p.tables e below (T8.setTop (mkF m 127 #[.val (.int i0), .val (.int i1), .val (.int i2), .val (.int i3), .val (.int (f0_3_s0 i0 i1 i2 i3)), .val (.int (f0_22_s0 i0 i1 i2 i3)), .val (.long (F_f1 (f0_3_s0 i0 i1 i2 i3) (0 : Int32) i2)), .second, .val (.int (f0_92_s0 i0 i1 i2 i3)), .val (.long (F_f1 (f0_3_s0 i0 i1 i2 i3) (f0_22_s0 i0 i1 i2 i3) i2)), .second, .unset, .unset, .unset, .unset, .unset] [(.int ((f0_22_s0 i0 i1 i2 i3) + (1 : Int32))), (.int (f0_3_s0 i0 i1 i2 i3))])) _
        refine XS.iloadN X8.here hx rfl (hb hby at_127) rfl ?_
        show Steps p.tables e below (T8.setTop (mkF m 128 #[.val (.int i0), .val (.int i1), .val (.int i2), .val (.int i3), .val (.int (f0_3_s0 i0 i1 i2 i3)), .val (.int (f0_22_s0 i0 i1 i2 i3)), .val (.long (F_f1 (f0_3_s0 i0 i1 i2 i3) (0 : Int32) i2)), .second, .val (.int (f0_92_s0 i0 i1 i2 i3)), .val (.long (F_f1 (f0_3_s0 i0 i1 i2 i3) (f0_22_s0 i0 i1 i2 i3) i2)), .second, .unset, .unset, .unset, .unset, .unset] [(.int i2), (.int ((f0_22_s0 i0 i1 i2 i3) + (1 : Int32))), (.int (f0_3_s0 i0 i1 i2 i3))])) _
        exact k
      obtain ⟨_, _, ⟨T9, L9, k9, n9⟩, -, X9, ⟨Lc9, hQ9, l9, y9, z9⟩, st9⟩ := Jvm.LawKit.callS X8 hx (y := (⟨"com/example/ratatoskr/ratatoskr/Choices", "count", "(III)J"⟩ : MethodName)) hown (mvT hZ (hw _ (List.mem_of_getElem? (i := 1) rfl))) (mvT hZ (hw _ (List.mem_of_getElem? (i := 2) rfl))) (mvT hZ (hw _ (List.mem_of_getElem? (i := 3) rfl))) (mvT hZ (hw _ (List.mem_of_getElem? (i := 4) rfl))) (by decide) (backOf (W := 0) (rm1 l Z a0 hw [] (f0_3_s0 i0 i1 i2 i3) ((f0_22_s0 i0 i1 i2 i3) + (1 : Int32)) i2 h0 n0 (own_rk1 i0 i1 i2 i3)) hZ (hw _ (List.mem_of_getElem? (i := 4) rfl)) (hw _ (List.mem_of_getElem? (i := 3) rfl)) (by decide) (by decide)) (g := (mkF m 128 #[.val (.int i0), .val (.int i1), .val (.int i2), .val (.int i3), .val (.int (f0_3_s0 i0 i1 i2 i3)), .val (.int (f0_22_s0 i0 i1 i2 i3)), .val (.long (F_f1 (f0_3_s0 i0 i1 i2 i3) (0 : Int32) i2)), .second, .val (.int (f0_92_s0 i0 i1 i2 i3)), .val (.long (F_f1 (f0_3_s0 i0 i1 i2 i3) (f0_22_s0 i0 i1 i2 i3) i2)), .second, .unset, .unset, .unset, .unset, .unset] [(.int i2), (.int ((f0_22_s0 i0 i1 i2 i3) + (1 : Int32))), (.int (f0_3_s0 i0 i1 i2 i3))])) rfl (by rw [hml]; rfl) (argsL := [(.int (f0_3_s0 i0 i1 i2 i3)), (.int ((f0_22_s0 i0 i1 i2 i3) + (1 : Int32))), (.int i2)]) (rest := []) (lenOf pd_0 rfl) rfl (by show 2 * 0 + _ ≤ _; exact Nat.le_of_eq rfl) (hb hby at_128) (fun _ _ => ⟨rfl, e8, (by decide : 0 + 0 ≤ _), (by decide : 0 + 0 ≤ _)⟩)
      dsimp only [Pt.U, Pt.locs, Pt.cells, Pt.slots] at X9 l9 y9 z9 st9 hQ9
      subst l9 y9 z9
      obtain ⟨rfl, N9q, e9⟩ := hQ9
      have N9 := Fr.app N8 N9q
      refine Outs.of st9 ?_
      show Outs p e below s _ _ _ (T9.setTop (mkF m 131 #[.val (.int i0), .val (.int i1), .val (.int i2), .val (.int i3), .val (.int (f0_3_s0 i0 i1 i2 i3)), .val (.int (f0_22_s0 i0 i1 i2 i3)), .val (.long (F_f1 (f0_3_s0 i0 i1 i2 i3) (0 : Int32) i2)), .second, .val (.int (f0_92_s0 i0 i1 i2 i3)), .val (.long (F_f1 (f0_3_s0 i0 i1 i2 i3) (f0_22_s0 i0 i1 i2 i3) i2)), .second, .unset, .unset, .unset, .unset, .unset] [(.long (F_f1 (f0_3_s0 i0 i1 i2 i3) ((f0_22_s0 i0 i1 i2 i3) + (1 : Int32)) i2))]))
      refine Outs.of (U' := T9.setTop (mkF m 138 #[.val (.int i0), .val (.int i1), .val (.int i2), .val (.int i3), .val (.int (f0_3_s0 i0 i1 i2 i3)), .val (.int (f0_22_s0 i0 i1 i2 i3)), .val (.long (F_f1 (f0_3_s0 i0 i1 i2 i3) (0 : Int32) i2)), .second, .val (.int (f0_92_s0 i0 i1 i2 i3)), .val (.long (F_f1 (f0_3_s0 i0 i1 i2 i3) (f0_22_s0 i0 i1 i2 i3) i2)), .second, .val (.long (f0_v131 i0 i1 i2 i3)), .second, .unset, .unset, .unset] [(.int (lcmpW (F_f1 (f0_3_s0 i0 i1 i2 i3) (f0_22_s0 i0 i1 i2 i3) i2) (i2.toInt64)))])) (fun t k => ?_) ?_
      · refine XS.lstore X9.here hx rfl (hb hby at_131) rfl (l' := #[.val (.int i0), .val (.int i1), .val (.int i2), .val (.int i3), .val (.int (f0_3_s0 i0 i1 i2 i3)), .val (.int (f0_22_s0 i0 i1 i2 i3)), .val (.long (F_f1 (f0_3_s0 i0 i1 i2 i3) (0 : Int32) i2)), .second, .val (.int (f0_92_s0 i0 i1 i2 i3)), .val (.long (F_f1 (f0_3_s0 i0 i1 i2 i3) (f0_22_s0 i0 i1 i2 i3) i2)), .second, .val (.long (f0_v131 i0 i1 i2 i3)), .second, .unset, .unset, .unset]) rfl ?_
        show Steps p.tables e below (T9.setTop (mkF m 133 #[.val (.int i0), .val (.int i1), .val (.int i2), .val (.int i3), .val (.int (f0_3_s0 i0 i1 i2 i3)), .val (.int (f0_22_s0 i0 i1 i2 i3)), .val (.long (F_f1 (f0_3_s0 i0 i1 i2 i3) (0 : Int32) i2)), .second, .val (.int (f0_92_s0 i0 i1 i2 i3)), .val (.long (F_f1 (f0_3_s0 i0 i1 i2 i3) (f0_22_s0 i0 i1 i2 i3) i2)), .second, .val (.long (f0_v131 i0 i1 i2 i3)), .second, .unset, .unset, .unset] [])) _
        refine XS.lload X9.here hx rfl (hb hby at_133) rfl ?_
        show Steps p.tables e below (T9.setTop (mkF m 135 #[.val (.int i0), .val (.int i1), .val (.int i2), .val (.int i3), .val (.int (f0_3_s0 i0 i1 i2 i3)), .val (.int (f0_22_s0 i0 i1 i2 i3)), .val (.long (F_f1 (f0_3_s0 i0 i1 i2 i3) (0 : Int32) i2)), .second, .val (.int (f0_92_s0 i0 i1 i2 i3)), .val (.long (F_f1 (f0_3_s0 i0 i1 i2 i3) (f0_22_s0 i0 i1 i2 i3) i2)), .second, .val (.long (f0_v131 i0 i1 i2 i3)), .second, .unset, .unset, .unset] [(.long (F_f1 (f0_3_s0 i0 i1 i2 i3) (f0_22_s0 i0 i1 i2 i3) i2))])) _
        refine XS.iloadN X9.here hx rfl (hb hby at_135) rfl ?_
        show Steps p.tables e below (T9.setTop (mkF m 136 #[.val (.int i0), .val (.int i1), .val (.int i2), .val (.int i3), .val (.int (f0_3_s0 i0 i1 i2 i3)), .val (.int (f0_22_s0 i0 i1 i2 i3)), .val (.long (F_f1 (f0_3_s0 i0 i1 i2 i3) (0 : Int32) i2)), .second, .val (.int (f0_92_s0 i0 i1 i2 i3)), .val (.long (F_f1 (f0_3_s0 i0 i1 i2 i3) (f0_22_s0 i0 i1 i2 i3) i2)), .second, .val (.long (f0_v131 i0 i1 i2 i3)), .second, .unset, .unset, .unset] [(.int i2), (.long (F_f1 (f0_3_s0 i0 i1 i2 i3) (f0_22_s0 i0 i1 i2 i3) i2))])) _
        refine XS.i2l X9.here hx rfl (hb hby at_136) rfl ?_
        show Steps p.tables e below (T9.setTop (mkF m 137 #[.val (.int i0), .val (.int i1), .val (.int i2), .val (.int i3), .val (.int (f0_3_s0 i0 i1 i2 i3)), .val (.int (f0_22_s0 i0 i1 i2 i3)), .val (.long (F_f1 (f0_3_s0 i0 i1 i2 i3) (0 : Int32) i2)), .second, .val (.int (f0_92_s0 i0 i1 i2 i3)), .val (.long (F_f1 (f0_3_s0 i0 i1 i2 i3) (f0_22_s0 i0 i1 i2 i3) i2)), .second, .val (.long (f0_v131 i0 i1 i2 i3)), .second, .unset, .unset, .unset] [(.long (i2.toInt64)), (.long (F_f1 (f0_3_s0 i0 i1 i2 i3) (f0_22_s0 i0 i1 i2 i3) i2))])) _
        refine XS.lcmp X9.here hx rfl (hb hby at_137) rfl ?_
        show Steps p.tables e below (T9.setTop (mkF m 138 #[.val (.int i0), .val (.int i1), .val (.int i2), .val (.int i3), .val (.int (f0_3_s0 i0 i1 i2 i3)), .val (.int (f0_22_s0 i0 i1 i2 i3)), .val (.long (F_f1 (f0_3_s0 i0 i1 i2 i3) (0 : Int32) i2)), .second, .val (.int (f0_92_s0 i0 i1 i2 i3)), .val (.long (F_f1 (f0_3_s0 i0 i1 i2 i3) (f0_22_s0 i0 i1 i2 i3) i2)), .second, .val (.long (f0_v131 i0 i1 i2 i3)), .second, .unset, .unset, .unset] [(.int (lcmpW (F_f1 (f0_3_s0 i0 i1 i2 i3) (f0_22_s0 i0 i1 i2 i3) i2) (i2.toInt64)))])) _
        exact k
      by_cases hc138 : (i2.toInt64) < (F_f1 (f0_3_s0 i0 i1 i2 i3) (f0_22_s0 i0 i1 i2 i3) i2)
      · refine Outs.of (U' := T9.setTop (mkF m 186 #[.val (.int i0), .val (.int i1), .val (.int i2), .val (.int i3), .val (.int (f0_3_s0 i0 i1 i2 i3)), .val (.int (f0_22_s0 i0 i1 i2 i3)), .val (.long (F_f1 (f0_3_s0 i0 i1 i2 i3) (0 : Int32) i2)), .second, .val (.int (f0_92_s0 i0 i1 i2 i3)), .val (.long (F_f1 (f0_3_s0 i0 i1 i2 i3) (f0_22_s0 i0 i1 i2 i3) i2)), .second, .val (.long (f0_v131 i0 i1 i2 i3)), .second, .unset, .unset, .unset] [])) (fun t k => ?_) ?_
        · refine XS.ifYes X9.here hx rfl (pc0 := 138) (pc' := 186) rfl (hb hby at_138) rfl ((if0 _ _).trans (tlt ((lw_gt _ _).mpr hc138)).2.2.1) (by decide) (by decide) ?_
          show Steps p.tables e below (T9.setTop (mkF m 186 #[.val (.int i0), .val (.int i1), .val (.int i2), .val (.int i3), .val (.int (f0_3_s0 i0 i1 i2 i3)), .val (.int (f0_22_s0 i0 i1 i2 i3)), .val (.long (F_f1 (f0_3_s0 i0 i1 i2 i3) (0 : Int32) i2)), .second, .val (.int (f0_92_s0 i0 i1 i2 i3)), .val (.long (F_f1 (f0_3_s0 i0 i1 i2 i3) (f0_22_s0 i0 i1 i2 i3) i2)), .second, .val (.long (f0_v131 i0 i1 i2 i3)), .second, .unset, .unset, .unset] [])) _
          exact k
        refine Outs.of (U' := T9.setTop (mkF m 189 #[.val (.int i0), .val (.int i1), .val (.int i2), .val (.int i3), .val (.int (f0_3_s0 i0 i1 i2 i3)), .val (.int (f0_22_s0 i0 i1 i2 i3)), .val (.long (F_f1 (f0_3_s0 i0 i1 i2 i3) (0 : Int32) i2)), .second, .val (.int (f0_92_s0 i0 i1 i2 i3)), .val (.long (F_f1 (f0_3_s0 i0 i1 i2 i3) (f0_22_s0 i0 i1 i2 i3) i2)), .second, .val (.long (f0_v131 i0 i1 i2 i3)), .second, .unset, .unset, .unset] [(.int i2), (.long (f0_v131 i0 i1 i2 i3))])) (fun t k => ?_) ?_
        · refine XS.lload X9.here hx rfl (hb hby at_186) rfl ?_
          show Steps p.tables e below (T9.setTop (mkF m 188 #[.val (.int i0), .val (.int i1), .val (.int i2), .val (.int i3), .val (.int (f0_3_s0 i0 i1 i2 i3)), .val (.int (f0_22_s0 i0 i1 i2 i3)), .val (.long (F_f1 (f0_3_s0 i0 i1 i2 i3) (0 : Int32) i2)), .second, .val (.int (f0_92_s0 i0 i1 i2 i3)), .val (.long (F_f1 (f0_3_s0 i0 i1 i2 i3) (f0_22_s0 i0 i1 i2 i3) i2)), .second, .val (.long (f0_v131 i0 i1 i2 i3)), .second, .unset, .unset, .unset] [(.long (f0_v131 i0 i1 i2 i3))])) _
          refine XS.iloadN X9.here hx rfl (hb hby at_188) rfl ?_
          show Steps p.tables e below (T9.setTop (mkF m 189 #[.val (.int i0), .val (.int i1), .val (.int i2), .val (.int i3), .val (.int (f0_3_s0 i0 i1 i2 i3)), .val (.int (f0_22_s0 i0 i1 i2 i3)), .val (.long (F_f1 (f0_3_s0 i0 i1 i2 i3) (0 : Int32) i2)), .second, .val (.int (f0_92_s0 i0 i1 i2 i3)), .val (.long (F_f1 (f0_3_s0 i0 i1 i2 i3) (f0_22_s0 i0 i1 i2 i3) i2)), .second, .val (.long (f0_v131 i0 i1 i2 i3)), .second, .unset, .unset, .unset] [(.int i2), (.long (f0_v131 i0 i1 i2 i3))])) _
          exact k
        obtain ⟨_, _, ⟨T10, L10, k10, n10⟩, -, X10, ⟨Lc10, hQ10, l10, y10, z10⟩, st10⟩ := Jvm.LawKit.callS X9 hx (y := (⟨"com/example/ratatoskr/ratatoskr/ChoicesCountPinLaw", "over", "(JI)Z"⟩ : MethodName)) hown (mvT hZ (hw _ (List.mem_of_getElem? (i := 6) rfl))) (mvT hZ (hw _ (List.mem_of_getElem? (i := 7) rfl))) (mvT hZ (hw _ (List.mem_of_getElem? (i := 8) rfl))) (mvT hZ (hw _ (List.mem_of_getElem? (i := 9) rfl))) (by decide) (backOf (W := 0) (rm2 l Z a0 hw [] (f0_v131 i0 i1 i2 i3) i2 h0 n0 ) hZ (hw _ (List.mem_of_getElem? (i := 9) rfl)) (hw _ (List.mem_of_getElem? (i := 8) rfl)) (by decide) (by decide)) (g := (mkF m 189 #[.val (.int i0), .val (.int i1), .val (.int i2), .val (.int i3), .val (.int (f0_3_s0 i0 i1 i2 i3)), .val (.int (f0_22_s0 i0 i1 i2 i3)), .val (.long (F_f1 (f0_3_s0 i0 i1 i2 i3) (0 : Int32) i2)), .second, .val (.int (f0_92_s0 i0 i1 i2 i3)), .val (.long (F_f1 (f0_3_s0 i0 i1 i2 i3) (f0_22_s0 i0 i1 i2 i3) i2)), .second, .val (.long (f0_v131 i0 i1 i2 i3)), .second, .unset, .unset, .unset] [(.int i2), (.long (f0_v131 i0 i1 i2 i3))])) rfl (by rw [hml]; rfl) (argsL := [(.long (f0_v131 i0 i1 i2 i3)), (.int i2)]) (rest := []) (lenOf pd_1 rfl) rfl (by show 2 * 0 + _ ≤ _; exact Nat.le_of_eq rfl) (hb hby at_189) (fun _ _ => ⟨rfl, e9, (by decide : 0 + 0 ≤ _), (by decide : 0 + 0 ≤ _)⟩)
        dsimp only [Pt.U, Pt.locs, Pt.cells, Pt.slots] at X10 l10 y10 z10 st10 hQ10
        subst l10 y10 z10
        obtain ⟨rfl, N10q, e10⟩ := hQ10
        have N10 := Fr.app N9 N10q
        refine Outs.of st10 ?_
        show Outs p e below s _ _ _ (T10.setTop (mkF m 192 #[.val (.int i0), .val (.int i1), .val (.int i2), .val (.int i3), .val (.int (f0_3_s0 i0 i1 i2 i3)), .val (.int (f0_22_s0 i0 i1 i2 i3)), .val (.long (F_f1 (f0_3_s0 i0 i1 i2 i3) (0 : Int32) i2)), .second, .val (.int (f0_92_s0 i0 i1 i2 i3)), .val (.long (F_f1 (f0_3_s0 i0 i1 i2 i3) (f0_22_s0 i0 i1 i2 i3) i2)), .second, .val (.long (f0_v131 i0 i1 i2 i3)), .second, .unset, .unset, .unset] [(.int (F_f2 (f0_v131 i0 i1 i2 i3) i2))]))
        refine Outs.of (U' := T10.setTop (mkF m 217 #[.val (.int i0), .val (.int i1), .val (.int i2), .val (.int i3), .val (.int (f0_3_s0 i0 i1 i2 i3)), .val (.int (f0_22_s0 i0 i1 i2 i3)), .val (.long (F_f1 (f0_3_s0 i0 i1 i2 i3) (0 : Int32) i2)), .second, .val (.int (f0_92_s0 i0 i1 i2 i3)), .val (.long (F_f1 (f0_3_s0 i0 i1 i2 i3) (f0_22_s0 i0 i1 i2 i3) i2)), .second, .val (.long (f0_v131 i0 i1 i2 i3)), .second, .val (.int (F_f2 (f0_v131 i0 i1 i2 i3) i2)), .unset, .unset] [(.int (f0_200_s0 i0 i1 i2 i3))])) (fun t k => ?_) ?_
        · refine XS.istore X10.here hx rfl (hb hby at_192) rfl (l' := #[.val (.int i0), .val (.int i1), .val (.int i2), .val (.int i3), .val (.int (f0_3_s0 i0 i1 i2 i3)), .val (.int (f0_22_s0 i0 i1 i2 i3)), .val (.long (F_f1 (f0_3_s0 i0 i1 i2 i3) (0 : Int32) i2)), .second, .val (.int (f0_92_s0 i0 i1 i2 i3)), .val (.long (F_f1 (f0_3_s0 i0 i1 i2 i3) (f0_22_s0 i0 i1 i2 i3) i2)), .second, .val (.long (f0_v131 i0 i1 i2 i3)), .second, .val (.int (F_f2 (f0_v131 i0 i1 i2 i3) i2)), .unset, .unset]) rfl ?_
          show Steps p.tables e below (T10.setTop (mkF m 194 #[.val (.int i0), .val (.int i1), .val (.int i2), .val (.int i3), .val (.int (f0_3_s0 i0 i1 i2 i3)), .val (.int (f0_22_s0 i0 i1 i2 i3)), .val (.long (F_f1 (f0_3_s0 i0 i1 i2 i3) (0 : Int32) i2)), .second, .val (.int (f0_92_s0 i0 i1 i2 i3)), .val (.long (F_f1 (f0_3_s0 i0 i1 i2 i3) (f0_22_s0 i0 i1 i2 i3) i2)), .second, .val (.long (f0_v131 i0 i1 i2 i3)), .second, .val (.int (F_f2 (f0_v131 i0 i1 i2 i3) i2)), .unset, .unset] [])) _
          refine XS.lload X10.here hx rfl (hb hby at_194) rfl ?_
          show Steps p.tables e below (T10.setTop (mkF m 196 #[.val (.int i0), .val (.int i1), .val (.int i2), .val (.int i3), .val (.int (f0_3_s0 i0 i1 i2 i3)), .val (.int (f0_22_s0 i0 i1 i2 i3)), .val (.long (F_f1 (f0_3_s0 i0 i1 i2 i3) (0 : Int32) i2)), .second, .val (.int (f0_92_s0 i0 i1 i2 i3)), .val (.long (F_f1 (f0_3_s0 i0 i1 i2 i3) (f0_22_s0 i0 i1 i2 i3) i2)), .second, .val (.long (f0_v131 i0 i1 i2 i3)), .second, .val (.int (F_f2 (f0_v131 i0 i1 i2 i3) i2)), .unset, .unset] [(.long (F_f1 (f0_3_s0 i0 i1 i2 i3) (f0_22_s0 i0 i1 i2 i3) i2))])) _
          refine X10.ldc2Long hx hown (mvT hZ (hw _ (List.mem_of_getElem? (i := 10) rfl))) (g := (mkF m 196 #[.val (.int i0), .val (.int i1), .val (.int i2), .val (.int i3), .val (.int (f0_3_s0 i0 i1 i2 i3)), .val (.int (f0_22_s0 i0 i1 i2 i3)), .val (.long (F_f1 (f0_3_s0 i0 i1 i2 i3) (0 : Int32) i2)), .second, .val (.int (f0_92_s0 i0 i1 i2 i3)), .val (.long (F_f1 (f0_3_s0 i0 i1 i2 i3) (f0_22_s0 i0 i1 i2 i3) i2)), .second, .val (.long (f0_v131 i0 i1 i2 i3)), .second, .val (.int (F_f2 (f0_v131 i0 i1 i2 i3) i2)), .unset, .unset] [(.long (F_f1 (f0_3_s0 i0 i1 i2 i3) (f0_22_s0 i0 i1 i2 i3) i2))])) rfl (hb hby at_196) _ ?_
          show Steps p.tables e below (T10.setTop (mkF m 199 #[.val (.int i0), .val (.int i1), .val (.int i2), .val (.int i3), .val (.int (f0_3_s0 i0 i1 i2 i3)), .val (.int (f0_22_s0 i0 i1 i2 i3)), .val (.long (F_f1 (f0_3_s0 i0 i1 i2 i3) (0 : Int32) i2)), .second, .val (.int (f0_92_s0 i0 i1 i2 i3)), .val (.long (F_f1 (f0_3_s0 i0 i1 i2 i3) (f0_22_s0 i0 i1 i2 i3) i2)), .second, .val (.long (f0_v131 i0 i1 i2 i3)), .second, .val (.int (F_f2 (f0_v131 i0 i1 i2 i3) i2)), .unset, .unset] [(.long (4611686018427387904 : Int64)), (.long (F_f1 (f0_3_s0 i0 i1 i2 i3) (f0_22_s0 i0 i1 i2 i3) i2))])) _
          refine XS.lcmp X10.here hx rfl (hb hby at_199) rfl ?_
          show Steps p.tables e below (T10.setTop (mkF m 200 #[.val (.int i0), .val (.int i1), .val (.int i2), .val (.int i3), .val (.int (f0_3_s0 i0 i1 i2 i3)), .val (.int (f0_22_s0 i0 i1 i2 i3)), .val (.long (F_f1 (f0_3_s0 i0 i1 i2 i3) (0 : Int32) i2)), .second, .val (.int (f0_92_s0 i0 i1 i2 i3)), .val (.long (F_f1 (f0_3_s0 i0 i1 i2 i3) (f0_22_s0 i0 i1 i2 i3) i2)), .second, .val (.long (f0_v131 i0 i1 i2 i3)), .second, .val (.int (F_f2 (f0_v131 i0 i1 i2 i3) i2)), .unset, .unset] [(.int (lcmpW (F_f1 (f0_3_s0 i0 i1 i2 i3) (f0_22_s0 i0 i1 i2 i3) i2) (4611686018427387904 : Int64)))])) _
          by_cases hc200 : (F_f1 (f0_3_s0 i0 i1 i2 i3) (f0_22_s0 i0 i1 i2 i3) i2) < (4611686018427387904 : Int64)
          · refine XS.ifNo X10.here hx rfl (hb hby at_200) rfl ((if0 _ _).trans (tlt ((lw_lt _ _).mpr hc200)).2.1) ?_
            show Steps p.tables e below (T10.setTop (mkF m 203 #[.val (.int i0), .val (.int i1), .val (.int i2), .val (.int i3), .val (.int (f0_3_s0 i0 i1 i2 i3)), .val (.int (f0_22_s0 i0 i1 i2 i3)), .val (.long (F_f1 (f0_3_s0 i0 i1 i2 i3) (0 : Int32) i2)), .second, .val (.int (f0_92_s0 i0 i1 i2 i3)), .val (.long (F_f1 (f0_3_s0 i0 i1 i2 i3) (f0_22_s0 i0 i1 i2 i3) i2)), .second, .val (.long (f0_v131 i0 i1 i2 i3)), .second, .val (.int (F_f2 (f0_v131 i0 i1 i2 i3) i2)), .unset, .unset] [])) _
            refine XS.lload X10.here hx rfl (hb hby at_203) rfl ?_
            show Steps p.tables e below (T10.setTop (mkF m 205 #[.val (.int i0), .val (.int i1), .val (.int i2), .val (.int i3), .val (.int (f0_3_s0 i0 i1 i2 i3)), .val (.int (f0_22_s0 i0 i1 i2 i3)), .val (.long (F_f1 (f0_3_s0 i0 i1 i2 i3) (0 : Int32) i2)), .second, .val (.int (f0_92_s0 i0 i1 i2 i3)), .val (.long (F_f1 (f0_3_s0 i0 i1 i2 i3) (f0_22_s0 i0 i1 i2 i3) i2)), .second, .val (.long (f0_v131 i0 i1 i2 i3)), .second, .val (.int (F_f2 (f0_v131 i0 i1 i2 i3) i2)), .unset, .unset] [(.long (f0_v131 i0 i1 i2 i3))])) _
            refine X10.ldc2Long hx hown (mvT hZ (hw _ (List.mem_of_getElem? (i := 10) rfl))) (g := (mkF m 205 #[.val (.int i0), .val (.int i1), .val (.int i2), .val (.int i3), .val (.int (f0_3_s0 i0 i1 i2 i3)), .val (.int (f0_22_s0 i0 i1 i2 i3)), .val (.long (F_f1 (f0_3_s0 i0 i1 i2 i3) (0 : Int32) i2)), .second, .val (.int (f0_92_s0 i0 i1 i2 i3)), .val (.long (F_f1 (f0_3_s0 i0 i1 i2 i3) (f0_22_s0 i0 i1 i2 i3) i2)), .second, .val (.long (f0_v131 i0 i1 i2 i3)), .second, .val (.int (F_f2 (f0_v131 i0 i1 i2 i3) i2)), .unset, .unset] [(.long (f0_v131 i0 i1 i2 i3))])) rfl (hb hby at_205) _ ?_
            show Steps p.tables e below (T10.setTop (mkF m 208 #[.val (.int i0), .val (.int i1), .val (.int i2), .val (.int i3), .val (.int (f0_3_s0 i0 i1 i2 i3)), .val (.int (f0_22_s0 i0 i1 i2 i3)), .val (.long (F_f1 (f0_3_s0 i0 i1 i2 i3) (0 : Int32) i2)), .second, .val (.int (f0_92_s0 i0 i1 i2 i3)), .val (.long (F_f1 (f0_3_s0 i0 i1 i2 i3) (f0_22_s0 i0 i1 i2 i3) i2)), .second, .val (.long (f0_v131 i0 i1 i2 i3)), .second, .val (.int (F_f2 (f0_v131 i0 i1 i2 i3) i2)), .unset, .unset] [(.long (4611686018427387904 : Int64)), (.long (f0_v131 i0 i1 i2 i3))])) _
            refine XS.lcmp X10.here hx rfl (hb hby at_208) rfl ?_
            show Steps p.tables e below (T10.setTop (mkF m 209 #[.val (.int i0), .val (.int i1), .val (.int i2), .val (.int i3), .val (.int (f0_3_s0 i0 i1 i2 i3)), .val (.int (f0_22_s0 i0 i1 i2 i3)), .val (.long (F_f1 (f0_3_s0 i0 i1 i2 i3) (0 : Int32) i2)), .second, .val (.int (f0_92_s0 i0 i1 i2 i3)), .val (.long (F_f1 (f0_3_s0 i0 i1 i2 i3) (f0_22_s0 i0 i1 i2 i3) i2)), .second, .val (.long (f0_v131 i0 i1 i2 i3)), .second, .val (.int (F_f2 (f0_v131 i0 i1 i2 i3) i2)), .unset, .unset] [(.int (lcmpW (f0_v131 i0 i1 i2 i3) (4611686018427387904 : Int64)))])) _
            by_cases hc209 : (f0_v131 i0 i1 i2 i3) < (4611686018427387904 : Int64)
            · refine XS.ifNo X10.here hx rfl (hb hby at_209) rfl ((if0 _ _).trans (tlt ((lw_lt _ _).mpr hc209)).2.1) ?_
              show Steps p.tables e below (T10.setTop (mkF m 212 #[.val (.int i0), .val (.int i1), .val (.int i2), .val (.int i3), .val (.int (f0_3_s0 i0 i1 i2 i3)), .val (.int (f0_22_s0 i0 i1 i2 i3)), .val (.long (F_f1 (f0_3_s0 i0 i1 i2 i3) (0 : Int32) i2)), .second, .val (.int (f0_92_s0 i0 i1 i2 i3)), .val (.long (F_f1 (f0_3_s0 i0 i1 i2 i3) (f0_22_s0 i0 i1 i2 i3) i2)), .second, .val (.long (f0_v131 i0 i1 i2 i3)), .second, .val (.int (F_f2 (f0_v131 i0 i1 i2 i3) i2)), .unset, .unset] [])) _
              refine XS.iconst X10.here hx rfl (hb hby at_212) ?_
              show Steps p.tables e below (T10.setTop (mkF m 213 #[.val (.int i0), .val (.int i1), .val (.int i2), .val (.int i3), .val (.int (f0_3_s0 i0 i1 i2 i3)), .val (.int (f0_22_s0 i0 i1 i2 i3)), .val (.long (F_f1 (f0_3_s0 i0 i1 i2 i3) (0 : Int32) i2)), .second, .val (.int (f0_92_s0 i0 i1 i2 i3)), .val (.long (F_f1 (f0_3_s0 i0 i1 i2 i3) (f0_22_s0 i0 i1 i2 i3) i2)), .second, .val (.long (f0_v131 i0 i1 i2 i3)), .second, .val (.int (F_f2 (f0_v131 i0 i1 i2 i3) i2)), .unset, .unset] [(.int (1 : Int32))])) _
              refine XS.goto X10.here hx rfl (pc0 := 213) (pc' := 217) rfl (hb hby at_213) (by decide) (by decide) ?_
              show Steps p.tables e below (T10.setTop (mkF m 217 #[.val (.int i0), .val (.int i1), .val (.int i2), .val (.int i3), .val (.int (f0_3_s0 i0 i1 i2 i3)), .val (.int (f0_22_s0 i0 i1 i2 i3)), .val (.long (F_f1 (f0_3_s0 i0 i1 i2 i3) (0 : Int32) i2)), .second, .val (.int (f0_92_s0 i0 i1 i2 i3)), .val (.long (F_f1 (f0_3_s0 i0 i1 i2 i3) (f0_22_s0 i0 i1 i2 i3) i2)), .second, .val (.long (f0_v131 i0 i1 i2 i3)), .second, .val (.int (F_f2 (f0_v131 i0 i1 i2 i3) i2)), .unset, .unset] [(.int (1 : Int32))])) _
              rw [show (f0_200_s0 i0 i1 i2 i3) = (1 : Int32) from ((if_pos hc200).trans (if_pos hc209))] at k
              exact k
            · refine XS.ifYes X10.here hx rfl (pc0 := 209) (pc' := 216) rfl (hb hby at_209) rfl ((if0 _ _).trans (flt (fun q_ => hc209 ((lw_lt _ _).mp q_))).2.1) (by decide) (by decide) ?_
              show Steps p.tables e below (T10.setTop (mkF m 216 #[.val (.int i0), .val (.int i1), .val (.int i2), .val (.int i3), .val (.int (f0_3_s0 i0 i1 i2 i3)), .val (.int (f0_22_s0 i0 i1 i2 i3)), .val (.long (F_f1 (f0_3_s0 i0 i1 i2 i3) (0 : Int32) i2)), .second, .val (.int (f0_92_s0 i0 i1 i2 i3)), .val (.long (F_f1 (f0_3_s0 i0 i1 i2 i3) (f0_22_s0 i0 i1 i2 i3) i2)), .second, .val (.long (f0_v131 i0 i1 i2 i3)), .second, .val (.int (F_f2 (f0_v131 i0 i1 i2 i3) i2)), .unset, .unset] [])) _
              refine XS.iconst X10.here hx rfl (hb hby at_216) ?_
              show Steps p.tables e below (T10.setTop (mkF m 217 #[.val (.int i0), .val (.int i1), .val (.int i2), .val (.int i3), .val (.int (f0_3_s0 i0 i1 i2 i3)), .val (.int (f0_22_s0 i0 i1 i2 i3)), .val (.long (F_f1 (f0_3_s0 i0 i1 i2 i3) (0 : Int32) i2)), .second, .val (.int (f0_92_s0 i0 i1 i2 i3)), .val (.long (F_f1 (f0_3_s0 i0 i1 i2 i3) (f0_22_s0 i0 i1 i2 i3) i2)), .second, .val (.long (f0_v131 i0 i1 i2 i3)), .second, .val (.int (F_f2 (f0_v131 i0 i1 i2 i3) i2)), .unset, .unset] [(.int (0 : Int32))])) _
              rw [show (f0_200_s0 i0 i1 i2 i3) = (0 : Int32) from ((if_pos hc200).trans (if_neg hc209))] at k
              exact k
          · refine XS.ifYes X10.here hx rfl (pc0 := 200) (pc' := 216) rfl (hb hby at_200) rfl ((if0 _ _).trans (flt (fun q_ => hc200 ((lw_lt _ _).mp q_))).2.1) (by decide) (by decide) ?_
            show Steps p.tables e below (T10.setTop (mkF m 216 #[.val (.int i0), .val (.int i1), .val (.int i2), .val (.int i3), .val (.int (f0_3_s0 i0 i1 i2 i3)), .val (.int (f0_22_s0 i0 i1 i2 i3)), .val (.long (F_f1 (f0_3_s0 i0 i1 i2 i3) (0 : Int32) i2)), .second, .val (.int (f0_92_s0 i0 i1 i2 i3)), .val (.long (F_f1 (f0_3_s0 i0 i1 i2 i3) (f0_22_s0 i0 i1 i2 i3) i2)), .second, .val (.long (f0_v131 i0 i1 i2 i3)), .second, .val (.int (F_f2 (f0_v131 i0 i1 i2 i3) i2)), .unset, .unset] [])) _
            refine XS.iconst X10.here hx rfl (hb hby at_216) ?_
            show Steps p.tables e below (T10.setTop (mkF m 217 #[.val (.int i0), .val (.int i1), .val (.int i2), .val (.int i3), .val (.int (f0_3_s0 i0 i1 i2 i3)), .val (.int (f0_22_s0 i0 i1 i2 i3)), .val (.long (F_f1 (f0_3_s0 i0 i1 i2 i3) (0 : Int32) i2)), .second, .val (.int (f0_92_s0 i0 i1 i2 i3)), .val (.long (F_f1 (f0_3_s0 i0 i1 i2 i3) (f0_22_s0 i0 i1 i2 i3) i2)), .second, .val (.long (f0_v131 i0 i1 i2 i3)), .second, .val (.int (F_f2 (f0_v131 i0 i1 i2 i3) i2)), .unset, .unset] [(.int (0 : Int32))])) _
            rw [show (f0_200_s0 i0 i1 i2 i3) = (0 : Int32) from (if_neg hc200)] at k
            exact k
        refine Outs.of (U' := T10.setTop (mkF m 239 #[.val (.int i0), .val (.int i1), .val (.int i2), .val (.int i3), .val (.int (f0_3_s0 i0 i1 i2 i3)), .val (.int (f0_22_s0 i0 i1 i2 i3)), .val (.long (F_f1 (f0_3_s0 i0 i1 i2 i3) (0 : Int32) i2)), .second, .val (.int (f0_92_s0 i0 i1 i2 i3)), .val (.long (F_f1 (f0_3_s0 i0 i1 i2 i3) (f0_22_s0 i0 i1 i2 i3) i2)), .second, .val (.long (f0_v131 i0 i1 i2 i3)), .second, .val (.int (F_f2 (f0_v131 i0 i1 i2 i3) i2)), .val (.int (f0_200_s0 i0 i1 i2 i3)), .unset] [(.int (f0_221_s0b i0 i1 i2 i3))])) (fun t k => ?_) ?_
        · refine XS.istore X10.here hx rfl (hb hby at_217) rfl (l' := #[.val (.int i0), .val (.int i1), .val (.int i2), .val (.int i3), .val (.int (f0_3_s0 i0 i1 i2 i3)), .val (.int (f0_22_s0 i0 i1 i2 i3)), .val (.long (F_f1 (f0_3_s0 i0 i1 i2 i3) (0 : Int32) i2)), .second, .val (.int (f0_92_s0 i0 i1 i2 i3)), .val (.long (F_f1 (f0_3_s0 i0 i1 i2 i3) (f0_22_s0 i0 i1 i2 i3) i2)), .second, .val (.long (f0_v131 i0 i1 i2 i3)), .second, .val (.int (F_f2 (f0_v131 i0 i1 i2 i3) i2)), .val (.int (f0_200_s0 i0 i1 i2 i3)), .unset]) rfl ?_
          show Steps p.tables e below (T10.setTop (mkF m 219 #[.val (.int i0), .val (.int i1), .val (.int i2), .val (.int i3), .val (.int (f0_3_s0 i0 i1 i2 i3)), .val (.int (f0_22_s0 i0 i1 i2 i3)), .val (.long (F_f1 (f0_3_s0 i0 i1 i2 i3) (0 : Int32) i2)), .second, .val (.int (f0_92_s0 i0 i1 i2 i3)), .val (.long (F_f1 (f0_3_s0 i0 i1 i2 i3) (f0_22_s0 i0 i1 i2 i3) i2)), .second, .val (.long (f0_v131 i0 i1 i2 i3)), .second, .val (.int (F_f2 (f0_v131 i0 i1 i2 i3) i2)), .val (.int (f0_200_s0 i0 i1 i2 i3)), .unset] [])) _
          refine XS.iload X10.here hx rfl (hb hby at_219) rfl ?_
          show Steps p.tables e below (T10.setTop (mkF m 221 #[.val (.int i0), .val (.int i1), .val (.int i2), .val (.int i3), .val (.int (f0_3_s0 i0 i1 i2 i3)), .val (.int (f0_22_s0 i0 i1 i2 i3)), .val (.long (F_f1 (f0_3_s0 i0 i1 i2 i3) (0 : Int32) i2)), .second, .val (.int (f0_92_s0 i0 i1 i2 i3)), .val (.long (F_f1 (f0_3_s0 i0 i1 i2 i3) (f0_22_s0 i0 i1 i2 i3) i2)), .second, .val (.long (f0_v131 i0 i1 i2 i3)), .second, .val (.int (F_f2 (f0_v131 i0 i1 i2 i3) i2)), .val (.int (f0_200_s0 i0 i1 i2 i3)), .unset] [(.int (f0_92_s0 i0 i1 i2 i3))])) _
          by_cases hc221 : (f0_92_s0 i0 i1 i2 i3) = (0 : Int32)
          · refine XS.ifYes X10.here hx rfl (pc0 := 221) (pc' := 238) rfl (hb hby at_221) rfl ((if0 _ _).trans (teq hc221).1) (by decide) (by decide) ?_
            show Steps p.tables e below (T10.setTop (mkF m 238 #[.val (.int i0), .val (.int i1), .val (.int i2), .val (.int i3), .val (.int (f0_3_s0 i0 i1 i2 i3)), .val (.int (f0_22_s0 i0 i1 i2 i3)), .val (.long (F_f1 (f0_3_s0 i0 i1 i2 i3) (0 : Int32) i2)), .second, .val (.int (f0_92_s0 i0 i1 i2 i3)), .val (.long (F_f1 (f0_3_s0 i0 i1 i2 i3) (f0_22_s0 i0 i1 i2 i3) i2)), .second, .val (.long (f0_v131 i0 i1 i2 i3)), .second, .val (.int (F_f2 (f0_v131 i0 i1 i2 i3) i2)), .val (.int (f0_200_s0 i0 i1 i2 i3)), .unset] [])) _
            refine XS.iconst X10.here hx rfl (hb hby at_238) ?_
            show Steps p.tables e below (T10.setTop (mkF m 239 #[.val (.int i0), .val (.int i1), .val (.int i2), .val (.int i3), .val (.int (f0_3_s0 i0 i1 i2 i3)), .val (.int (f0_22_s0 i0 i1 i2 i3)), .val (.long (F_f1 (f0_3_s0 i0 i1 i2 i3) (0 : Int32) i2)), .second, .val (.int (f0_92_s0 i0 i1 i2 i3)), .val (.long (F_f1 (f0_3_s0 i0 i1 i2 i3) (f0_22_s0 i0 i1 i2 i3) i2)), .second, .val (.long (f0_v131 i0 i1 i2 i3)), .second, .val (.int (F_f2 (f0_v131 i0 i1 i2 i3) i2)), .val (.int (f0_200_s0 i0 i1 i2 i3)), .unset] [(.int (0 : Int32))])) _
            rw [show (f0_221_s0b i0 i1 i2 i3) = (0 : Int32) from (if_pos hc221)] at k
            exact k
          · refine XS.ifNo X10.here hx rfl (hb hby at_221) rfl ((if0 _ _).trans (feq hc221).1) ?_
            show Steps p.tables e below (T10.setTop (mkF m 224 #[.val (.int i0), .val (.int i1), .val (.int i2), .val (.int i3), .val (.int (f0_3_s0 i0 i1 i2 i3)), .val (.int (f0_22_s0 i0 i1 i2 i3)), .val (.long (F_f1 (f0_3_s0 i0 i1 i2 i3) (0 : Int32) i2)), .second, .val (.int (f0_92_s0 i0 i1 i2 i3)), .val (.long (F_f1 (f0_3_s0 i0 i1 i2 i3) (f0_22_s0 i0 i1 i2 i3) i2)), .second, .val (.long (f0_v131 i0 i1 i2 i3)), .second, .val (.int (F_f2 (f0_v131 i0 i1 i2 i3) i2)), .val (.int (f0_200_s0 i0 i1 i2 i3)), .unset] [])) _
            refine XS.iload X10.here hx rfl (hb hby at_224) rfl ?_
            show Steps p.tables e below (T10.setTop (mkF m 226 #[.val (.int i0), .val (.int i1), .val (.int i2), .val (.int i3), .val (.int (f0_3_s0 i0 i1 i2 i3)), .val (.int (f0_22_s0 i0 i1 i2 i3)), .val (.long (F_f1 (f0_3_s0 i0 i1 i2 i3) (0 : Int32) i2)), .second, .val (.int (f0_92_s0 i0 i1 i2 i3)), .val (.long (F_f1 (f0_3_s0 i0 i1 i2 i3) (f0_22_s0 i0 i1 i2 i3) i2)), .second, .val (.long (f0_v131 i0 i1 i2 i3)), .second, .val (.int (F_f2 (f0_v131 i0 i1 i2 i3) i2)), .val (.int (f0_200_s0 i0 i1 i2 i3)), .unset] [(.int (F_f2 (f0_v131 i0 i1 i2 i3) i2))])) _
            by_cases hc226 : (F_f2 (f0_v131 i0 i1 i2 i3) i2) = (0 : Int32)
            · refine XS.ifYes X10.here hx rfl (pc0 := 226) (pc' := 238) rfl (hb hby at_226) rfl ((if0 _ _).trans (teq hc226).1) (by decide) (by decide) ?_
              show Steps p.tables e below (T10.setTop (mkF m 238 #[.val (.int i0), .val (.int i1), .val (.int i2), .val (.int i3), .val (.int (f0_3_s0 i0 i1 i2 i3)), .val (.int (f0_22_s0 i0 i1 i2 i3)), .val (.long (F_f1 (f0_3_s0 i0 i1 i2 i3) (0 : Int32) i2)), .second, .val (.int (f0_92_s0 i0 i1 i2 i3)), .val (.long (F_f1 (f0_3_s0 i0 i1 i2 i3) (f0_22_s0 i0 i1 i2 i3) i2)), .second, .val (.long (f0_v131 i0 i1 i2 i3)), .second, .val (.int (F_f2 (f0_v131 i0 i1 i2 i3) i2)), .val (.int (f0_200_s0 i0 i1 i2 i3)), .unset] [])) _
              refine XS.iconst X10.here hx rfl (hb hby at_238) ?_
              show Steps p.tables e below (T10.setTop (mkF m 239 #[.val (.int i0), .val (.int i1), .val (.int i2), .val (.int i3), .val (.int (f0_3_s0 i0 i1 i2 i3)), .val (.int (f0_22_s0 i0 i1 i2 i3)), .val (.long (F_f1 (f0_3_s0 i0 i1 i2 i3) (0 : Int32) i2)), .second, .val (.int (f0_92_s0 i0 i1 i2 i3)), .val (.long (F_f1 (f0_3_s0 i0 i1 i2 i3) (f0_22_s0 i0 i1 i2 i3) i2)), .second, .val (.long (f0_v131 i0 i1 i2 i3)), .second, .val (.int (F_f2 (f0_v131 i0 i1 i2 i3) i2)), .val (.int (f0_200_s0 i0 i1 i2 i3)), .unset] [(.int (0 : Int32))])) _
              rw [show (f0_221_s0b i0 i1 i2 i3) = (0 : Int32) from ((if_neg hc221).trans (if_pos hc226))] at k
              exact k
            · refine XS.ifNo X10.here hx rfl (hb hby at_226) rfl ((if0 _ _).trans (feq hc226).1) ?_
              show Steps p.tables e below (T10.setTop (mkF m 229 #[.val (.int i0), .val (.int i1), .val (.int i2), .val (.int i3), .val (.int (f0_3_s0 i0 i1 i2 i3)), .val (.int (f0_22_s0 i0 i1 i2 i3)), .val (.long (F_f1 (f0_3_s0 i0 i1 i2 i3) (0 : Int32) i2)), .second, .val (.int (f0_92_s0 i0 i1 i2 i3)), .val (.long (F_f1 (f0_3_s0 i0 i1 i2 i3) (f0_22_s0 i0 i1 i2 i3) i2)), .second, .val (.long (f0_v131 i0 i1 i2 i3)), .second, .val (.int (F_f2 (f0_v131 i0 i1 i2 i3) i2)), .val (.int (f0_200_s0 i0 i1 i2 i3)), .unset] [])) _
              refine XS.iload X10.here hx rfl (hb hby at_229) rfl ?_
              show Steps p.tables e below (T10.setTop (mkF m 231 #[.val (.int i0), .val (.int i1), .val (.int i2), .val (.int i3), .val (.int (f0_3_s0 i0 i1 i2 i3)), .val (.int (f0_22_s0 i0 i1 i2 i3)), .val (.long (F_f1 (f0_3_s0 i0 i1 i2 i3) (0 : Int32) i2)), .second, .val (.int (f0_92_s0 i0 i1 i2 i3)), .val (.long (F_f1 (f0_3_s0 i0 i1 i2 i3) (f0_22_s0 i0 i1 i2 i3) i2)), .second, .val (.long (f0_v131 i0 i1 i2 i3)), .second, .val (.int (F_f2 (f0_v131 i0 i1 i2 i3) i2)), .val (.int (f0_200_s0 i0 i1 i2 i3)), .unset] [(.int (f0_200_s0 i0 i1 i2 i3))])) _
              by_cases hc231 : (f0_200_s0 i0 i1 i2 i3) = (0 : Int32)
              · refine XS.ifYes X10.here hx rfl (pc0 := 231) (pc' := 238) rfl (hb hby at_231) rfl ((if0 _ _).trans (teq hc231).1) (by decide) (by decide) ?_
                show Steps p.tables e below (T10.setTop (mkF m 238 #[.val (.int i0), .val (.int i1), .val (.int i2), .val (.int i3), .val (.int (f0_3_s0 i0 i1 i2 i3)), .val (.int (f0_22_s0 i0 i1 i2 i3)), .val (.long (F_f1 (f0_3_s0 i0 i1 i2 i3) (0 : Int32) i2)), .second, .val (.int (f0_92_s0 i0 i1 i2 i3)), .val (.long (F_f1 (f0_3_s0 i0 i1 i2 i3) (f0_22_s0 i0 i1 i2 i3) i2)), .second, .val (.long (f0_v131 i0 i1 i2 i3)), .second, .val (.int (F_f2 (f0_v131 i0 i1 i2 i3) i2)), .val (.int (f0_200_s0 i0 i1 i2 i3)), .unset] [])) _
                refine XS.iconst X10.here hx rfl (hb hby at_238) ?_
                show Steps p.tables e below (T10.setTop (mkF m 239 #[.val (.int i0), .val (.int i1), .val (.int i2), .val (.int i3), .val (.int (f0_3_s0 i0 i1 i2 i3)), .val (.int (f0_22_s0 i0 i1 i2 i3)), .val (.long (F_f1 (f0_3_s0 i0 i1 i2 i3) (0 : Int32) i2)), .second, .val (.int (f0_92_s0 i0 i1 i2 i3)), .val (.long (F_f1 (f0_3_s0 i0 i1 i2 i3) (f0_22_s0 i0 i1 i2 i3) i2)), .second, .val (.long (f0_v131 i0 i1 i2 i3)), .second, .val (.int (F_f2 (f0_v131 i0 i1 i2 i3) i2)), .val (.int (f0_200_s0 i0 i1 i2 i3)), .unset] [(.int (0 : Int32))])) _
                rw [show (f0_221_s0b i0 i1 i2 i3) = (0 : Int32) from ((if_neg hc221).trans ((if_neg hc226).trans (if_pos hc231)))] at k
                exact k
              · refine XS.ifNo X10.here hx rfl (hb hby at_231) rfl ((if0 _ _).trans (feq hc231).1) ?_
                show Steps p.tables e below (T10.setTop (mkF m 234 #[.val (.int i0), .val (.int i1), .val (.int i2), .val (.int i3), .val (.int (f0_3_s0 i0 i1 i2 i3)), .val (.int (f0_22_s0 i0 i1 i2 i3)), .val (.long (F_f1 (f0_3_s0 i0 i1 i2 i3) (0 : Int32) i2)), .second, .val (.int (f0_92_s0 i0 i1 i2 i3)), .val (.long (F_f1 (f0_3_s0 i0 i1 i2 i3) (f0_22_s0 i0 i1 i2 i3) i2)), .second, .val (.long (f0_v131 i0 i1 i2 i3)), .second, .val (.int (F_f2 (f0_v131 i0 i1 i2 i3) i2)), .val (.int (f0_200_s0 i0 i1 i2 i3)), .unset] [])) _
                refine XS.iconst X10.here hx rfl (hb hby at_234) ?_
                show Steps p.tables e below (T10.setTop (mkF m 235 #[.val (.int i0), .val (.int i1), .val (.int i2), .val (.int i3), .val (.int (f0_3_s0 i0 i1 i2 i3)), .val (.int (f0_22_s0 i0 i1 i2 i3)), .val (.long (F_f1 (f0_3_s0 i0 i1 i2 i3) (0 : Int32) i2)), .second, .val (.int (f0_92_s0 i0 i1 i2 i3)), .val (.long (F_f1 (f0_3_s0 i0 i1 i2 i3) (f0_22_s0 i0 i1 i2 i3) i2)), .second, .val (.long (f0_v131 i0 i1 i2 i3)), .second, .val (.int (F_f2 (f0_v131 i0 i1 i2 i3) i2)), .val (.int (f0_200_s0 i0 i1 i2 i3)), .unset] [(.int (1 : Int32))])) _
                refine XS.goto X10.here hx rfl (pc0 := 235) (pc' := 239) rfl (hb hby at_235) (by decide) (by decide) ?_
                show Steps p.tables e below (T10.setTop (mkF m 239 #[.val (.int i0), .val (.int i1), .val (.int i2), .val (.int i3), .val (.int (f0_3_s0 i0 i1 i2 i3)), .val (.int (f0_22_s0 i0 i1 i2 i3)), .val (.long (F_f1 (f0_3_s0 i0 i1 i2 i3) (0 : Int32) i2)), .second, .val (.int (f0_92_s0 i0 i1 i2 i3)), .val (.long (F_f1 (f0_3_s0 i0 i1 i2 i3) (f0_22_s0 i0 i1 i2 i3) i2)), .second, .val (.long (f0_v131 i0 i1 i2 i3)), .second, .val (.int (F_f2 (f0_v131 i0 i1 i2 i3) i2)), .val (.int (f0_200_s0 i0 i1 i2 i3)), .unset] [(.int (1 : Int32))])) _
                rw [show (f0_221_s0b i0 i1 i2 i3) = (1 : Int32) from ((if_neg hc221).trans ((if_neg hc226).trans (if_neg hc231)))] at k
                exact k
        exact Outs.retN (t := .boolean) (z := (f0_221_s0b i0 i1 i2 i3)) X10 hx hret (by simp) (hb hby at_239) hlk (by decide) (by decide) e10 ⟨congrArg (fun z_ => some (Value.int z_)) (law_221_s0b_3 i0 i1 i2 i3 hc40 hc85 hc138), N10⟩
      · refine Outs.of (U' := T9.setTop (mkF m 141 #[.val (.int i0), .val (.int i1), .val (.int i2), .val (.int i3), .val (.int (f0_3_s0 i0 i1 i2 i3)), .val (.int (f0_22_s0 i0 i1 i2 i3)), .val (.long (F_f1 (f0_3_s0 i0 i1 i2 i3) (0 : Int32) i2)), .second, .val (.int (f0_92_s0 i0 i1 i2 i3)), .val (.long (F_f1 (f0_3_s0 i0 i1 i2 i3) (f0_22_s0 i0 i1 i2 i3) i2)), .second, .val (.long (f0_v131 i0 i1 i2 i3)), .second, .unset, .unset, .unset] [])) (fun t k => ?_) ?_
        · refine XS.ifNo X9.here hx rfl (hb hby at_138) rfl ((if0 _ _).trans (flt (fun q_ => hc138 ((lw_gt _ _).mp q_))).2.2.1) ?_
          show Steps p.tables e below (T9.setTop (mkF m 141 #[.val (.int i0), .val (.int i1), .val (.int i2), .val (.int i3), .val (.int (f0_3_s0 i0 i1 i2 i3)), .val (.int (f0_22_s0 i0 i1 i2 i3)), .val (.long (F_f1 (f0_3_s0 i0 i1 i2 i3) (0 : Int32) i2)), .second, .val (.int (f0_92_s0 i0 i1 i2 i3)), .val (.long (F_f1 (f0_3_s0 i0 i1 i2 i3) (f0_22_s0 i0 i1 i2 i3) i2)), .second, .val (.long (f0_v131 i0 i1 i2 i3)), .second, .unset, .unset, .unset] [])) _
          exact k
        refine Outs.of (U' := T9.setTop (mkF m 154 #[.val (.int i0), .val (.int i1), .val (.int i2), .val (.int i3), .val (.int (f0_3_s0 i0 i1 i2 i3)), .val (.int (f0_22_s0 i0 i1 i2 i3)), .val (.long (F_f1 (f0_3_s0 i0 i1 i2 i3) (0 : Int32) i2)), .second, .val (.int (f0_92_s0 i0 i1 i2 i3)), .val (.long (F_f1 (f0_3_s0 i0 i1 i2 i3) (f0_22_s0 i0 i1 i2 i3) i2)), .second, .val (.long (f0_v131 i0 i1 i2 i3)), .second, .unset, .val (.long (f0_v147 i0 i1 i2 i3)), .second] [(.int (lcmpW (f0_v147 i0 i1 i2 i3) (i2.toInt64)))])) (fun t k => ?_) ?_
        · refine XS.lload X9.here hx rfl (hb hby at_141) rfl ?_
          show Steps p.tables e below (T9.setTop (mkF m 143 #[.val (.int i0), .val (.int i1), .val (.int i2), .val (.int i3), .val (.int (f0_3_s0 i0 i1 i2 i3)), .val (.int (f0_22_s0 i0 i1 i2 i3)), .val (.long (F_f1 (f0_3_s0 i0 i1 i2 i3) (0 : Int32) i2)), .second, .val (.int (f0_92_s0 i0 i1 i2 i3)), .val (.long (F_f1 (f0_3_s0 i0 i1 i2 i3) (f0_22_s0 i0 i1 i2 i3) i2)), .second, .val (.long (f0_v131 i0 i1 i2 i3)), .second, .unset, .unset, .unset] [(.long (F_f1 (f0_3_s0 i0 i1 i2 i3) (f0_22_s0 i0 i1 i2 i3) i2))])) _
          refine XS.iload X9.here hx rfl (hb hby at_143) rfl ?_
          show Steps p.tables e below (T9.setTop (mkF m 145 #[.val (.int i0), .val (.int i1), .val (.int i2), .val (.int i3), .val (.int (f0_3_s0 i0 i1 i2 i3)), .val (.int (f0_22_s0 i0 i1 i2 i3)), .val (.long (F_f1 (f0_3_s0 i0 i1 i2 i3) (0 : Int32) i2)), .second, .val (.int (f0_92_s0 i0 i1 i2 i3)), .val (.long (F_f1 (f0_3_s0 i0 i1 i2 i3) (f0_22_s0 i0 i1 i2 i3) i2)), .second, .val (.long (f0_v131 i0 i1 i2 i3)), .second, .unset, .unset, .unset] [(.int (f0_3_s0 i0 i1 i2 i3)), (.long (F_f1 (f0_3_s0 i0 i1 i2 i3) (f0_22_s0 i0 i1 i2 i3) i2))])) _
          refine XS.i2l X9.here hx rfl (hb hby at_145) rfl ?_
          show Steps p.tables e below (T9.setTop (mkF m 146 #[.val (.int i0), .val (.int i1), .val (.int i2), .val (.int i3), .val (.int (f0_3_s0 i0 i1 i2 i3)), .val (.int (f0_22_s0 i0 i1 i2 i3)), .val (.long (F_f1 (f0_3_s0 i0 i1 i2 i3) (0 : Int32) i2)), .second, .val (.int (f0_92_s0 i0 i1 i2 i3)), .val (.long (F_f1 (f0_3_s0 i0 i1 i2 i3) (f0_22_s0 i0 i1 i2 i3) i2)), .second, .val (.long (f0_v131 i0 i1 i2 i3)), .second, .unset, .unset, .unset] [(.long ((f0_3_s0 i0 i1 i2 i3).toInt64)), (.long (F_f1 (f0_3_s0 i0 i1 i2 i3) (f0_22_s0 i0 i1 i2 i3) i2))])) _
          refine XS.lmul X9.here hx rfl (hb hby at_146) rfl ?_
          show Steps p.tables e below (T9.setTop (mkF m 147 #[.val (.int i0), .val (.int i1), .val (.int i2), .val (.int i3), .val (.int (f0_3_s0 i0 i1 i2 i3)), .val (.int (f0_22_s0 i0 i1 i2 i3)), .val (.long (F_f1 (f0_3_s0 i0 i1 i2 i3) (0 : Int32) i2)), .second, .val (.int (f0_92_s0 i0 i1 i2 i3)), .val (.long (F_f1 (f0_3_s0 i0 i1 i2 i3) (f0_22_s0 i0 i1 i2 i3) i2)), .second, .val (.long (f0_v131 i0 i1 i2 i3)), .second, .unset, .unset, .unset] [(.long ((F_f1 (f0_3_s0 i0 i1 i2 i3) (f0_22_s0 i0 i1 i2 i3) i2) * ((f0_3_s0 i0 i1 i2 i3).toInt64)))])) _
          refine XS.lstore X9.here hx rfl (hb hby at_147) rfl (l' := #[.val (.int i0), .val (.int i1), .val (.int i2), .val (.int i3), .val (.int (f0_3_s0 i0 i1 i2 i3)), .val (.int (f0_22_s0 i0 i1 i2 i3)), .val (.long (F_f1 (f0_3_s0 i0 i1 i2 i3) (0 : Int32) i2)), .second, .val (.int (f0_92_s0 i0 i1 i2 i3)), .val (.long (F_f1 (f0_3_s0 i0 i1 i2 i3) (f0_22_s0 i0 i1 i2 i3) i2)), .second, .val (.long (f0_v131 i0 i1 i2 i3)), .second, .unset, .val (.long (f0_v147 i0 i1 i2 i3)), .second]) rfl ?_
          show Steps p.tables e below (T9.setTop (mkF m 149 #[.val (.int i0), .val (.int i1), .val (.int i2), .val (.int i3), .val (.int (f0_3_s0 i0 i1 i2 i3)), .val (.int (f0_22_s0 i0 i1 i2 i3)), .val (.long (F_f1 (f0_3_s0 i0 i1 i2 i3) (0 : Int32) i2)), .second, .val (.int (f0_92_s0 i0 i1 i2 i3)), .val (.long (F_f1 (f0_3_s0 i0 i1 i2 i3) (f0_22_s0 i0 i1 i2 i3) i2)), .second, .val (.long (f0_v131 i0 i1 i2 i3)), .second, .unset, .val (.long (f0_v147 i0 i1 i2 i3)), .second] [])) _
          refine XS.lload X9.here hx rfl (hb hby at_149) rfl ?_
          show Steps p.tables e below (T9.setTop (mkF m 151 #[.val (.int i0), .val (.int i1), .val (.int i2), .val (.int i3), .val (.int (f0_3_s0 i0 i1 i2 i3)), .val (.int (f0_22_s0 i0 i1 i2 i3)), .val (.long (F_f1 (f0_3_s0 i0 i1 i2 i3) (0 : Int32) i2)), .second, .val (.int (f0_92_s0 i0 i1 i2 i3)), .val (.long (F_f1 (f0_3_s0 i0 i1 i2 i3) (f0_22_s0 i0 i1 i2 i3) i2)), .second, .val (.long (f0_v131 i0 i1 i2 i3)), .second, .unset, .val (.long (f0_v147 i0 i1 i2 i3)), .second] [(.long (f0_v147 i0 i1 i2 i3))])) _
          refine XS.iloadN X9.here hx rfl (hb hby at_151) rfl ?_
          show Steps p.tables e below (T9.setTop (mkF m 152 #[.val (.int i0), .val (.int i1), .val (.int i2), .val (.int i3), .val (.int (f0_3_s0 i0 i1 i2 i3)), .val (.int (f0_22_s0 i0 i1 i2 i3)), .val (.long (F_f1 (f0_3_s0 i0 i1 i2 i3) (0 : Int32) i2)), .second, .val (.int (f0_92_s0 i0 i1 i2 i3)), .val (.long (F_f1 (f0_3_s0 i0 i1 i2 i3) (f0_22_s0 i0 i1 i2 i3) i2)), .second, .val (.long (f0_v131 i0 i1 i2 i3)), .second, .unset, .val (.long (f0_v147 i0 i1 i2 i3)), .second] [(.int i2), (.long (f0_v147 i0 i1 i2 i3))])) _
          refine XS.i2l X9.here hx rfl (hb hby at_152) rfl ?_
          show Steps p.tables e below (T9.setTop (mkF m 153 #[.val (.int i0), .val (.int i1), .val (.int i2), .val (.int i3), .val (.int (f0_3_s0 i0 i1 i2 i3)), .val (.int (f0_22_s0 i0 i1 i2 i3)), .val (.long (F_f1 (f0_3_s0 i0 i1 i2 i3) (0 : Int32) i2)), .second, .val (.int (f0_92_s0 i0 i1 i2 i3)), .val (.long (F_f1 (f0_3_s0 i0 i1 i2 i3) (f0_22_s0 i0 i1 i2 i3) i2)), .second, .val (.long (f0_v131 i0 i1 i2 i3)), .second, .unset, .val (.long (f0_v147 i0 i1 i2 i3)), .second] [(.long (i2.toInt64)), (.long (f0_v147 i0 i1 i2 i3))])) _
          refine XS.lcmp X9.here hx rfl (hb hby at_153) rfl ?_
          show Steps p.tables e below (T9.setTop (mkF m 154 #[.val (.int i0), .val (.int i1), .val (.int i2), .val (.int i3), .val (.int (f0_3_s0 i0 i1 i2 i3)), .val (.int (f0_22_s0 i0 i1 i2 i3)), .val (.long (F_f1 (f0_3_s0 i0 i1 i2 i3) (0 : Int32) i2)), .second, .val (.int (f0_92_s0 i0 i1 i2 i3)), .val (.long (F_f1 (f0_3_s0 i0 i1 i2 i3) (f0_22_s0 i0 i1 i2 i3) i2)), .second, .val (.long (f0_v131 i0 i1 i2 i3)), .second, .unset, .val (.long (f0_v147 i0 i1 i2 i3)), .second] [(.int (lcmpW (f0_v147 i0 i1 i2 i3) (i2.toInt64)))])) _
          exact k
        by_cases hc154 : (i2.toInt64) < (f0_v147 i0 i1 i2 i3)
        · refine Outs.of (U' := T9.setTop (mkF m 175 #[.val (.int i0), .val (.int i1), .val (.int i2), .val (.int i3), .val (.int (f0_3_s0 i0 i1 i2 i3)), .val (.int (f0_22_s0 i0 i1 i2 i3)), .val (.long (F_f1 (f0_3_s0 i0 i1 i2 i3) (0 : Int32) i2)), .second, .val (.int (f0_92_s0 i0 i1 i2 i3)), .val (.long (F_f1 (f0_3_s0 i0 i1 i2 i3) (f0_22_s0 i0 i1 i2 i3) i2)), .second, .val (.long (f0_v131 i0 i1 i2 i3)), .second, .unset, .val (.long (f0_v147 i0 i1 i2 i3)), .second] [])) (fun t k => ?_) ?_
          · refine XS.ifYes X9.here hx rfl (pc0 := 154) (pc' := 175) rfl (hb hby at_154) rfl ((if0 _ _).trans (tlt ((lw_gt _ _).mpr hc154)).2.2.1) (by decide) (by decide) ?_
            show Steps p.tables e below (T9.setTop (mkF m 175 #[.val (.int i0), .val (.int i1), .val (.int i2), .val (.int i3), .val (.int (f0_3_s0 i0 i1 i2 i3)), .val (.int (f0_22_s0 i0 i1 i2 i3)), .val (.long (F_f1 (f0_3_s0 i0 i1 i2 i3) (0 : Int32) i2)), .second, .val (.int (f0_92_s0 i0 i1 i2 i3)), .val (.long (F_f1 (f0_3_s0 i0 i1 i2 i3) (f0_22_s0 i0 i1 i2 i3) i2)), .second, .val (.long (f0_v131 i0 i1 i2 i3)), .second, .unset, .val (.long (f0_v147 i0 i1 i2 i3)), .second] [])) _
            exact k
          refine Outs.of (U' := T9.setTop (mkF m 178 #[.val (.int i0), .val (.int i1), .val (.int i2), .val (.int i3), .val (.int (f0_3_s0 i0 i1 i2 i3)), .val (.int (f0_22_s0 i0 i1 i2 i3)), .val (.long (F_f1 (f0_3_s0 i0 i1 i2 i3) (0 : Int32) i2)), .second, .val (.int (f0_92_s0 i0 i1 i2 i3)), .val (.long (F_f1 (f0_3_s0 i0 i1 i2 i3) (f0_22_s0 i0 i1 i2 i3) i2)), .second, .val (.long (f0_v131 i0 i1 i2 i3)), .second, .unset, .val (.long (f0_v147 i0 i1 i2 i3)), .second] [(.int i2), (.long (f0_v131 i0 i1 i2 i3))])) (fun t k => ?_) ?_
          · refine XS.lload X9.here hx rfl (hb hby at_175) rfl ?_
            show Steps p.tables e below (T9.setTop (mkF m 177 #[.val (.int i0), .val (.int i1), .val (.int i2), .val (.int i3), .val (.int (f0_3_s0 i0 i1 i2 i3)), .val (.int (f0_22_s0 i0 i1 i2 i3)), .val (.long (F_f1 (f0_3_s0 i0 i1 i2 i3) (0 : Int32) i2)), .second, .val (.int (f0_92_s0 i0 i1 i2 i3)), .val (.long (F_f1 (f0_3_s0 i0 i1 i2 i3) (f0_22_s0 i0 i1 i2 i3) i2)), .second, .val (.long (f0_v131 i0 i1 i2 i3)), .second, .unset, .val (.long (f0_v147 i0 i1 i2 i3)), .second] [(.long (f0_v131 i0 i1 i2 i3))])) _
            refine XS.iloadN X9.here hx rfl (hb hby at_177) rfl ?_
            show Steps p.tables e below (T9.setTop (mkF m 178 #[.val (.int i0), .val (.int i1), .val (.int i2), .val (.int i3), .val (.int (f0_3_s0 i0 i1 i2 i3)), .val (.int (f0_22_s0 i0 i1 i2 i3)), .val (.long (F_f1 (f0_3_s0 i0 i1 i2 i3) (0 : Int32) i2)), .second, .val (.int (f0_92_s0 i0 i1 i2 i3)), .val (.long (F_f1 (f0_3_s0 i0 i1 i2 i3) (f0_22_s0 i0 i1 i2 i3) i2)), .second, .val (.long (f0_v131 i0 i1 i2 i3)), .second, .unset, .val (.long (f0_v147 i0 i1 i2 i3)), .second] [(.int i2), (.long (f0_v131 i0 i1 i2 i3))])) _
            exact k
          obtain ⟨_, _, ⟨T11, L11, k11, n11⟩, -, X11, ⟨Lc11, hQ11, l11, y11, z11⟩, st11⟩ := Jvm.LawKit.callS X9 hx (y := (⟨"com/example/ratatoskr/ratatoskr/ChoicesCountPinLaw", "over", "(JI)Z"⟩ : MethodName)) hown (mvT hZ (hw _ (List.mem_of_getElem? (i := 6) rfl))) (mvT hZ (hw _ (List.mem_of_getElem? (i := 7) rfl))) (mvT hZ (hw _ (List.mem_of_getElem? (i := 8) rfl))) (mvT hZ (hw _ (List.mem_of_getElem? (i := 9) rfl))) (by decide) (backOf (W := 0) (rm2 l Z a0 hw [] (f0_v131 i0 i1 i2 i3) i2 h0 n0 ) hZ (hw _ (List.mem_of_getElem? (i := 9) rfl)) (hw _ (List.mem_of_getElem? (i := 8) rfl)) (by decide) (by decide)) (g := (mkF m 178 #[.val (.int i0), .val (.int i1), .val (.int i2), .val (.int i3), .val (.int (f0_3_s0 i0 i1 i2 i3)), .val (.int (f0_22_s0 i0 i1 i2 i3)), .val (.long (F_f1 (f0_3_s0 i0 i1 i2 i3) (0 : Int32) i2)), .second, .val (.int (f0_92_s0 i0 i1 i2 i3)), .val (.long (F_f1 (f0_3_s0 i0 i1 i2 i3) (f0_22_s0 i0 i1 i2 i3) i2)), .second, .val (.long (f0_v131 i0 i1 i2 i3)), .second, .unset, .val (.long (f0_v147 i0 i1 i2 i3)), .second] [(.int i2), (.long (f0_v131 i0 i1 i2 i3))])) rfl (by rw [hml]; rfl) (argsL := [(.long (f0_v131 i0 i1 i2 i3)), (.int i2)]) (rest := []) (lenOf pd_1 rfl) rfl (by show 2 * 0 + _ ≤ _; exact Nat.le_of_eq rfl) (hb hby at_178) (fun _ _ => ⟨rfl, e9, (by decide : 0 + 0 ≤ _), (by decide : 0 + 0 ≤ _)⟩)
          dsimp only [Pt.U, Pt.locs, Pt.cells, Pt.slots] at X11 l11 y11 z11 st11 hQ11
          subst l11 y11 z11
          obtain ⟨rfl, N11q, e11⟩ := hQ11
          have N11 := Fr.app N9 N11q
          refine Outs.of st11 ?_
          show Outs p e below s _ _ _ (T11.setTop (mkF m 181 #[.val (.int i0), .val (.int i1), .val (.int i2), .val (.int i3), .val (.int (f0_3_s0 i0 i1 i2 i3)), .val (.int (f0_22_s0 i0 i1 i2 i3)), .val (.long (F_f1 (f0_3_s0 i0 i1 i2 i3) (0 : Int32) i2)), .second, .val (.int (f0_92_s0 i0 i1 i2 i3)), .val (.long (F_f1 (f0_3_s0 i0 i1 i2 i3) (f0_22_s0 i0 i1 i2 i3) i2)), .second, .val (.long (f0_v131 i0 i1 i2 i3)), .second, .unset, .val (.long (f0_v147 i0 i1 i2 i3)), .second] [(.int (F_f2 (f0_v131 i0 i1 i2 i3) i2))]))
          refine Outs.of (U' := T11.setTop (mkF m 217 #[.val (.int i0), .val (.int i1), .val (.int i2), .val (.int i3), .val (.int (f0_3_s0 i0 i1 i2 i3)), .val (.int (f0_22_s0 i0 i1 i2 i3)), .val (.long (F_f1 (f0_3_s0 i0 i1 i2 i3) (0 : Int32) i2)), .second, .val (.int (f0_92_s0 i0 i1 i2 i3)), .val (.long (F_f1 (f0_3_s0 i0 i1 i2 i3) (f0_22_s0 i0 i1 i2 i3) i2)), .second, .val (.long (f0_v131 i0 i1 i2 i3)), .second, .val (.int (F_f2 (f0_v131 i0 i1 i2 i3) i2)), .val (.long (f0_v147 i0 i1 i2 i3)), .second] [(.int (f0_200_s0 i0 i1 i2 i3))])) (fun t k => ?_) ?_
          · refine XS.istore X11.here hx rfl (hb hby at_181) rfl (l' := #[.val (.int i0), .val (.int i1), .val (.int i2), .val (.int i3), .val (.int (f0_3_s0 i0 i1 i2 i3)), .val (.int (f0_22_s0 i0 i1 i2 i3)), .val (.long (F_f1 (f0_3_s0 i0 i1 i2 i3) (0 : Int32) i2)), .second, .val (.int (f0_92_s0 i0 i1 i2 i3)), .val (.long (F_f1 (f0_3_s0 i0 i1 i2 i3) (f0_22_s0 i0 i1 i2 i3) i2)), .second, .val (.long (f0_v131 i0 i1 i2 i3)), .second, .val (.int (F_f2 (f0_v131 i0 i1 i2 i3) i2)), .val (.long (f0_v147 i0 i1 i2 i3)), .second]) rfl ?_
            show Steps p.tables e below (T11.setTop (mkF m 183 #[.val (.int i0), .val (.int i1), .val (.int i2), .val (.int i3), .val (.int (f0_3_s0 i0 i1 i2 i3)), .val (.int (f0_22_s0 i0 i1 i2 i3)), .val (.long (F_f1 (f0_3_s0 i0 i1 i2 i3) (0 : Int32) i2)), .second, .val (.int (f0_92_s0 i0 i1 i2 i3)), .val (.long (F_f1 (f0_3_s0 i0 i1 i2 i3) (f0_22_s0 i0 i1 i2 i3) i2)), .second, .val (.long (f0_v131 i0 i1 i2 i3)), .second, .val (.int (F_f2 (f0_v131 i0 i1 i2 i3) i2)), .val (.long (f0_v147 i0 i1 i2 i3)), .second] [])) _
            refine XS.goto X11.here hx rfl (pc0 := 183) (pc' := 194) rfl (hb hby at_183) (by decide) (by decide) ?_
            show Steps p.tables e below (T11.setTop (mkF m 194 #[.val (.int i0), .val (.int i1), .val (.int i2), .val (.int i3), .val (.int (f0_3_s0 i0 i1 i2 i3)), .val (.int (f0_22_s0 i0 i1 i2 i3)), .val (.long (F_f1 (f0_3_s0 i0 i1 i2 i3) (0 : Int32) i2)), .second, .val (.int (f0_92_s0 i0 i1 i2 i3)), .val (.long (F_f1 (f0_3_s0 i0 i1 i2 i3) (f0_22_s0 i0 i1 i2 i3) i2)), .second, .val (.long (f0_v131 i0 i1 i2 i3)), .second, .val (.int (F_f2 (f0_v131 i0 i1 i2 i3) i2)), .val (.long (f0_v147 i0 i1 i2 i3)), .second] [])) _
            refine XS.lload X11.here hx rfl (hb hby at_194) rfl ?_
            show Steps p.tables e below (T11.setTop (mkF m 196 #[.val (.int i0), .val (.int i1), .val (.int i2), .val (.int i3), .val (.int (f0_3_s0 i0 i1 i2 i3)), .val (.int (f0_22_s0 i0 i1 i2 i3)), .val (.long (F_f1 (f0_3_s0 i0 i1 i2 i3) (0 : Int32) i2)), .second, .val (.int (f0_92_s0 i0 i1 i2 i3)), .val (.long (F_f1 (f0_3_s0 i0 i1 i2 i3) (f0_22_s0 i0 i1 i2 i3) i2)), .second, .val (.long (f0_v131 i0 i1 i2 i3)), .second, .val (.int (F_f2 (f0_v131 i0 i1 i2 i3) i2)), .val (.long (f0_v147 i0 i1 i2 i3)), .second] [(.long (F_f1 (f0_3_s0 i0 i1 i2 i3) (f0_22_s0 i0 i1 i2 i3) i2))])) _
            refine X11.ldc2Long hx hown (mvT hZ (hw _ (List.mem_of_getElem? (i := 10) rfl))) (g := (mkF m 196 #[.val (.int i0), .val (.int i1), .val (.int i2), .val (.int i3), .val (.int (f0_3_s0 i0 i1 i2 i3)), .val (.int (f0_22_s0 i0 i1 i2 i3)), .val (.long (F_f1 (f0_3_s0 i0 i1 i2 i3) (0 : Int32) i2)), .second, .val (.int (f0_92_s0 i0 i1 i2 i3)), .val (.long (F_f1 (f0_3_s0 i0 i1 i2 i3) (f0_22_s0 i0 i1 i2 i3) i2)), .second, .val (.long (f0_v131 i0 i1 i2 i3)), .second, .val (.int (F_f2 (f0_v131 i0 i1 i2 i3) i2)), .val (.long (f0_v147 i0 i1 i2 i3)), .second] [(.long (F_f1 (f0_3_s0 i0 i1 i2 i3) (f0_22_s0 i0 i1 i2 i3) i2))])) rfl (hb hby at_196) _ ?_
            show Steps p.tables e below (T11.setTop (mkF m 199 #[.val (.int i0), .val (.int i1), .val (.int i2), .val (.int i3), .val (.int (f0_3_s0 i0 i1 i2 i3)), .val (.int (f0_22_s0 i0 i1 i2 i3)), .val (.long (F_f1 (f0_3_s0 i0 i1 i2 i3) (0 : Int32) i2)), .second, .val (.int (f0_92_s0 i0 i1 i2 i3)), .val (.long (F_f1 (f0_3_s0 i0 i1 i2 i3) (f0_22_s0 i0 i1 i2 i3) i2)), .second, .val (.long (f0_v131 i0 i1 i2 i3)), .second, .val (.int (F_f2 (f0_v131 i0 i1 i2 i3) i2)), .val (.long (f0_v147 i0 i1 i2 i3)), .second] [(.long (4611686018427387904 : Int64)), (.long (F_f1 (f0_3_s0 i0 i1 i2 i3) (f0_22_s0 i0 i1 i2 i3) i2))])) _
            refine XS.lcmp X11.here hx rfl (hb hby at_199) rfl ?_
            show Steps p.tables e below (T11.setTop (mkF m 200 #[.val (.int i0), .val (.int i1), .val (.int i2), .val (.int i3), .val (.int (f0_3_s0 i0 i1 i2 i3)), .val (.int (f0_22_s0 i0 i1 i2 i3)), .val (.long (F_f1 (f0_3_s0 i0 i1 i2 i3) (0 : Int32) i2)), .second, .val (.int (f0_92_s0 i0 i1 i2 i3)), .val (.long (F_f1 (f0_3_s0 i0 i1 i2 i3) (f0_22_s0 i0 i1 i2 i3) i2)), .second, .val (.long (f0_v131 i0 i1 i2 i3)), .second, .val (.int (F_f2 (f0_v131 i0 i1 i2 i3) i2)), .val (.long (f0_v147 i0 i1 i2 i3)), .second] [(.int (lcmpW (F_f1 (f0_3_s0 i0 i1 i2 i3) (f0_22_s0 i0 i1 i2 i3) i2) (4611686018427387904 : Int64)))])) _
            by_cases hc200 : (F_f1 (f0_3_s0 i0 i1 i2 i3) (f0_22_s0 i0 i1 i2 i3) i2) < (4611686018427387904 : Int64)
            · refine XS.ifNo X11.here hx rfl (hb hby at_200) rfl ((if0 _ _).trans (tlt ((lw_lt _ _).mpr hc200)).2.1) ?_
              show Steps p.tables e below (T11.setTop (mkF m 203 #[.val (.int i0), .val (.int i1), .val (.int i2), .val (.int i3), .val (.int (f0_3_s0 i0 i1 i2 i3)), .val (.int (f0_22_s0 i0 i1 i2 i3)), .val (.long (F_f1 (f0_3_s0 i0 i1 i2 i3) (0 : Int32) i2)), .second, .val (.int (f0_92_s0 i0 i1 i2 i3)), .val (.long (F_f1 (f0_3_s0 i0 i1 i2 i3) (f0_22_s0 i0 i1 i2 i3) i2)), .second, .val (.long (f0_v131 i0 i1 i2 i3)), .second, .val (.int (F_f2 (f0_v131 i0 i1 i2 i3) i2)), .val (.long (f0_v147 i0 i1 i2 i3)), .second] [])) _
              refine XS.lload X11.here hx rfl (hb hby at_203) rfl ?_
              show Steps p.tables e below (T11.setTop (mkF m 205 #[.val (.int i0), .val (.int i1), .val (.int i2), .val (.int i3), .val (.int (f0_3_s0 i0 i1 i2 i3)), .val (.int (f0_22_s0 i0 i1 i2 i3)), .val (.long (F_f1 (f0_3_s0 i0 i1 i2 i3) (0 : Int32) i2)), .second, .val (.int (f0_92_s0 i0 i1 i2 i3)), .val (.long (F_f1 (f0_3_s0 i0 i1 i2 i3) (f0_22_s0 i0 i1 i2 i3) i2)), .second, .val (.long (f0_v131 i0 i1 i2 i3)), .second, .val (.int (F_f2 (f0_v131 i0 i1 i2 i3) i2)), .val (.long (f0_v147 i0 i1 i2 i3)), .second] [(.long (f0_v131 i0 i1 i2 i3))])) _
              refine X11.ldc2Long hx hown (mvT hZ (hw _ (List.mem_of_getElem? (i := 10) rfl))) (g := (mkF m 205 #[.val (.int i0), .val (.int i1), .val (.int i2), .val (.int i3), .val (.int (f0_3_s0 i0 i1 i2 i3)), .val (.int (f0_22_s0 i0 i1 i2 i3)), .val (.long (F_f1 (f0_3_s0 i0 i1 i2 i3) (0 : Int32) i2)), .second, .val (.int (f0_92_s0 i0 i1 i2 i3)), .val (.long (F_f1 (f0_3_s0 i0 i1 i2 i3) (f0_22_s0 i0 i1 i2 i3) i2)), .second, .val (.long (f0_v131 i0 i1 i2 i3)), .second, .val (.int (F_f2 (f0_v131 i0 i1 i2 i3) i2)), .val (.long (f0_v147 i0 i1 i2 i3)), .second] [(.long (f0_v131 i0 i1 i2 i3))])) rfl (hb hby at_205) _ ?_
              show Steps p.tables e below (T11.setTop (mkF m 208 #[.val (.int i0), .val (.int i1), .val (.int i2), .val (.int i3), .val (.int (f0_3_s0 i0 i1 i2 i3)), .val (.int (f0_22_s0 i0 i1 i2 i3)), .val (.long (F_f1 (f0_3_s0 i0 i1 i2 i3) (0 : Int32) i2)), .second, .val (.int (f0_92_s0 i0 i1 i2 i3)), .val (.long (F_f1 (f0_3_s0 i0 i1 i2 i3) (f0_22_s0 i0 i1 i2 i3) i2)), .second, .val (.long (f0_v131 i0 i1 i2 i3)), .second, .val (.int (F_f2 (f0_v131 i0 i1 i2 i3) i2)), .val (.long (f0_v147 i0 i1 i2 i3)), .second] [(.long (4611686018427387904 : Int64)), (.long (f0_v131 i0 i1 i2 i3))])) _
              refine XS.lcmp X11.here hx rfl (hb hby at_208) rfl ?_
              show Steps p.tables e below (T11.setTop (mkF m 209 #[.val (.int i0), .val (.int i1), .val (.int i2), .val (.int i3), .val (.int (f0_3_s0 i0 i1 i2 i3)), .val (.int (f0_22_s0 i0 i1 i2 i3)), .val (.long (F_f1 (f0_3_s0 i0 i1 i2 i3) (0 : Int32) i2)), .second, .val (.int (f0_92_s0 i0 i1 i2 i3)), .val (.long (F_f1 (f0_3_s0 i0 i1 i2 i3) (f0_22_s0 i0 i1 i2 i3) i2)), .second, .val (.long (f0_v131 i0 i1 i2 i3)), .second, .val (.int (F_f2 (f0_v131 i0 i1 i2 i3) i2)), .val (.long (f0_v147 i0 i1 i2 i3)), .second] [(.int (lcmpW (f0_v131 i0 i1 i2 i3) (4611686018427387904 : Int64)))])) _
              by_cases hc209 : (f0_v131 i0 i1 i2 i3) < (4611686018427387904 : Int64)
              · refine XS.ifNo X11.here hx rfl (hb hby at_209) rfl ((if0 _ _).trans (tlt ((lw_lt _ _).mpr hc209)).2.1) ?_
                show Steps p.tables e below (T11.setTop (mkF m 212 #[.val (.int i0), .val (.int i1), .val (.int i2), .val (.int i3), .val (.int (f0_3_s0 i0 i1 i2 i3)), .val (.int (f0_22_s0 i0 i1 i2 i3)), .val (.long (F_f1 (f0_3_s0 i0 i1 i2 i3) (0 : Int32) i2)), .second, .val (.int (f0_92_s0 i0 i1 i2 i3)), .val (.long (F_f1 (f0_3_s0 i0 i1 i2 i3) (f0_22_s0 i0 i1 i2 i3) i2)), .second, .val (.long (f0_v131 i0 i1 i2 i3)), .second, .val (.int (F_f2 (f0_v131 i0 i1 i2 i3) i2)), .val (.long (f0_v147 i0 i1 i2 i3)), .second] [])) _
                refine XS.iconst X11.here hx rfl (hb hby at_212) ?_
                show Steps p.tables e below (T11.setTop (mkF m 213 #[.val (.int i0), .val (.int i1), .val (.int i2), .val (.int i3), .val (.int (f0_3_s0 i0 i1 i2 i3)), .val (.int (f0_22_s0 i0 i1 i2 i3)), .val (.long (F_f1 (f0_3_s0 i0 i1 i2 i3) (0 : Int32) i2)), .second, .val (.int (f0_92_s0 i0 i1 i2 i3)), .val (.long (F_f1 (f0_3_s0 i0 i1 i2 i3) (f0_22_s0 i0 i1 i2 i3) i2)), .second, .val (.long (f0_v131 i0 i1 i2 i3)), .second, .val (.int (F_f2 (f0_v131 i0 i1 i2 i3) i2)), .val (.long (f0_v147 i0 i1 i2 i3)), .second] [(.int (1 : Int32))])) _
                refine XS.goto X11.here hx rfl (pc0 := 213) (pc' := 217) rfl (hb hby at_213) (by decide) (by decide) ?_
                show Steps p.tables e below (T11.setTop (mkF m 217 #[.val (.int i0), .val (.int i1), .val (.int i2), .val (.int i3), .val (.int (f0_3_s0 i0 i1 i2 i3)), .val (.int (f0_22_s0 i0 i1 i2 i3)), .val (.long (F_f1 (f0_3_s0 i0 i1 i2 i3) (0 : Int32) i2)), .second, .val (.int (f0_92_s0 i0 i1 i2 i3)), .val (.long (F_f1 (f0_3_s0 i0 i1 i2 i3) (f0_22_s0 i0 i1 i2 i3) i2)), .second, .val (.long (f0_v131 i0 i1 i2 i3)), .second, .val (.int (F_f2 (f0_v131 i0 i1 i2 i3) i2)), .val (.long (f0_v147 i0 i1 i2 i3)), .second] [(.int (1 : Int32))])) _
                rw [show (f0_200_s0 i0 i1 i2 i3) = (1 : Int32) from ((if_pos hc200).trans (if_pos hc209))] at k
                exact k
              · refine XS.ifYes X11.here hx rfl (pc0 := 209) (pc' := 216) rfl (hb hby at_209) rfl ((if0 _ _).trans (flt (fun q_ => hc209 ((lw_lt _ _).mp q_))).2.1) (by decide) (by decide) ?_
                show Steps p.tables e below (T11.setTop (mkF m 216 #[.val (.int i0), .val (.int i1), .val (.int i2), .val (.int i3), .val (.int (f0_3_s0 i0 i1 i2 i3)), .val (.int (f0_22_s0 i0 i1 i2 i3)), .val (.long (F_f1 (f0_3_s0 i0 i1 i2 i3) (0 : Int32) i2)), .second, .val (.int (f0_92_s0 i0 i1 i2 i3)), .val (.long (F_f1 (f0_3_s0 i0 i1 i2 i3) (f0_22_s0 i0 i1 i2 i3) i2)), .second, .val (.long (f0_v131 i0 i1 i2 i3)), .second, .val (.int (F_f2 (f0_v131 i0 i1 i2 i3) i2)), .val (.long (f0_v147 i0 i1 i2 i3)), .second] [])) _
                refine XS.iconst X11.here hx rfl (hb hby at_216) ?_
                show Steps p.tables e below (T11.setTop (mkF m 217 #[.val (.int i0), .val (.int i1), .val (.int i2), .val (.int i3), .val (.int (f0_3_s0 i0 i1 i2 i3)), .val (.int (f0_22_s0 i0 i1 i2 i3)), .val (.long (F_f1 (f0_3_s0 i0 i1 i2 i3) (0 : Int32) i2)), .second, .val (.int (f0_92_s0 i0 i1 i2 i3)), .val (.long (F_f1 (f0_3_s0 i0 i1 i2 i3) (f0_22_s0 i0 i1 i2 i3) i2)), .second, .val (.long (f0_v131 i0 i1 i2 i3)), .second, .val (.int (F_f2 (f0_v131 i0 i1 i2 i3) i2)), .val (.long (f0_v147 i0 i1 i2 i3)), .second] [(.int (0 : Int32))])) _
                rw [show (f0_200_s0 i0 i1 i2 i3) = (0 : Int32) from ((if_pos hc200).trans (if_neg hc209))] at k
                exact k
            · refine XS.ifYes X11.here hx rfl (pc0 := 200) (pc' := 216) rfl (hb hby at_200) rfl ((if0 _ _).trans (flt (fun q_ => hc200 ((lw_lt _ _).mp q_))).2.1) (by decide) (by decide) ?_
              show Steps p.tables e below (T11.setTop (mkF m 216 #[.val (.int i0), .val (.int i1), .val (.int i2), .val (.int i3), .val (.int (f0_3_s0 i0 i1 i2 i3)), .val (.int (f0_22_s0 i0 i1 i2 i3)), .val (.long (F_f1 (f0_3_s0 i0 i1 i2 i3) (0 : Int32) i2)), .second, .val (.int (f0_92_s0 i0 i1 i2 i3)), .val (.long (F_f1 (f0_3_s0 i0 i1 i2 i3) (f0_22_s0 i0 i1 i2 i3) i2)), .second, .val (.long (f0_v131 i0 i1 i2 i3)), .second, .val (.int (F_f2 (f0_v131 i0 i1 i2 i3) i2)), .val (.long (f0_v147 i0 i1 i2 i3)), .second] [])) _
              refine XS.iconst X11.here hx rfl (hb hby at_216) ?_
              show Steps p.tables e below (T11.setTop (mkF m 217 #[.val (.int i0), .val (.int i1), .val (.int i2), .val (.int i3), .val (.int (f0_3_s0 i0 i1 i2 i3)), .val (.int (f0_22_s0 i0 i1 i2 i3)), .val (.long (F_f1 (f0_3_s0 i0 i1 i2 i3) (0 : Int32) i2)), .second, .val (.int (f0_92_s0 i0 i1 i2 i3)), .val (.long (F_f1 (f0_3_s0 i0 i1 i2 i3) (f0_22_s0 i0 i1 i2 i3) i2)), .second, .val (.long (f0_v131 i0 i1 i2 i3)), .second, .val (.int (F_f2 (f0_v131 i0 i1 i2 i3) i2)), .val (.long (f0_v147 i0 i1 i2 i3)), .second] [(.int (0 : Int32))])) _
              rw [show (f0_200_s0 i0 i1 i2 i3) = (0 : Int32) from (if_neg hc200)] at k
              exact k
          refine Outs.of (U' := T11.setTop (mkF m 239 #[.val (.int i0), .val (.int i1), .val (.int i2), .val (.int i3), .val (.int (f0_3_s0 i0 i1 i2 i3)), .val (.int (f0_22_s0 i0 i1 i2 i3)), .val (.long (F_f1 (f0_3_s0 i0 i1 i2 i3) (0 : Int32) i2)), .second, .val (.int (f0_92_s0 i0 i1 i2 i3)), .val (.long (F_f1 (f0_3_s0 i0 i1 i2 i3) (f0_22_s0 i0 i1 i2 i3) i2)), .second, .val (.long (f0_v131 i0 i1 i2 i3)), .second, .val (.int (F_f2 (f0_v131 i0 i1 i2 i3) i2)), .val (.int (f0_200_s0 i0 i1 i2 i3)), .unset] [(.int (f0_221_s0b i0 i1 i2 i3))])) (fun t k => ?_) ?_
          · refine XS.istore X11.here hx rfl (hb hby at_217) rfl (l' := #[.val (.int i0), .val (.int i1), .val (.int i2), .val (.int i3), .val (.int (f0_3_s0 i0 i1 i2 i3)), .val (.int (f0_22_s0 i0 i1 i2 i3)), .val (.long (F_f1 (f0_3_s0 i0 i1 i2 i3) (0 : Int32) i2)), .second, .val (.int (f0_92_s0 i0 i1 i2 i3)), .val (.long (F_f1 (f0_3_s0 i0 i1 i2 i3) (f0_22_s0 i0 i1 i2 i3) i2)), .second, .val (.long (f0_v131 i0 i1 i2 i3)), .second, .val (.int (F_f2 (f0_v131 i0 i1 i2 i3) i2)), .val (.int (f0_200_s0 i0 i1 i2 i3)), .unset]) rfl ?_
            show Steps p.tables e below (T11.setTop (mkF m 219 #[.val (.int i0), .val (.int i1), .val (.int i2), .val (.int i3), .val (.int (f0_3_s0 i0 i1 i2 i3)), .val (.int (f0_22_s0 i0 i1 i2 i3)), .val (.long (F_f1 (f0_3_s0 i0 i1 i2 i3) (0 : Int32) i2)), .second, .val (.int (f0_92_s0 i0 i1 i2 i3)), .val (.long (F_f1 (f0_3_s0 i0 i1 i2 i3) (f0_22_s0 i0 i1 i2 i3) i2)), .second, .val (.long (f0_v131 i0 i1 i2 i3)), .second, .val (.int (F_f2 (f0_v131 i0 i1 i2 i3) i2)), .val (.int (f0_200_s0 i0 i1 i2 i3)), .unset] [])) _
            refine XS.iload X11.here hx rfl (hb hby at_219) rfl ?_
            show Steps p.tables e below (T11.setTop (mkF m 221 #[.val (.int i0), .val (.int i1), .val (.int i2), .val (.int i3), .val (.int (f0_3_s0 i0 i1 i2 i3)), .val (.int (f0_22_s0 i0 i1 i2 i3)), .val (.long (F_f1 (f0_3_s0 i0 i1 i2 i3) (0 : Int32) i2)), .second, .val (.int (f0_92_s0 i0 i1 i2 i3)), .val (.long (F_f1 (f0_3_s0 i0 i1 i2 i3) (f0_22_s0 i0 i1 i2 i3) i2)), .second, .val (.long (f0_v131 i0 i1 i2 i3)), .second, .val (.int (F_f2 (f0_v131 i0 i1 i2 i3) i2)), .val (.int (f0_200_s0 i0 i1 i2 i3)), .unset] [(.int (f0_92_s0 i0 i1 i2 i3))])) _
            by_cases hc221 : (f0_92_s0 i0 i1 i2 i3) = (0 : Int32)
            · refine XS.ifYes X11.here hx rfl (pc0 := 221) (pc' := 238) rfl (hb hby at_221) rfl ((if0 _ _).trans (teq hc221).1) (by decide) (by decide) ?_
              show Steps p.tables e below (T11.setTop (mkF m 238 #[.val (.int i0), .val (.int i1), .val (.int i2), .val (.int i3), .val (.int (f0_3_s0 i0 i1 i2 i3)), .val (.int (f0_22_s0 i0 i1 i2 i3)), .val (.long (F_f1 (f0_3_s0 i0 i1 i2 i3) (0 : Int32) i2)), .second, .val (.int (f0_92_s0 i0 i1 i2 i3)), .val (.long (F_f1 (f0_3_s0 i0 i1 i2 i3) (f0_22_s0 i0 i1 i2 i3) i2)), .second, .val (.long (f0_v131 i0 i1 i2 i3)), .second, .val (.int (F_f2 (f0_v131 i0 i1 i2 i3) i2)), .val (.int (f0_200_s0 i0 i1 i2 i3)), .unset] [])) _
              refine XS.iconst X11.here hx rfl (hb hby at_238) ?_
              show Steps p.tables e below (T11.setTop (mkF m 239 #[.val (.int i0), .val (.int i1), .val (.int i2), .val (.int i3), .val (.int (f0_3_s0 i0 i1 i2 i3)), .val (.int (f0_22_s0 i0 i1 i2 i3)), .val (.long (F_f1 (f0_3_s0 i0 i1 i2 i3) (0 : Int32) i2)), .second, .val (.int (f0_92_s0 i0 i1 i2 i3)), .val (.long (F_f1 (f0_3_s0 i0 i1 i2 i3) (f0_22_s0 i0 i1 i2 i3) i2)), .second, .val (.long (f0_v131 i0 i1 i2 i3)), .second, .val (.int (F_f2 (f0_v131 i0 i1 i2 i3) i2)), .val (.int (f0_200_s0 i0 i1 i2 i3)), .unset] [(.int (0 : Int32))])) _
              rw [show (f0_221_s0b i0 i1 i2 i3) = (0 : Int32) from (if_pos hc221)] at k
              exact k
            · refine XS.ifNo X11.here hx rfl (hb hby at_221) rfl ((if0 _ _).trans (feq hc221).1) ?_
              show Steps p.tables e below (T11.setTop (mkF m 224 #[.val (.int i0), .val (.int i1), .val (.int i2), .val (.int i3), .val (.int (f0_3_s0 i0 i1 i2 i3)), .val (.int (f0_22_s0 i0 i1 i2 i3)), .val (.long (F_f1 (f0_3_s0 i0 i1 i2 i3) (0 : Int32) i2)), .second, .val (.int (f0_92_s0 i0 i1 i2 i3)), .val (.long (F_f1 (f0_3_s0 i0 i1 i2 i3) (f0_22_s0 i0 i1 i2 i3) i2)), .second, .val (.long (f0_v131 i0 i1 i2 i3)), .second, .val (.int (F_f2 (f0_v131 i0 i1 i2 i3) i2)), .val (.int (f0_200_s0 i0 i1 i2 i3)), .unset] [])) _
              refine XS.iload X11.here hx rfl (hb hby at_224) rfl ?_
              show Steps p.tables e below (T11.setTop (mkF m 226 #[.val (.int i0), .val (.int i1), .val (.int i2), .val (.int i3), .val (.int (f0_3_s0 i0 i1 i2 i3)), .val (.int (f0_22_s0 i0 i1 i2 i3)), .val (.long (F_f1 (f0_3_s0 i0 i1 i2 i3) (0 : Int32) i2)), .second, .val (.int (f0_92_s0 i0 i1 i2 i3)), .val (.long (F_f1 (f0_3_s0 i0 i1 i2 i3) (f0_22_s0 i0 i1 i2 i3) i2)), .second, .val (.long (f0_v131 i0 i1 i2 i3)), .second, .val (.int (F_f2 (f0_v131 i0 i1 i2 i3) i2)), .val (.int (f0_200_s0 i0 i1 i2 i3)), .unset] [(.int (F_f2 (f0_v131 i0 i1 i2 i3) i2))])) _
              by_cases hc226 : (F_f2 (f0_v131 i0 i1 i2 i3) i2) = (0 : Int32)
              · refine XS.ifYes X11.here hx rfl (pc0 := 226) (pc' := 238) rfl (hb hby at_226) rfl ((if0 _ _).trans (teq hc226).1) (by decide) (by decide) ?_
                show Steps p.tables e below (T11.setTop (mkF m 238 #[.val (.int i0), .val (.int i1), .val (.int i2), .val (.int i3), .val (.int (f0_3_s0 i0 i1 i2 i3)), .val (.int (f0_22_s0 i0 i1 i2 i3)), .val (.long (F_f1 (f0_3_s0 i0 i1 i2 i3) (0 : Int32) i2)), .second, .val (.int (f0_92_s0 i0 i1 i2 i3)), .val (.long (F_f1 (f0_3_s0 i0 i1 i2 i3) (f0_22_s0 i0 i1 i2 i3) i2)), .second, .val (.long (f0_v131 i0 i1 i2 i3)), .second, .val (.int (F_f2 (f0_v131 i0 i1 i2 i3) i2)), .val (.int (f0_200_s0 i0 i1 i2 i3)), .unset] [])) _
                refine XS.iconst X11.here hx rfl (hb hby at_238) ?_
                show Steps p.tables e below (T11.setTop (mkF m 239 #[.val (.int i0), .val (.int i1), .val (.int i2), .val (.int i3), .val (.int (f0_3_s0 i0 i1 i2 i3)), .val (.int (f0_22_s0 i0 i1 i2 i3)), .val (.long (F_f1 (f0_3_s0 i0 i1 i2 i3) (0 : Int32) i2)), .second, .val (.int (f0_92_s0 i0 i1 i2 i3)), .val (.long (F_f1 (f0_3_s0 i0 i1 i2 i3) (f0_22_s0 i0 i1 i2 i3) i2)), .second, .val (.long (f0_v131 i0 i1 i2 i3)), .second, .val (.int (F_f2 (f0_v131 i0 i1 i2 i3) i2)), .val (.int (f0_200_s0 i0 i1 i2 i3)), .unset] [(.int (0 : Int32))])) _
                rw [show (f0_221_s0b i0 i1 i2 i3) = (0 : Int32) from ((if_neg hc221).trans (if_pos hc226))] at k
                exact k
              · refine XS.ifNo X11.here hx rfl (hb hby at_226) rfl ((if0 _ _).trans (feq hc226).1) ?_
                show Steps p.tables e below (T11.setTop (mkF m 229 #[.val (.int i0), .val (.int i1), .val (.int i2), .val (.int i3), .val (.int (f0_3_s0 i0 i1 i2 i3)), .val (.int (f0_22_s0 i0 i1 i2 i3)), .val (.long (F_f1 (f0_3_s0 i0 i1 i2 i3) (0 : Int32) i2)), .second, .val (.int (f0_92_s0 i0 i1 i2 i3)), .val (.long (F_f1 (f0_3_s0 i0 i1 i2 i3) (f0_22_s0 i0 i1 i2 i3) i2)), .second, .val (.long (f0_v131 i0 i1 i2 i3)), .second, .val (.int (F_f2 (f0_v131 i0 i1 i2 i3) i2)), .val (.int (f0_200_s0 i0 i1 i2 i3)), .unset] [])) _
                refine XS.iload X11.here hx rfl (hb hby at_229) rfl ?_
                show Steps p.tables e below (T11.setTop (mkF m 231 #[.val (.int i0), .val (.int i1), .val (.int i2), .val (.int i3), .val (.int (f0_3_s0 i0 i1 i2 i3)), .val (.int (f0_22_s0 i0 i1 i2 i3)), .val (.long (F_f1 (f0_3_s0 i0 i1 i2 i3) (0 : Int32) i2)), .second, .val (.int (f0_92_s0 i0 i1 i2 i3)), .val (.long (F_f1 (f0_3_s0 i0 i1 i2 i3) (f0_22_s0 i0 i1 i2 i3) i2)), .second, .val (.long (f0_v131 i0 i1 i2 i3)), .second, .val (.int (F_f2 (f0_v131 i0 i1 i2 i3) i2)), .val (.int (f0_200_s0 i0 i1 i2 i3)), .unset] [(.int (f0_200_s0 i0 i1 i2 i3))])) _
                by_cases hc231 : (f0_200_s0 i0 i1 i2 i3) = (0 : Int32)
                · refine XS.ifYes X11.here hx rfl (pc0 := 231) (pc' := 238) rfl (hb hby at_231) rfl ((if0 _ _).trans (teq hc231).1) (by decide) (by decide) ?_
                  show Steps p.tables e below (T11.setTop (mkF m 238 #[.val (.int i0), .val (.int i1), .val (.int i2), .val (.int i3), .val (.int (f0_3_s0 i0 i1 i2 i3)), .val (.int (f0_22_s0 i0 i1 i2 i3)), .val (.long (F_f1 (f0_3_s0 i0 i1 i2 i3) (0 : Int32) i2)), .second, .val (.int (f0_92_s0 i0 i1 i2 i3)), .val (.long (F_f1 (f0_3_s0 i0 i1 i2 i3) (f0_22_s0 i0 i1 i2 i3) i2)), .second, .val (.long (f0_v131 i0 i1 i2 i3)), .second, .val (.int (F_f2 (f0_v131 i0 i1 i2 i3) i2)), .val (.int (f0_200_s0 i0 i1 i2 i3)), .unset] [])) _
                  refine XS.iconst X11.here hx rfl (hb hby at_238) ?_
                  show Steps p.tables e below (T11.setTop (mkF m 239 #[.val (.int i0), .val (.int i1), .val (.int i2), .val (.int i3), .val (.int (f0_3_s0 i0 i1 i2 i3)), .val (.int (f0_22_s0 i0 i1 i2 i3)), .val (.long (F_f1 (f0_3_s0 i0 i1 i2 i3) (0 : Int32) i2)), .second, .val (.int (f0_92_s0 i0 i1 i2 i3)), .val (.long (F_f1 (f0_3_s0 i0 i1 i2 i3) (f0_22_s0 i0 i1 i2 i3) i2)), .second, .val (.long (f0_v131 i0 i1 i2 i3)), .second, .val (.int (F_f2 (f0_v131 i0 i1 i2 i3) i2)), .val (.int (f0_200_s0 i0 i1 i2 i3)), .unset] [(.int (0 : Int32))])) _
                  rw [show (f0_221_s0b i0 i1 i2 i3) = (0 : Int32) from ((if_neg hc221).trans ((if_neg hc226).trans (if_pos hc231)))] at k
                  exact k
                · refine XS.ifNo X11.here hx rfl (hb hby at_231) rfl ((if0 _ _).trans (feq hc231).1) ?_
                  show Steps p.tables e below (T11.setTop (mkF m 234 #[.val (.int i0), .val (.int i1), .val (.int i2), .val (.int i3), .val (.int (f0_3_s0 i0 i1 i2 i3)), .val (.int (f0_22_s0 i0 i1 i2 i3)), .val (.long (F_f1 (f0_3_s0 i0 i1 i2 i3) (0 : Int32) i2)), .second, .val (.int (f0_92_s0 i0 i1 i2 i3)), .val (.long (F_f1 (f0_3_s0 i0 i1 i2 i3) (f0_22_s0 i0 i1 i2 i3) i2)), .second, .val (.long (f0_v131 i0 i1 i2 i3)), .second, .val (.int (F_f2 (f0_v131 i0 i1 i2 i3) i2)), .val (.int (f0_200_s0 i0 i1 i2 i3)), .unset] [])) _
                  refine XS.iconst X11.here hx rfl (hb hby at_234) ?_
                  show Steps p.tables e below (T11.setTop (mkF m 235 #[.val (.int i0), .val (.int i1), .val (.int i2), .val (.int i3), .val (.int (f0_3_s0 i0 i1 i2 i3)), .val (.int (f0_22_s0 i0 i1 i2 i3)), .val (.long (F_f1 (f0_3_s0 i0 i1 i2 i3) (0 : Int32) i2)), .second, .val (.int (f0_92_s0 i0 i1 i2 i3)), .val (.long (F_f1 (f0_3_s0 i0 i1 i2 i3) (f0_22_s0 i0 i1 i2 i3) i2)), .second, .val (.long (f0_v131 i0 i1 i2 i3)), .second, .val (.int (F_f2 (f0_v131 i0 i1 i2 i3) i2)), .val (.int (f0_200_s0 i0 i1 i2 i3)), .unset] [(.int (1 : Int32))])) _
                  refine XS.goto X11.here hx rfl (pc0 := 235) (pc' := 239) rfl (hb hby at_235) (by decide) (by decide) ?_
                  show Steps p.tables e below (T11.setTop (mkF m 239 #[.val (.int i0), .val (.int i1), .val (.int i2), .val (.int i3), .val (.int (f0_3_s0 i0 i1 i2 i3)), .val (.int (f0_22_s0 i0 i1 i2 i3)), .val (.long (F_f1 (f0_3_s0 i0 i1 i2 i3) (0 : Int32) i2)), .second, .val (.int (f0_92_s0 i0 i1 i2 i3)), .val (.long (F_f1 (f0_3_s0 i0 i1 i2 i3) (f0_22_s0 i0 i1 i2 i3) i2)), .second, .val (.long (f0_v131 i0 i1 i2 i3)), .second, .val (.int (F_f2 (f0_v131 i0 i1 i2 i3) i2)), .val (.int (f0_200_s0 i0 i1 i2 i3)), .unset] [(.int (1 : Int32))])) _
                  rw [show (f0_221_s0b i0 i1 i2 i3) = (1 : Int32) from ((if_neg hc221).trans ((if_neg hc226).trans (if_neg hc231)))] at k
                  exact k
          exact Outs.retN (t := .boolean) (z := (f0_221_s0b i0 i1 i2 i3)) X11 hx hret (by simp) (hb hby at_239) hlk (by decide) (by decide) e11 ⟨congrArg (fun z_ => some (Value.int z_)) (law_221_s0b_4 i0 i1 i2 i3 hc40 hc85 hc138 hc154), N11⟩
        · refine Outs.of (U' := T9.setTop (mkF m 157 #[.val (.int i0), .val (.int i1), .val (.int i2), .val (.int i3), .val (.int (f0_3_s0 i0 i1 i2 i3)), .val (.int (f0_22_s0 i0 i1 i2 i3)), .val (.long (F_f1 (f0_3_s0 i0 i1 i2 i3) (0 : Int32) i2)), .second, .val (.int (f0_92_s0 i0 i1 i2 i3)), .val (.long (F_f1 (f0_3_s0 i0 i1 i2 i3) (f0_22_s0 i0 i1 i2 i3) i2)), .second, .val (.long (f0_v131 i0 i1 i2 i3)), .second, .unset, .val (.long (f0_v147 i0 i1 i2 i3)), .second] [])) (fun t k => ?_) ?_
          · refine XS.ifNo X9.here hx rfl (hb hby at_154) rfl ((if0 _ _).trans (flt (fun q_ => hc154 ((lw_gt _ _).mp q_))).2.2.1) ?_
            show Steps p.tables e below (T9.setTop (mkF m 157 #[.val (.int i0), .val (.int i1), .val (.int i2), .val (.int i3), .val (.int (f0_3_s0 i0 i1 i2 i3)), .val (.int (f0_22_s0 i0 i1 i2 i3)), .val (.long (F_f1 (f0_3_s0 i0 i1 i2 i3) (0 : Int32) i2)), .second, .val (.int (f0_92_s0 i0 i1 i2 i3)), .val (.long (F_f1 (f0_3_s0 i0 i1 i2 i3) (f0_22_s0 i0 i1 i2 i3) i2)), .second, .val (.long (f0_v131 i0 i1 i2 i3)), .second, .unset, .val (.long (f0_v147 i0 i1 i2 i3)), .second] [])) _
            exact k
          refine Outs.of (U' := T9.setTop (mkF m 170 #[.val (.int i0), .val (.int i1), .val (.int i2), .val (.int i3), .val (.int (f0_3_s0 i0 i1 i2 i3)), .val (.int (f0_22_s0 i0 i1 i2 i3)), .val (.long (F_f1 (f0_3_s0 i0 i1 i2 i3) (0 : Int32) i2)), .second, .val (.int (f0_92_s0 i0 i1 i2 i3)), .val (.long (F_f1 (f0_3_s0 i0 i1 i2 i3) (f0_22_s0 i0 i1 i2 i3) i2)), .second, .val (.long (f0_v131 i0 i1 i2 i3)), .second, .unset, .val (.long (f0_v147 i0 i1 i2 i3)), .second] [(.int (f0_162_s0 i0 i1 i2 i3))])) (fun t k => ?_) ?_
          · refine XS.lload X9.here hx rfl (hb hby at_157) rfl ?_
            show Steps p.tables e below (T9.setTop (mkF m 159 #[.val (.int i0), .val (.int i1), .val (.int i2), .val (.int i3), .val (.int (f0_3_s0 i0 i1 i2 i3)), .val (.int (f0_22_s0 i0 i1 i2 i3)), .val (.long (F_f1 (f0_3_s0 i0 i1 i2 i3) (0 : Int32) i2)), .second, .val (.int (f0_92_s0 i0 i1 i2 i3)), .val (.long (F_f1 (f0_3_s0 i0 i1 i2 i3) (f0_22_s0 i0 i1 i2 i3) i2)), .second, .val (.long (f0_v131 i0 i1 i2 i3)), .second, .unset, .val (.long (f0_v147 i0 i1 i2 i3)), .second] [(.long (f0_v131 i0 i1 i2 i3))])) _
            refine XS.lload X9.here hx rfl (hb hby at_159) rfl ?_
            show Steps p.tables e below (T9.setTop (mkF m 161 #[.val (.int i0), .val (.int i1), .val (.int i2), .val (.int i3), .val (.int (f0_3_s0 i0 i1 i2 i3)), .val (.int (f0_22_s0 i0 i1 i2 i3)), .val (.long (F_f1 (f0_3_s0 i0 i1 i2 i3) (0 : Int32) i2)), .second, .val (.int (f0_92_s0 i0 i1 i2 i3)), .val (.long (F_f1 (f0_3_s0 i0 i1 i2 i3) (f0_22_s0 i0 i1 i2 i3) i2)), .second, .val (.long (f0_v131 i0 i1 i2 i3)), .second, .unset, .val (.long (f0_v147 i0 i1 i2 i3)), .second] [(.long (f0_v147 i0 i1 i2 i3)), (.long (f0_v131 i0 i1 i2 i3))])) _
            refine XS.lcmp X9.here hx rfl (hb hby at_161) rfl ?_
            show Steps p.tables e below (T9.setTop (mkF m 162 #[.val (.int i0), .val (.int i1), .val (.int i2), .val (.int i3), .val (.int (f0_3_s0 i0 i1 i2 i3)), .val (.int (f0_22_s0 i0 i1 i2 i3)), .val (.long (F_f1 (f0_3_s0 i0 i1 i2 i3) (0 : Int32) i2)), .second, .val (.int (f0_92_s0 i0 i1 i2 i3)), .val (.long (F_f1 (f0_3_s0 i0 i1 i2 i3) (f0_22_s0 i0 i1 i2 i3) i2)), .second, .val (.long (f0_v131 i0 i1 i2 i3)), .second, .unset, .val (.long (f0_v147 i0 i1 i2 i3)), .second] [(.int (lcmpW (f0_v131 i0 i1 i2 i3) (f0_v147 i0 i1 i2 i3)))])) _
            by_cases hc162 : (f0_v131 i0 i1 i2 i3) = (f0_v147 i0 i1 i2 i3)
            · refine XS.ifNo X9.here hx rfl (hb hby at_162) rfl ((if0 _ _).trans (teq ((lw_eq _ _).mpr hc162)).2) ?_
              show Steps p.tables e below (T9.setTop (mkF m 165 #[.val (.int i0), .val (.int i1), .val (.int i2), .val (.int i3), .val (.int (f0_3_s0 i0 i1 i2 i3)), .val (.int (f0_22_s0 i0 i1 i2 i3)), .val (.long (F_f1 (f0_3_s0 i0 i1 i2 i3) (0 : Int32) i2)), .second, .val (.int (f0_92_s0 i0 i1 i2 i3)), .val (.long (F_f1 (f0_3_s0 i0 i1 i2 i3) (f0_22_s0 i0 i1 i2 i3) i2)), .second, .val (.long (f0_v131 i0 i1 i2 i3)), .second, .unset, .val (.long (f0_v147 i0 i1 i2 i3)), .second] [])) _
              refine XS.iconst X9.here hx rfl (hb hby at_165) ?_
              show Steps p.tables e below (T9.setTop (mkF m 166 #[.val (.int i0), .val (.int i1), .val (.int i2), .val (.int i3), .val (.int (f0_3_s0 i0 i1 i2 i3)), .val (.int (f0_22_s0 i0 i1 i2 i3)), .val (.long (F_f1 (f0_3_s0 i0 i1 i2 i3) (0 : Int32) i2)), .second, .val (.int (f0_92_s0 i0 i1 i2 i3)), .val (.long (F_f1 (f0_3_s0 i0 i1 i2 i3) (f0_22_s0 i0 i1 i2 i3) i2)), .second, .val (.long (f0_v131 i0 i1 i2 i3)), .second, .unset, .val (.long (f0_v147 i0 i1 i2 i3)), .second] [(.int (1 : Int32))])) _
              refine XS.goto X9.here hx rfl (pc0 := 166) (pc' := 170) rfl (hb hby at_166) (by decide) (by decide) ?_
              show Steps p.tables e below (T9.setTop (mkF m 170 #[.val (.int i0), .val (.int i1), .val (.int i2), .val (.int i3), .val (.int (f0_3_s0 i0 i1 i2 i3)), .val (.int (f0_22_s0 i0 i1 i2 i3)), .val (.long (F_f1 (f0_3_s0 i0 i1 i2 i3) (0 : Int32) i2)), .second, .val (.int (f0_92_s0 i0 i1 i2 i3)), .val (.long (F_f1 (f0_3_s0 i0 i1 i2 i3) (f0_22_s0 i0 i1 i2 i3) i2)), .second, .val (.long (f0_v131 i0 i1 i2 i3)), .second, .unset, .val (.long (f0_v147 i0 i1 i2 i3)), .second] [(.int (1 : Int32))])) _
              rw [show (f0_162_s0 i0 i1 i2 i3) = (1 : Int32) from (if_pos hc162)] at k
              exact k
            · refine XS.ifYes X9.here hx rfl (pc0 := 162) (pc' := 169) rfl (hb hby at_162) rfl ((if0 _ _).trans (feq (fun q_ => hc162 ((lw_eq _ _).mp q_))).2) (by decide) (by decide) ?_
              show Steps p.tables e below (T9.setTop (mkF m 169 #[.val (.int i0), .val (.int i1), .val (.int i2), .val (.int i3), .val (.int (f0_3_s0 i0 i1 i2 i3)), .val (.int (f0_22_s0 i0 i1 i2 i3)), .val (.long (F_f1 (f0_3_s0 i0 i1 i2 i3) (0 : Int32) i2)), .second, .val (.int (f0_92_s0 i0 i1 i2 i3)), .val (.long (F_f1 (f0_3_s0 i0 i1 i2 i3) (f0_22_s0 i0 i1 i2 i3) i2)), .second, .val (.long (f0_v131 i0 i1 i2 i3)), .second, .unset, .val (.long (f0_v147 i0 i1 i2 i3)), .second] [])) _
              refine XS.iconst X9.here hx rfl (hb hby at_169) ?_
              show Steps p.tables e below (T9.setTop (mkF m 170 #[.val (.int i0), .val (.int i1), .val (.int i2), .val (.int i3), .val (.int (f0_3_s0 i0 i1 i2 i3)), .val (.int (f0_22_s0 i0 i1 i2 i3)), .val (.long (F_f1 (f0_3_s0 i0 i1 i2 i3) (0 : Int32) i2)), .second, .val (.int (f0_92_s0 i0 i1 i2 i3)), .val (.long (F_f1 (f0_3_s0 i0 i1 i2 i3) (f0_22_s0 i0 i1 i2 i3) i2)), .second, .val (.long (f0_v131 i0 i1 i2 i3)), .second, .unset, .val (.long (f0_v147 i0 i1 i2 i3)), .second] [(.int (0 : Int32))])) _
              rw [show (f0_162_s0 i0 i1 i2 i3) = (0 : Int32) from (if_neg hc162)] at k
              exact k
          refine Outs.of (U' := T9.setTop (mkF m 217 #[.val (.int i0), .val (.int i1), .val (.int i2), .val (.int i3), .val (.int (f0_3_s0 i0 i1 i2 i3)), .val (.int (f0_22_s0 i0 i1 i2 i3)), .val (.long (F_f1 (f0_3_s0 i0 i1 i2 i3) (0 : Int32) i2)), .second, .val (.int (f0_92_s0 i0 i1 i2 i3)), .val (.long (F_f1 (f0_3_s0 i0 i1 i2 i3) (f0_22_s0 i0 i1 i2 i3) i2)), .second, .val (.long (f0_v131 i0 i1 i2 i3)), .second, .val (.int (f0_162_s0 i0 i1 i2 i3)), .val (.long (f0_v147 i0 i1 i2 i3)), .second] [(.int (f0_200_s0 i0 i1 i2 i3))])) (fun t k => ?_) ?_
          · refine XS.istore X9.here hx rfl (hb hby at_170) rfl (l' := #[.val (.int i0), .val (.int i1), .val (.int i2), .val (.int i3), .val (.int (f0_3_s0 i0 i1 i2 i3)), .val (.int (f0_22_s0 i0 i1 i2 i3)), .val (.long (F_f1 (f0_3_s0 i0 i1 i2 i3) (0 : Int32) i2)), .second, .val (.int (f0_92_s0 i0 i1 i2 i3)), .val (.long (F_f1 (f0_3_s0 i0 i1 i2 i3) (f0_22_s0 i0 i1 i2 i3) i2)), .second, .val (.long (f0_v131 i0 i1 i2 i3)), .second, .val (.int (f0_162_s0 i0 i1 i2 i3)), .val (.long (f0_v147 i0 i1 i2 i3)), .second]) rfl ?_
            show Steps p.tables e below (T9.setTop (mkF m 172 #[.val (.int i0), .val (.int i1), .val (.int i2), .val (.int i3), .val (.int (f0_3_s0 i0 i1 i2 i3)), .val (.int (f0_22_s0 i0 i1 i2 i3)), .val (.long (F_f1 (f0_3_s0 i0 i1 i2 i3) (0 : Int32) i2)), .second, .val (.int (f0_92_s0 i0 i1 i2 i3)), .val (.long (F_f1 (f0_3_s0 i0 i1 i2 i3) (f0_22_s0 i0 i1 i2 i3) i2)), .second, .val (.long (f0_v131 i0 i1 i2 i3)), .second, .val (.int (f0_162_s0 i0 i1 i2 i3)), .val (.long (f0_v147 i0 i1 i2 i3)), .second] [])) _
            refine XS.goto X9.here hx rfl (pc0 := 172) (pc' := 183) rfl (hb hby at_172) (by decide) (by decide) ?_
            show Steps p.tables e below (T9.setTop (mkF m 183 #[.val (.int i0), .val (.int i1), .val (.int i2), .val (.int i3), .val (.int (f0_3_s0 i0 i1 i2 i3)), .val (.int (f0_22_s0 i0 i1 i2 i3)), .val (.long (F_f1 (f0_3_s0 i0 i1 i2 i3) (0 : Int32) i2)), .second, .val (.int (f0_92_s0 i0 i1 i2 i3)), .val (.long (F_f1 (f0_3_s0 i0 i1 i2 i3) (f0_22_s0 i0 i1 i2 i3) i2)), .second, .val (.long (f0_v131 i0 i1 i2 i3)), .second, .val (.int (f0_162_s0 i0 i1 i2 i3)), .val (.long (f0_v147 i0 i1 i2 i3)), .second] [])) _
            refine XS.goto X9.here hx rfl (pc0 := 183) (pc' := 194) rfl (hb hby at_183) (by decide) (by decide) ?_
            show Steps p.tables e below (T9.setTop (mkF m 194 #[.val (.int i0), .val (.int i1), .val (.int i2), .val (.int i3), .val (.int (f0_3_s0 i0 i1 i2 i3)), .val (.int (f0_22_s0 i0 i1 i2 i3)), .val (.long (F_f1 (f0_3_s0 i0 i1 i2 i3) (0 : Int32) i2)), .second, .val (.int (f0_92_s0 i0 i1 i2 i3)), .val (.long (F_f1 (f0_3_s0 i0 i1 i2 i3) (f0_22_s0 i0 i1 i2 i3) i2)), .second, .val (.long (f0_v131 i0 i1 i2 i3)), .second, .val (.int (f0_162_s0 i0 i1 i2 i3)), .val (.long (f0_v147 i0 i1 i2 i3)), .second] [])) _
            refine XS.lload X9.here hx rfl (hb hby at_194) rfl ?_
            show Steps p.tables e below (T9.setTop (mkF m 196 #[.val (.int i0), .val (.int i1), .val (.int i2), .val (.int i3), .val (.int (f0_3_s0 i0 i1 i2 i3)), .val (.int (f0_22_s0 i0 i1 i2 i3)), .val (.long (F_f1 (f0_3_s0 i0 i1 i2 i3) (0 : Int32) i2)), .second, .val (.int (f0_92_s0 i0 i1 i2 i3)), .val (.long (F_f1 (f0_3_s0 i0 i1 i2 i3) (f0_22_s0 i0 i1 i2 i3) i2)), .second, .val (.long (f0_v131 i0 i1 i2 i3)), .second, .val (.int (f0_162_s0 i0 i1 i2 i3)), .val (.long (f0_v147 i0 i1 i2 i3)), .second] [(.long (F_f1 (f0_3_s0 i0 i1 i2 i3) (f0_22_s0 i0 i1 i2 i3) i2))])) _
            refine X9.ldc2Long hx hown (mvT hZ (hw _ (List.mem_of_getElem? (i := 10) rfl))) (g := (mkF m 196 #[.val (.int i0), .val (.int i1), .val (.int i2), .val (.int i3), .val (.int (f0_3_s0 i0 i1 i2 i3)), .val (.int (f0_22_s0 i0 i1 i2 i3)), .val (.long (F_f1 (f0_3_s0 i0 i1 i2 i3) (0 : Int32) i2)), .second, .val (.int (f0_92_s0 i0 i1 i2 i3)), .val (.long (F_f1 (f0_3_s0 i0 i1 i2 i3) (f0_22_s0 i0 i1 i2 i3) i2)), .second, .val (.long (f0_v131 i0 i1 i2 i3)), .second, .val (.int (f0_162_s0 i0 i1 i2 i3)), .val (.long (f0_v147 i0 i1 i2 i3)), .second] [(.long (F_f1 (f0_3_s0 i0 i1 i2 i3) (f0_22_s0 i0 i1 i2 i3) i2))])) rfl (hb hby at_196) _ ?_
            show Steps p.tables e below (T9.setTop (mkF m 199 #[.val (.int i0), .val (.int i1), .val (.int i2), .val (.int i3), .val (.int (f0_3_s0 i0 i1 i2 i3)), .val (.int (f0_22_s0 i0 i1 i2 i3)), .val (.long (F_f1 (f0_3_s0 i0 i1 i2 i3) (0 : Int32) i2)), .second, .val (.int (f0_92_s0 i0 i1 i2 i3)), .val (.long (F_f1 (f0_3_s0 i0 i1 i2 i3) (f0_22_s0 i0 i1 i2 i3) i2)), .second, .val (.long (f0_v131 i0 i1 i2 i3)), .second, .val (.int (f0_162_s0 i0 i1 i2 i3)), .val (.long (f0_v147 i0 i1 i2 i3)), .second] [(.long (4611686018427387904 : Int64)), (.long (F_f1 (f0_3_s0 i0 i1 i2 i3) (f0_22_s0 i0 i1 i2 i3) i2))])) _
            refine XS.lcmp X9.here hx rfl (hb hby at_199) rfl ?_
            show Steps p.tables e below (T9.setTop (mkF m 200 #[.val (.int i0), .val (.int i1), .val (.int i2), .val (.int i3), .val (.int (f0_3_s0 i0 i1 i2 i3)), .val (.int (f0_22_s0 i0 i1 i2 i3)), .val (.long (F_f1 (f0_3_s0 i0 i1 i2 i3) (0 : Int32) i2)), .second, .val (.int (f0_92_s0 i0 i1 i2 i3)), .val (.long (F_f1 (f0_3_s0 i0 i1 i2 i3) (f0_22_s0 i0 i1 i2 i3) i2)), .second, .val (.long (f0_v131 i0 i1 i2 i3)), .second, .val (.int (f0_162_s0 i0 i1 i2 i3)), .val (.long (f0_v147 i0 i1 i2 i3)), .second] [(.int (lcmpW (F_f1 (f0_3_s0 i0 i1 i2 i3) (f0_22_s0 i0 i1 i2 i3) i2) (4611686018427387904 : Int64)))])) _
            by_cases hc200 : (F_f1 (f0_3_s0 i0 i1 i2 i3) (f0_22_s0 i0 i1 i2 i3) i2) < (4611686018427387904 : Int64)
            · refine XS.ifNo X9.here hx rfl (hb hby at_200) rfl ((if0 _ _).trans (tlt ((lw_lt _ _).mpr hc200)).2.1) ?_
              show Steps p.tables e below (T9.setTop (mkF m 203 #[.val (.int i0), .val (.int i1), .val (.int i2), .val (.int i3), .val (.int (f0_3_s0 i0 i1 i2 i3)), .val (.int (f0_22_s0 i0 i1 i2 i3)), .val (.long (F_f1 (f0_3_s0 i0 i1 i2 i3) (0 : Int32) i2)), .second, .val (.int (f0_92_s0 i0 i1 i2 i3)), .val (.long (F_f1 (f0_3_s0 i0 i1 i2 i3) (f0_22_s0 i0 i1 i2 i3) i2)), .second, .val (.long (f0_v131 i0 i1 i2 i3)), .second, .val (.int (f0_162_s0 i0 i1 i2 i3)), .val (.long (f0_v147 i0 i1 i2 i3)), .second] [])) _
              refine XS.lload X9.here hx rfl (hb hby at_203) rfl ?_
              show Steps p.tables e below (T9.setTop (mkF m 205 #[.val (.int i0), .val (.int i1), .val (.int i2), .val (.int i3), .val (.int (f0_3_s0 i0 i1 i2 i3)), .val (.int (f0_22_s0 i0 i1 i2 i3)), .val (.long (F_f1 (f0_3_s0 i0 i1 i2 i3) (0 : Int32) i2)), .second, .val (.int (f0_92_s0 i0 i1 i2 i3)), .val (.long (F_f1 (f0_3_s0 i0 i1 i2 i3) (f0_22_s0 i0 i1 i2 i3) i2)), .second, .val (.long (f0_v131 i0 i1 i2 i3)), .second, .val (.int (f0_162_s0 i0 i1 i2 i3)), .val (.long (f0_v147 i0 i1 i2 i3)), .second] [(.long (f0_v131 i0 i1 i2 i3))])) _
              refine X9.ldc2Long hx hown (mvT hZ (hw _ (List.mem_of_getElem? (i := 10) rfl))) (g := (mkF m 205 #[.val (.int i0), .val (.int i1), .val (.int i2), .val (.int i3), .val (.int (f0_3_s0 i0 i1 i2 i3)), .val (.int (f0_22_s0 i0 i1 i2 i3)), .val (.long (F_f1 (f0_3_s0 i0 i1 i2 i3) (0 : Int32) i2)), .second, .val (.int (f0_92_s0 i0 i1 i2 i3)), .val (.long (F_f1 (f0_3_s0 i0 i1 i2 i3) (f0_22_s0 i0 i1 i2 i3) i2)), .second, .val (.long (f0_v131 i0 i1 i2 i3)), .second, .val (.int (f0_162_s0 i0 i1 i2 i3)), .val (.long (f0_v147 i0 i1 i2 i3)), .second] [(.long (f0_v131 i0 i1 i2 i3))])) rfl (hb hby at_205) _ ?_
              show Steps p.tables e below (T9.setTop (mkF m 208 #[.val (.int i0), .val (.int i1), .val (.int i2), .val (.int i3), .val (.int (f0_3_s0 i0 i1 i2 i3)), .val (.int (f0_22_s0 i0 i1 i2 i3)), .val (.long (F_f1 (f0_3_s0 i0 i1 i2 i3) (0 : Int32) i2)), .second, .val (.int (f0_92_s0 i0 i1 i2 i3)), .val (.long (F_f1 (f0_3_s0 i0 i1 i2 i3) (f0_22_s0 i0 i1 i2 i3) i2)), .second, .val (.long (f0_v131 i0 i1 i2 i3)), .second, .val (.int (f0_162_s0 i0 i1 i2 i3)), .val (.long (f0_v147 i0 i1 i2 i3)), .second] [(.long (4611686018427387904 : Int64)), (.long (f0_v131 i0 i1 i2 i3))])) _
              refine XS.lcmp X9.here hx rfl (hb hby at_208) rfl ?_
              show Steps p.tables e below (T9.setTop (mkF m 209 #[.val (.int i0), .val (.int i1), .val (.int i2), .val (.int i3), .val (.int (f0_3_s0 i0 i1 i2 i3)), .val (.int (f0_22_s0 i0 i1 i2 i3)), .val (.long (F_f1 (f0_3_s0 i0 i1 i2 i3) (0 : Int32) i2)), .second, .val (.int (f0_92_s0 i0 i1 i2 i3)), .val (.long (F_f1 (f0_3_s0 i0 i1 i2 i3) (f0_22_s0 i0 i1 i2 i3) i2)), .second, .val (.long (f0_v131 i0 i1 i2 i3)), .second, .val (.int (f0_162_s0 i0 i1 i2 i3)), .val (.long (f0_v147 i0 i1 i2 i3)), .second] [(.int (lcmpW (f0_v131 i0 i1 i2 i3) (4611686018427387904 : Int64)))])) _
              by_cases hc209 : (f0_v131 i0 i1 i2 i3) < (4611686018427387904 : Int64)
              · refine XS.ifNo X9.here hx rfl (hb hby at_209) rfl ((if0 _ _).trans (tlt ((lw_lt _ _).mpr hc209)).2.1) ?_
                show Steps p.tables e below (T9.setTop (mkF m 212 #[.val (.int i0), .val (.int i1), .val (.int i2), .val (.int i3), .val (.int (f0_3_s0 i0 i1 i2 i3)), .val (.int (f0_22_s0 i0 i1 i2 i3)), .val (.long (F_f1 (f0_3_s0 i0 i1 i2 i3) (0 : Int32) i2)), .second, .val (.int (f0_92_s0 i0 i1 i2 i3)), .val (.long (F_f1 (f0_3_s0 i0 i1 i2 i3) (f0_22_s0 i0 i1 i2 i3) i2)), .second, .val (.long (f0_v131 i0 i1 i2 i3)), .second, .val (.int (f0_162_s0 i0 i1 i2 i3)), .val (.long (f0_v147 i0 i1 i2 i3)), .second] [])) _
                refine XS.iconst X9.here hx rfl (hb hby at_212) ?_
                show Steps p.tables e below (T9.setTop (mkF m 213 #[.val (.int i0), .val (.int i1), .val (.int i2), .val (.int i3), .val (.int (f0_3_s0 i0 i1 i2 i3)), .val (.int (f0_22_s0 i0 i1 i2 i3)), .val (.long (F_f1 (f0_3_s0 i0 i1 i2 i3) (0 : Int32) i2)), .second, .val (.int (f0_92_s0 i0 i1 i2 i3)), .val (.long (F_f1 (f0_3_s0 i0 i1 i2 i3) (f0_22_s0 i0 i1 i2 i3) i2)), .second, .val (.long (f0_v131 i0 i1 i2 i3)), .second, .val (.int (f0_162_s0 i0 i1 i2 i3)), .val (.long (f0_v147 i0 i1 i2 i3)), .second] [(.int (1 : Int32))])) _
                refine XS.goto X9.here hx rfl (pc0 := 213) (pc' := 217) rfl (hb hby at_213) (by decide) (by decide) ?_
                show Steps p.tables e below (T9.setTop (mkF m 217 #[.val (.int i0), .val (.int i1), .val (.int i2), .val (.int i3), .val (.int (f0_3_s0 i0 i1 i2 i3)), .val (.int (f0_22_s0 i0 i1 i2 i3)), .val (.long (F_f1 (f0_3_s0 i0 i1 i2 i3) (0 : Int32) i2)), .second, .val (.int (f0_92_s0 i0 i1 i2 i3)), .val (.long (F_f1 (f0_3_s0 i0 i1 i2 i3) (f0_22_s0 i0 i1 i2 i3) i2)), .second, .val (.long (f0_v131 i0 i1 i2 i3)), .second, .val (.int (f0_162_s0 i0 i1 i2 i3)), .val (.long (f0_v147 i0 i1 i2 i3)), .second] [(.int (1 : Int32))])) _
                rw [show (f0_200_s0 i0 i1 i2 i3) = (1 : Int32) from ((if_pos hc200).trans (if_pos hc209))] at k
                exact k
              · refine XS.ifYes X9.here hx rfl (pc0 := 209) (pc' := 216) rfl (hb hby at_209) rfl ((if0 _ _).trans (flt (fun q_ => hc209 ((lw_lt _ _).mp q_))).2.1) (by decide) (by decide) ?_
                show Steps p.tables e below (T9.setTop (mkF m 216 #[.val (.int i0), .val (.int i1), .val (.int i2), .val (.int i3), .val (.int (f0_3_s0 i0 i1 i2 i3)), .val (.int (f0_22_s0 i0 i1 i2 i3)), .val (.long (F_f1 (f0_3_s0 i0 i1 i2 i3) (0 : Int32) i2)), .second, .val (.int (f0_92_s0 i0 i1 i2 i3)), .val (.long (F_f1 (f0_3_s0 i0 i1 i2 i3) (f0_22_s0 i0 i1 i2 i3) i2)), .second, .val (.long (f0_v131 i0 i1 i2 i3)), .second, .val (.int (f0_162_s0 i0 i1 i2 i3)), .val (.long (f0_v147 i0 i1 i2 i3)), .second] [])) _
                refine XS.iconst X9.here hx rfl (hb hby at_216) ?_
                show Steps p.tables e below (T9.setTop (mkF m 217 #[.val (.int i0), .val (.int i1), .val (.int i2), .val (.int i3), .val (.int (f0_3_s0 i0 i1 i2 i3)), .val (.int (f0_22_s0 i0 i1 i2 i3)), .val (.long (F_f1 (f0_3_s0 i0 i1 i2 i3) (0 : Int32) i2)), .second, .val (.int (f0_92_s0 i0 i1 i2 i3)), .val (.long (F_f1 (f0_3_s0 i0 i1 i2 i3) (f0_22_s0 i0 i1 i2 i3) i2)), .second, .val (.long (f0_v131 i0 i1 i2 i3)), .second, .val (.int (f0_162_s0 i0 i1 i2 i3)), .val (.long (f0_v147 i0 i1 i2 i3)), .second] [(.int (0 : Int32))])) _
                rw [show (f0_200_s0 i0 i1 i2 i3) = (0 : Int32) from ((if_pos hc200).trans (if_neg hc209))] at k
                exact k
            · refine XS.ifYes X9.here hx rfl (pc0 := 200) (pc' := 216) rfl (hb hby at_200) rfl ((if0 _ _).trans (flt (fun q_ => hc200 ((lw_lt _ _).mp q_))).2.1) (by decide) (by decide) ?_
              show Steps p.tables e below (T9.setTop (mkF m 216 #[.val (.int i0), .val (.int i1), .val (.int i2), .val (.int i3), .val (.int (f0_3_s0 i0 i1 i2 i3)), .val (.int (f0_22_s0 i0 i1 i2 i3)), .val (.long (F_f1 (f0_3_s0 i0 i1 i2 i3) (0 : Int32) i2)), .second, .val (.int (f0_92_s0 i0 i1 i2 i3)), .val (.long (F_f1 (f0_3_s0 i0 i1 i2 i3) (f0_22_s0 i0 i1 i2 i3) i2)), .second, .val (.long (f0_v131 i0 i1 i2 i3)), .second, .val (.int (f0_162_s0 i0 i1 i2 i3)), .val (.long (f0_v147 i0 i1 i2 i3)), .second] [])) _
              refine XS.iconst X9.here hx rfl (hb hby at_216) ?_
              show Steps p.tables e below (T9.setTop (mkF m 217 #[.val (.int i0), .val (.int i1), .val (.int i2), .val (.int i3), .val (.int (f0_3_s0 i0 i1 i2 i3)), .val (.int (f0_22_s0 i0 i1 i2 i3)), .val (.long (F_f1 (f0_3_s0 i0 i1 i2 i3) (0 : Int32) i2)), .second, .val (.int (f0_92_s0 i0 i1 i2 i3)), .val (.long (F_f1 (f0_3_s0 i0 i1 i2 i3) (f0_22_s0 i0 i1 i2 i3) i2)), .second, .val (.long (f0_v131 i0 i1 i2 i3)), .second, .val (.int (f0_162_s0 i0 i1 i2 i3)), .val (.long (f0_v147 i0 i1 i2 i3)), .second] [(.int (0 : Int32))])) _
              rw [show (f0_200_s0 i0 i1 i2 i3) = (0 : Int32) from (if_neg hc200)] at k
              exact k
          refine Outs.of (U' := T9.setTop (mkF m 239 #[.val (.int i0), .val (.int i1), .val (.int i2), .val (.int i3), .val (.int (f0_3_s0 i0 i1 i2 i3)), .val (.int (f0_22_s0 i0 i1 i2 i3)), .val (.long (F_f1 (f0_3_s0 i0 i1 i2 i3) (0 : Int32) i2)), .second, .val (.int (f0_92_s0 i0 i1 i2 i3)), .val (.long (F_f1 (f0_3_s0 i0 i1 i2 i3) (f0_22_s0 i0 i1 i2 i3) i2)), .second, .val (.long (f0_v131 i0 i1 i2 i3)), .second, .val (.int (f0_162_s0 i0 i1 i2 i3)), .val (.int (f0_200_s0 i0 i1 i2 i3)), .unset] [(.int (f0_221_s0c i0 i1 i2 i3))])) (fun t k => ?_) ?_
          · refine XS.istore X9.here hx rfl (hb hby at_217) rfl (l' := #[.val (.int i0), .val (.int i1), .val (.int i2), .val (.int i3), .val (.int (f0_3_s0 i0 i1 i2 i3)), .val (.int (f0_22_s0 i0 i1 i2 i3)), .val (.long (F_f1 (f0_3_s0 i0 i1 i2 i3) (0 : Int32) i2)), .second, .val (.int (f0_92_s0 i0 i1 i2 i3)), .val (.long (F_f1 (f0_3_s0 i0 i1 i2 i3) (f0_22_s0 i0 i1 i2 i3) i2)), .second, .val (.long (f0_v131 i0 i1 i2 i3)), .second, .val (.int (f0_162_s0 i0 i1 i2 i3)), .val (.int (f0_200_s0 i0 i1 i2 i3)), .unset]) rfl ?_
            show Steps p.tables e below (T9.setTop (mkF m 219 #[.val (.int i0), .val (.int i1), .val (.int i2), .val (.int i3), .val (.int (f0_3_s0 i0 i1 i2 i3)), .val (.int (f0_22_s0 i0 i1 i2 i3)), .val (.long (F_f1 (f0_3_s0 i0 i1 i2 i3) (0 : Int32) i2)), .second, .val (.int (f0_92_s0 i0 i1 i2 i3)), .val (.long (F_f1 (f0_3_s0 i0 i1 i2 i3) (f0_22_s0 i0 i1 i2 i3) i2)), .second, .val (.long (f0_v131 i0 i1 i2 i3)), .second, .val (.int (f0_162_s0 i0 i1 i2 i3)), .val (.int (f0_200_s0 i0 i1 i2 i3)), .unset] [])) _
            refine XS.iload X9.here hx rfl (hb hby at_219) rfl ?_
            show Steps p.tables e below (T9.setTop (mkF m 221 #[.val (.int i0), .val (.int i1), .val (.int i2), .val (.int i3), .val (.int (f0_3_s0 i0 i1 i2 i3)), .val (.int (f0_22_s0 i0 i1 i2 i3)), .val (.long (F_f1 (f0_3_s0 i0 i1 i2 i3) (0 : Int32) i2)), .second, .val (.int (f0_92_s0 i0 i1 i2 i3)), .val (.long (F_f1 (f0_3_s0 i0 i1 i2 i3) (f0_22_s0 i0 i1 i2 i3) i2)), .second, .val (.long (f0_v131 i0 i1 i2 i3)), .second, .val (.int (f0_162_s0 i0 i1 i2 i3)), .val (.int (f0_200_s0 i0 i1 i2 i3)), .unset] [(.int (f0_92_s0 i0 i1 i2 i3))])) _
            by_cases hc221 : (f0_92_s0 i0 i1 i2 i3) = (0 : Int32)
            · refine XS.ifYes X9.here hx rfl (pc0 := 221) (pc' := 238) rfl (hb hby at_221) rfl ((if0 _ _).trans (teq hc221).1) (by decide) (by decide) ?_
              show Steps p.tables e below (T9.setTop (mkF m 238 #[.val (.int i0), .val (.int i1), .val (.int i2), .val (.int i3), .val (.int (f0_3_s0 i0 i1 i2 i3)), .val (.int (f0_22_s0 i0 i1 i2 i3)), .val (.long (F_f1 (f0_3_s0 i0 i1 i2 i3) (0 : Int32) i2)), .second, .val (.int (f0_92_s0 i0 i1 i2 i3)), .val (.long (F_f1 (f0_3_s0 i0 i1 i2 i3) (f0_22_s0 i0 i1 i2 i3) i2)), .second, .val (.long (f0_v131 i0 i1 i2 i3)), .second, .val (.int (f0_162_s0 i0 i1 i2 i3)), .val (.int (f0_200_s0 i0 i1 i2 i3)), .unset] [])) _
              refine XS.iconst X9.here hx rfl (hb hby at_238) ?_
              show Steps p.tables e below (T9.setTop (mkF m 239 #[.val (.int i0), .val (.int i1), .val (.int i2), .val (.int i3), .val (.int (f0_3_s0 i0 i1 i2 i3)), .val (.int (f0_22_s0 i0 i1 i2 i3)), .val (.long (F_f1 (f0_3_s0 i0 i1 i2 i3) (0 : Int32) i2)), .second, .val (.int (f0_92_s0 i0 i1 i2 i3)), .val (.long (F_f1 (f0_3_s0 i0 i1 i2 i3) (f0_22_s0 i0 i1 i2 i3) i2)), .second, .val (.long (f0_v131 i0 i1 i2 i3)), .second, .val (.int (f0_162_s0 i0 i1 i2 i3)), .val (.int (f0_200_s0 i0 i1 i2 i3)), .unset] [(.int (0 : Int32))])) _
              rw [show (f0_221_s0c i0 i1 i2 i3) = (0 : Int32) from (if_pos hc221)] at k
              exact k
            · refine XS.ifNo X9.here hx rfl (hb hby at_221) rfl ((if0 _ _).trans (feq hc221).1) ?_
              show Steps p.tables e below (T9.setTop (mkF m 224 #[.val (.int i0), .val (.int i1), .val (.int i2), .val (.int i3), .val (.int (f0_3_s0 i0 i1 i2 i3)), .val (.int (f0_22_s0 i0 i1 i2 i3)), .val (.long (F_f1 (f0_3_s0 i0 i1 i2 i3) (0 : Int32) i2)), .second, .val (.int (f0_92_s0 i0 i1 i2 i3)), .val (.long (F_f1 (f0_3_s0 i0 i1 i2 i3) (f0_22_s0 i0 i1 i2 i3) i2)), .second, .val (.long (f0_v131 i0 i1 i2 i3)), .second, .val (.int (f0_162_s0 i0 i1 i2 i3)), .val (.int (f0_200_s0 i0 i1 i2 i3)), .unset] [])) _
              refine XS.iload X9.here hx rfl (hb hby at_224) rfl ?_
              show Steps p.tables e below (T9.setTop (mkF m 226 #[.val (.int i0), .val (.int i1), .val (.int i2), .val (.int i3), .val (.int (f0_3_s0 i0 i1 i2 i3)), .val (.int (f0_22_s0 i0 i1 i2 i3)), .val (.long (F_f1 (f0_3_s0 i0 i1 i2 i3) (0 : Int32) i2)), .second, .val (.int (f0_92_s0 i0 i1 i2 i3)), .val (.long (F_f1 (f0_3_s0 i0 i1 i2 i3) (f0_22_s0 i0 i1 i2 i3) i2)), .second, .val (.long (f0_v131 i0 i1 i2 i3)), .second, .val (.int (f0_162_s0 i0 i1 i2 i3)), .val (.int (f0_200_s0 i0 i1 i2 i3)), .unset] [(.int (f0_162_s0 i0 i1 i2 i3))])) _
              by_cases hc226 : (f0_162_s0 i0 i1 i2 i3) = (0 : Int32)
              · refine XS.ifYes X9.here hx rfl (pc0 := 226) (pc' := 238) rfl (hb hby at_226) rfl ((if0 _ _).trans (teq hc226).1) (by decide) (by decide) ?_
                show Steps p.tables e below (T9.setTop (mkF m 238 #[.val (.int i0), .val (.int i1), .val (.int i2), .val (.int i3), .val (.int (f0_3_s0 i0 i1 i2 i3)), .val (.int (f0_22_s0 i0 i1 i2 i3)), .val (.long (F_f1 (f0_3_s0 i0 i1 i2 i3) (0 : Int32) i2)), .second, .val (.int (f0_92_s0 i0 i1 i2 i3)), .val (.long (F_f1 (f0_3_s0 i0 i1 i2 i3) (f0_22_s0 i0 i1 i2 i3) i2)), .second, .val (.long (f0_v131 i0 i1 i2 i3)), .second, .val (.int (f0_162_s0 i0 i1 i2 i3)), .val (.int (f0_200_s0 i0 i1 i2 i3)), .unset] [])) _
                refine XS.iconst X9.here hx rfl (hb hby at_238) ?_
                show Steps p.tables e below (T9.setTop (mkF m 239 #[.val (.int i0), .val (.int i1), .val (.int i2), .val (.int i3), .val (.int (f0_3_s0 i0 i1 i2 i3)), .val (.int (f0_22_s0 i0 i1 i2 i3)), .val (.long (F_f1 (f0_3_s0 i0 i1 i2 i3) (0 : Int32) i2)), .second, .val (.int (f0_92_s0 i0 i1 i2 i3)), .val (.long (F_f1 (f0_3_s0 i0 i1 i2 i3) (f0_22_s0 i0 i1 i2 i3) i2)), .second, .val (.long (f0_v131 i0 i1 i2 i3)), .second, .val (.int (f0_162_s0 i0 i1 i2 i3)), .val (.int (f0_200_s0 i0 i1 i2 i3)), .unset] [(.int (0 : Int32))])) _
                rw [show (f0_221_s0c i0 i1 i2 i3) = (0 : Int32) from ((if_neg hc221).trans (if_pos hc226))] at k
                exact k
              · refine XS.ifNo X9.here hx rfl (hb hby at_226) rfl ((if0 _ _).trans (feq hc226).1) ?_
                show Steps p.tables e below (T9.setTop (mkF m 229 #[.val (.int i0), .val (.int i1), .val (.int i2), .val (.int i3), .val (.int (f0_3_s0 i0 i1 i2 i3)), .val (.int (f0_22_s0 i0 i1 i2 i3)), .val (.long (F_f1 (f0_3_s0 i0 i1 i2 i3) (0 : Int32) i2)), .second, .val (.int (f0_92_s0 i0 i1 i2 i3)), .val (.long (F_f1 (f0_3_s0 i0 i1 i2 i3) (f0_22_s0 i0 i1 i2 i3) i2)), .second, .val (.long (f0_v131 i0 i1 i2 i3)), .second, .val (.int (f0_162_s0 i0 i1 i2 i3)), .val (.int (f0_200_s0 i0 i1 i2 i3)), .unset] [])) _
                refine XS.iload X9.here hx rfl (hb hby at_229) rfl ?_
                show Steps p.tables e below (T9.setTop (mkF m 231 #[.val (.int i0), .val (.int i1), .val (.int i2), .val (.int i3), .val (.int (f0_3_s0 i0 i1 i2 i3)), .val (.int (f0_22_s0 i0 i1 i2 i3)), .val (.long (F_f1 (f0_3_s0 i0 i1 i2 i3) (0 : Int32) i2)), .second, .val (.int (f0_92_s0 i0 i1 i2 i3)), .val (.long (F_f1 (f0_3_s0 i0 i1 i2 i3) (f0_22_s0 i0 i1 i2 i3) i2)), .second, .val (.long (f0_v131 i0 i1 i2 i3)), .second, .val (.int (f0_162_s0 i0 i1 i2 i3)), .val (.int (f0_200_s0 i0 i1 i2 i3)), .unset] [(.int (f0_200_s0 i0 i1 i2 i3))])) _
                by_cases hc231 : (f0_200_s0 i0 i1 i2 i3) = (0 : Int32)
                · refine XS.ifYes X9.here hx rfl (pc0 := 231) (pc' := 238) rfl (hb hby at_231) rfl ((if0 _ _).trans (teq hc231).1) (by decide) (by decide) ?_
                  show Steps p.tables e below (T9.setTop (mkF m 238 #[.val (.int i0), .val (.int i1), .val (.int i2), .val (.int i3), .val (.int (f0_3_s0 i0 i1 i2 i3)), .val (.int (f0_22_s0 i0 i1 i2 i3)), .val (.long (F_f1 (f0_3_s0 i0 i1 i2 i3) (0 : Int32) i2)), .second, .val (.int (f0_92_s0 i0 i1 i2 i3)), .val (.long (F_f1 (f0_3_s0 i0 i1 i2 i3) (f0_22_s0 i0 i1 i2 i3) i2)), .second, .val (.long (f0_v131 i0 i1 i2 i3)), .second, .val (.int (f0_162_s0 i0 i1 i2 i3)), .val (.int (f0_200_s0 i0 i1 i2 i3)), .unset] [])) _
                  refine XS.iconst X9.here hx rfl (hb hby at_238) ?_
                  show Steps p.tables e below (T9.setTop (mkF m 239 #[.val (.int i0), .val (.int i1), .val (.int i2), .val (.int i3), .val (.int (f0_3_s0 i0 i1 i2 i3)), .val (.int (f0_22_s0 i0 i1 i2 i3)), .val (.long (F_f1 (f0_3_s0 i0 i1 i2 i3) (0 : Int32) i2)), .second, .val (.int (f0_92_s0 i0 i1 i2 i3)), .val (.long (F_f1 (f0_3_s0 i0 i1 i2 i3) (f0_22_s0 i0 i1 i2 i3) i2)), .second, .val (.long (f0_v131 i0 i1 i2 i3)), .second, .val (.int (f0_162_s0 i0 i1 i2 i3)), .val (.int (f0_200_s0 i0 i1 i2 i3)), .unset] [(.int (0 : Int32))])) _
                  rw [show (f0_221_s0c i0 i1 i2 i3) = (0 : Int32) from ((if_neg hc221).trans ((if_neg hc226).trans (if_pos hc231)))] at k
                  exact k
                · refine XS.ifNo X9.here hx rfl (hb hby at_231) rfl ((if0 _ _).trans (feq hc231).1) ?_
                  show Steps p.tables e below (T9.setTop (mkF m 234 #[.val (.int i0), .val (.int i1), .val (.int i2), .val (.int i3), .val (.int (f0_3_s0 i0 i1 i2 i3)), .val (.int (f0_22_s0 i0 i1 i2 i3)), .val (.long (F_f1 (f0_3_s0 i0 i1 i2 i3) (0 : Int32) i2)), .second, .val (.int (f0_92_s0 i0 i1 i2 i3)), .val (.long (F_f1 (f0_3_s0 i0 i1 i2 i3) (f0_22_s0 i0 i1 i2 i3) i2)), .second, .val (.long (f0_v131 i0 i1 i2 i3)), .second, .val (.int (f0_162_s0 i0 i1 i2 i3)), .val (.int (f0_200_s0 i0 i1 i2 i3)), .unset] [])) _
                  refine XS.iconst X9.here hx rfl (hb hby at_234) ?_
                  show Steps p.tables e below (T9.setTop (mkF m 235 #[.val (.int i0), .val (.int i1), .val (.int i2), .val (.int i3), .val (.int (f0_3_s0 i0 i1 i2 i3)), .val (.int (f0_22_s0 i0 i1 i2 i3)), .val (.long (F_f1 (f0_3_s0 i0 i1 i2 i3) (0 : Int32) i2)), .second, .val (.int (f0_92_s0 i0 i1 i2 i3)), .val (.long (F_f1 (f0_3_s0 i0 i1 i2 i3) (f0_22_s0 i0 i1 i2 i3) i2)), .second, .val (.long (f0_v131 i0 i1 i2 i3)), .second, .val (.int (f0_162_s0 i0 i1 i2 i3)), .val (.int (f0_200_s0 i0 i1 i2 i3)), .unset] [(.int (1 : Int32))])) _
                  refine XS.goto X9.here hx rfl (pc0 := 235) (pc' := 239) rfl (hb hby at_235) (by decide) (by decide) ?_
                  show Steps p.tables e below (T9.setTop (mkF m 239 #[.val (.int i0), .val (.int i1), .val (.int i2), .val (.int i3), .val (.int (f0_3_s0 i0 i1 i2 i3)), .val (.int (f0_22_s0 i0 i1 i2 i3)), .val (.long (F_f1 (f0_3_s0 i0 i1 i2 i3) (0 : Int32) i2)), .second, .val (.int (f0_92_s0 i0 i1 i2 i3)), .val (.long (F_f1 (f0_3_s0 i0 i1 i2 i3) (f0_22_s0 i0 i1 i2 i3) i2)), .second, .val (.long (f0_v131 i0 i1 i2 i3)), .second, .val (.int (f0_162_s0 i0 i1 i2 i3)), .val (.int (f0_200_s0 i0 i1 i2 i3)), .unset] [(.int (1 : Int32))])) _
                  rw [show (f0_221_s0c i0 i1 i2 i3) = (1 : Int32) from ((if_neg hc221).trans ((if_neg hc226).trans (if_neg hc231)))] at k
                  exact k
          exact Outs.retN (t := .boolean) (z := (f0_221_s0c i0 i1 i2 i3)) X9 hx hret (by simp) (hb hby at_239) hlk (by decide) (by decide) e9 ⟨congrArg (fun z_ => some (Value.int z_)) (law_221_s0c_4 i0 i1 i2 i3 hc40 hc85 hc138 hc154), N9⟩
set_option maxRecDepth 65536 in
set_option maxHeartbeats 40000000 in
theorem comes_1 {Post : Tables → Env → Array Value → State → Outcome → State → Prop} (hpost : ∀ tb e args s v u, (limb_1_1.after args s (.returned v) u = true ∧ limb_1_2.after args s (.returned v) u = true ∧ True) → FrameEnd s (.returned v) u (Jvm.fieldLocs frame_1_writes args s ++ Jvm.arrayLocs frame_1_arrays args s ++ Jvm.staticLocs frame_1_statics s) 0 0 → Post tb e args s (.returned v) u) :
    ArmFor flags0 classFile x code maxLocals ret World_1 tables_1 room_1 Calls_1 rest_1 Pre_1 Post := by
  intro l hfl _ _ p e ha hc hk s m args below hf hA hF happ hP
  obtain ⟨hcalls, hrest, hpre⟩ := hP
  obtain ⟨-, -, -, hnamed, -, -, -, hat⟩ := (Spec.applies_iff hf).mp happ
  obtain ⟨hg, hn⟩ := and_e (Cond.before_iff.mp (show (Jvm.Cond.and given_1 narrow_1).before args s = true from hpre))
  obtain ⟨g1, g2⟩ := and_e hg
  obtain ⟨g3, g4⟩ := and_e g2
  obtain ⟨g5, g6⟩ := and_e g4
  obtain ⟨g7, g8⟩ := and_e g6
  obtain ⟨w0, w1, w2, w3, rfl⟩ : ∃ w0 w1 w2 w3 : Value, args = #[w0, w1, w2, w3] := by
    have hs : args.size = 4 := by simpa [Cond.value, given_1] using g1
    obtain ⟨L⟩ := args
    match L, hs with
    | [w0, w1, w2, w3], _ => exact ⟨w0, w1, w2, w3, rfl⟩
  have hw := fun d (hd : d ∈ tables_1) => atoms_spec (ws := Jvm.Cond.code x code maxLocals ret :: tables_1) hat d (List.mem_cons_of_mem _ hd)
  obtain ⟨i0, ei0⟩ := is_v g3
  obtain rfl : w0 = (.int i0) := Option.some.inj ei0
  obtain ⟨i1, ei1⟩ := is_v g5
  obtain rfl : w1 = (.int i1) := Option.some.inj ei1
  obtain ⟨i2, ei2⟩ := is_v g7
  obtain rfl : w2 = (.int i2) := Option.some.inj ei2
  obtain ⟨i3, ei3⟩ := is_v g8
  obtain rfl : w3 = (.int i3) := Option.some.inj ei3
  obtain ⟨n, o, h1, h2, h3, v, L, rfl, hQ0, hq⟩ := rm0 l s _ hw tables_1 i0 i1 i2 i3 s.heap s.heap.size  p e ha hc hk s m _ below hf ((Spec.applies_iff_loose hf).mp happ).1 ⟨rfl, State.Warmed39.refl s, rfl⟩ trivial
  obtain ⟨rfl, N⟩ : v = some (.int 1) ∧ Fr s.heap.size L := hQ0
  refine ⟨n, _, h1, h2, h3, hpost _ _ _ _ _ _ ⟨Cond.after_iff.mpr rfl, Cond.after_iff.mpr (eq_i res_at (Term.int_eval (1)) rfl), trivial⟩ ⟨hq.1, hq.2.1, (hq.2.2.sift fun y hy => Or.inr (N y hy)).mono (by decide) (by decide)⟩⟩
theorem main_1_1 : Claimed_1_1 := comes_1 fun _ _ _ _ _ _ h hF => ⟨h.1, hF⟩
theorem main_1_2 : Claimed_1_2 := comes_1 fun _ _ _ _ _ _ h hF => ⟨h.2.1, hF⟩
end Jvm.Pilot.@@N@@
namespace Jvm.Pilot.@@N@@
open Jvm Jvm.ClassFile Sem Op Lib Jvm.Free Jvm.Stand Jvm.Pilot.@@N@@.Jvm.D
/-! MADE BY PROGRAM (witnessworld.py) out of the Statement's table words and the real class files: 9 classes; the members and pool entries that the words name. The judged class is class 1, her method 2. -/
namespace start1
open Jvm.ClassFile
def u (s : String) : CpInfo := .utf8 (stringToUtf16 s)
/-- a pool by its gaps: so many unusable entries, then the entry; so many at the end -/
def gap : Nat → List CpInfo → List CpInfo
  | 0, r => r
  | n + 1, r => .unusable :: gap n r
def poolList (es : List (Nat × CpInfo)) (last : Nat) : List CpInfo := es.foldr (fun e r => gap e.1 (e.2 :: r)) (gap last [])
def pool (es : List (Nat × CpInfo)) (last : Nat) : Array CpInfo := ⟨poolList es last⟩
def fileOf (pool : Array CpInfo) (this : Nat) (attrs : Array Attribute := #[]) (ms : Array MethodInfo := #[]) (fl : Nat := 33) (sup : Nat := 0) (ifs : Array Nat := #[]) (fds : Array FieldInfo := #[]) : ClassFile where
  minorVersion := 0
  majorVersion := 65
  constantPool := pool
  accessFlags := fl
  thisClass := this
  superClass := sup
  interfaces := ifs
  fields := fds
  methods := ms
  attributes := attrs
def plain (name : String) (sup : Option ClassId) : Class where
  name := name
  kind := .ordinary
  loader := none
  accessFlags := 33
  super := sup
  interfaces := #[]
  cf := none
  fields := #[]
  methods := #[]
  instanceTypes := #[]
  staticTypes := #[]
  resolved := #[]
  callSites := []
  init := .initialized
  statics := none
  mirror := none

def pool0 : Array CpInfo := pool [(5, u "<init>"), (0, u "()V"), (1, .class_ 10), (1, u "java/lang/Object")] 113

def k0m0 : Method := { name := "<init>", desc := "()V", sig := { parameters := [], returnType := none }, accessFlags := 1, code := none }
/-- java/lang/Object -/
def k0 : Class := { plain "java/lang/Object" none with
  accessFlags := 33
  interfaces := #[]
  cf := some (fileOf pool0 8 #[] #[{ accessFlags := 1, nameIndex := 5, descriptorIndex := 6, attributes := #[] }] 33 0 #[] #[])
  fields := #[]
  methods := #[k0m0]
  instanceTypes := #[]
  staticTypes := #[]
  resolved := Array.replicate 124 none
  statics := none }

def pool1 : Array CpInfo := pool [(2, .class_ 4), (1, u "java/lang/Object"), (0, u "<init>"), (0, u "()V"), (0, .class_ 8), (0, u "com/example/ratatoskr/ratatoskr/ChoicesCountPinLaw"), (0, .long 4611686018427387904), (1, .integer 2147483647), (0, .integer 1073741823), (0, .methodref 14 15), (0, .class_ 16), (0, .nameAndType 17 18), (0, u "com/example/ratatoskr/ratatoskr/Choices"), (0, u "count"), (0, u "(III)J"), (0, .methodref 7 20), (0, .nameAndType 21 22), (0, u "over"), (0, u "(JI)Z"), (0, u "LIM"), (0, u "J"), (4, u "law"), (0, u "(IIII)Z")] 2

def k1m0 : Method := { name := "<init>", desc := "()V", sig := { parameters := [], returnType := none }, accessFlags := 1, code := none }
def k1c1 : Code := { maxStack := 4, maxLocals := 3, code := method_2_code, exceptionTable := #[], attributes := #[] }
def k1m1 : Method := { name := "over", desc := "(JI)Z", sig := { parameters := [.long, .int], returnType := some .boolean }, accessFlags := 10, code := some k1c1 }
def k1c2 : Code := { maxStack := 4, maxLocals := 16, code := code, exceptionTable := #[], attributes := #[] }
def k1m2 : Method := { name := "law", desc := "(IIII)Z", sig := { parameters := [.int, .int, .int, .int], returnType := some .boolean }, accessFlags := 9, code := some k1c2 }
/-- com/example/ratatoskr/ratatoskr/ChoicesCountPinLaw -/
def k1 : Class := { plain "com/example/ratatoskr/ratatoskr/ChoicesCountPinLaw" (some 0) with
  accessFlags := 49
  interfaces := #[]
  cf := some (fileOf pool1 7 #[] #[{ accessFlags := 1, nameIndex := 5, descriptorIndex := 6, attributes := #[] }, { accessFlags := 10, nameIndex := 21, descriptorIndex := 22, attributes := #[] }, { accessFlags := 9, nameIndex := 29, descriptorIndex := 30, attributes := #[] }] 49 2 #[] #[{ accessFlags := 26, nameIndex := 23, descriptorIndex := 24, attributes := #[] }])
  fields := #[{ name := "LIM", type := .long, accessFlags := 26, slot := 0, constantValue := 0 }]
  methods := #[k1m0, k1m1, k1m2]
  instanceTypes := #[]
  staticTypes := #[.long]
  resolved := Array.replicate 33 none
  statics := none }

def pool2 : Array CpInfo := pool [(2, .class_ 4), (1, u "java/lang/Object"), (0, u "<init>"), (0, u "()V"), (0, .class_ 8), (0, u "com/example/ratatoskr/ratatoskr/Choices"), (2, u "count"), (0, u "(III)J")] 5

def k2m0 : Method := { name := "<init>", desc := "()V", sig := { parameters := [], returnType := none }, accessFlags := 2, code := none }
def k2c1 : Code := { maxStack := 4, maxLocals := 6, code := prog_5_method_2_code, exceptionTable := #[], attributes := #[] }
def k2m1 : Method := { name := "count", desc := "(III)J", sig := { parameters := [.int, .int, .int], returnType := some .long }, accessFlags := 8, code := some k2c1 }
/-- com/example/ratatoskr/ratatoskr/Choices -/
def k2 : Class := { plain "com/example/ratatoskr/ratatoskr/Choices" (some 0) with
  accessFlags := 49
  interfaces := #[]
  cf := some (fileOf pool2 7 #[] #[{ accessFlags := 2, nameIndex := 5, descriptorIndex := 6, attributes := #[] }, { accessFlags := 8, nameIndex := 11, descriptorIndex := 12, attributes := #[] }] 49 2 #[] #[])
  fields := #[]
  methods := #[k2m0, k2m1]
  instanceTypes := #[]
  staticTypes := #[]
  resolved := Array.replicate 18 none
  statics := none }

def pool3 : Array CpInfo := pool [(1, u "java/lang/Cloneable"), (0, .class_ 1), (0, u "java/lang/Object"), (0, .class_ 3)] 3

/-- java/lang/Cloneable -/
def k3 : Class := { plain "java/lang/Cloneable" (some 0) with
  accessFlags := 1537
  interfaces := #[]
  cf := some (fileOf pool3 2 #[] #[] 1537 4 #[] #[])
  fields := #[]
  methods := #[]
  instanceTypes := #[]
  staticTypes := #[]
  resolved := Array.replicate 8 none
  statics := none }

def pool4 : Array CpInfo := pool [(1, u "java/io/Serializable"), (0, .class_ 1), (0, u "java/lang/Object"), (0, .class_ 3)] 3

/-- java/io/Serializable -/
def k4 : Class := { plain "java/io/Serializable" (some 0) with
  accessFlags := 1537
  interfaces := #[]
  cf := some (fileOf pool4 2 #[] #[] 1537 4 #[] #[])
  fields := #[]
  methods := #[]
  instanceTypes := #[]
  staticTypes := #[]
  resolved := Array.replicate 8 none
  statics := none }

/-- the primitive byte -/
def k5 : Class := { plain "byte" none with kind := .primitive 'B', accessFlags := 0x411 }
/-- [B -/
def k6 : Class := { plain "[B" (some 0) with kind := .array 5 .byte, interfaces := #[3, 4], accessFlags := 1041 }

/-- the primitive int -/
def k7 : Class := { plain "int" none with kind := .primitive 'I', accessFlags := 0x411 }
/-- [I -/
def k8 : Class := { plain "[I" (some 0) with kind := .array 7 .int, interfaces := #[3, 4], accessFlags := 1041 }

def heap : Heap := #[]
def classes : Array Class := #[k0, k1, k2, k3, k4, k5, k6, k7, k8]
def interned : List (Array UInt16 × Addr) := []
def slotsUsed : Nat := 0
def theMethod : MethodId := ⟨1, 2⟩
def args0 : Array Value := #[.int 5, .int 7, .int 1000, .int 1]
def aboutOver (below : List Frame) : State where
  vm := { classes := classes, interned := interned.toArray }
  heap := heap
  slotsUsed := slotsUsed
  threads := #[{ frames := .invoking theMethod args0 :: below }]
def below0 : List Frame := [.native { method := ⟨0, 0⟩, args := #[] }]
def about1 : State := aboutOver below0
def p0 : Program := .bare "" "" ""
def e0 : Env := launch0.env 0 0 0
theorem w_frames : about1.frames = Frame.invoking theMethod args0 :: below0 := rfl
set_option maxRecDepth 65536 in
theorem w_args : argsFit about1.vm theMethod args0 = true := by decide +kernel
set_option maxRecDepth 65536 in
theorem w_heap : heapFits about1 = true := by decide +kernel
set_option maxRecDepth 65536 in
theorem w_runnable : about1.curStatus? = some .runnable := by decide +kernel
set_option maxRecDepth 65536 in
theorem w_alone : about1.alone = true := by decide +kernel
set_option maxRecDepth 65536 in
theorem w_named : about1.methodNamed? x = some theMethod := by decide +kernel
set_option maxRecDepth 65536 in
theorem w_hears : about1.hears theMethod below0 = true := by decide +kernel
set_option maxRecDepth 65536 in
theorem w_ripe : about1.ripe theMethod args0 below0 = true := by decide +kernel
theorem w_running : about1.status = .running := rfl
set_option maxRecDepth 65536 in
theorem w_room : about1.hasRoom e0.platform room_1 = true :=
  launch0.hasRoom_least _ room_1 (by decide +kernel) (by decide +kernel) (by decide +kernel) (by decide +kernel) (by decide +kernel) (by decide +kernel)
theorem allAtoms_all (ts : List Jvm.Cond) (a : Array Jvm.Value) (st : Jvm.State) : (allAtoms ts).before a st = ts.all (fun c => c.before a st) := by
  induction ts with
  | nil => rfl
  | cons c t ih =>
    show (Jvm.Cond.and c (allAtoms t)).before a st = _
    rw [Jvm.Cond.before_and, ih, List.all_cons]
def words1 : List Jvm.Cond := Jvm.Cond.code x code maxLocals ret :: tables_1
/-- a 'code' word, met by the world's own term for the bytes: nothing is compared byte by byte -/
theorem code_word {y : MethodName} {bytes : ByteArray} {mx : Nat} {rt : Option FieldType} {a : Array Value} {s : State} {m : MethodId} {meth : Method} {c : Code} (h1 : s.methodNamed? y = some m) (h2 : s.vm.method? m = some meth) (h3 : meth.code = some c) (h4 : c.code = bytes)
    (h5 : (c.maxLocals == mx && c.exceptionTable.isEmpty && decide (c.maxStack ≤ mostOperands) && decide (meth.sig.returnType = rt) && !meth.locks && decide (parseMethodDescriptor y.desc = some meth.sig)) = true) : (Jvm.Cond.code y bytes mx rt).before a s = true := by
  simp only [Bool.and_eq_true, beq_iff_eq, Bool.not_eq_true', decide_eq_true_eq] at h5
  obtain ⟨⟨⟨⟨⟨g1, g2⟩, g3⟩, g4⟩, g5⟩, g6⟩ := h5
  simp [Cond.before, Cond.holds, Cond.value, h1, h2, h3, h4, g1, g2, g3, g4, g5, g6]
def isCode : Jvm.Cond → Bool
  | .code _ _ _ _ => true
  | _ => false
theorem all_split {L : List Jvm.Cond} {P : Jvm.Cond → Bool} (h1 : L.all (fun c => isCode c || P c) = true) (h2 : ∀ c ∈ L.filter isCode, P c = true) : L.all P = true := by
  refine List.all_eq_true.mpr fun c hc => ?_
  have h := List.all_eq_true.mp h1 c hc
  rcases Bool.eq_false_or_eq_true (isCode c) with hi | hi
  · exact h2 c (List.mem_filter.mpr ⟨hc, hi⟩)
  · simpa [hi] using h
set_option maxRecDepth 65536 in
theorem w_c0 : (Jvm.Cond.code x code maxLocals ret).before args0 about1 = true := code_word (m := ⟨1, 2⟩) (meth := k1m2) (c := k1c2) (by decide +kernel) rfl rfl rfl (by decide +kernel)
set_option maxRecDepth 65536 in
theorem w_c1 : (Jvm.Cond.code ({ cls := "com/example/ratatoskr/ratatoskr/Choices", name := "count", desc := "(III)J" } : Jvm.MethodName) prog_5_method_2_code (6 : Nat) (Option.some Jvm.ClassFile.FieldType.long)).before args0 about1 = true := code_word (m := ⟨2, 1⟩) (meth := k2m1) (c := k2c1) (by decide +kernel) rfl rfl rfl (by decide +kernel)
set_option maxRecDepth 65536 in
theorem w_c2 : (Jvm.Cond.code ({ cls := "com/example/ratatoskr/ratatoskr/ChoicesCountPinLaw", name := "over", desc := "(JI)Z" } : Jvm.MethodName) method_2_code (3 : Nat) (Option.some Jvm.ClassFile.FieldType.boolean)).before args0 about1 = true := code_word (m := ⟨1, 1⟩) (meth := k1m1) (c := k1c1) (by decide +kernel) rfl rfl rfl (by decide +kernel)
def codes1 : List Jvm.Cond := [Jvm.Cond.code x code maxLocals ret, Jvm.Cond.code ({ cls := "com/example/ratatoskr/ratatoskr/Choices", name := "count", desc := "(III)J" } : Jvm.MethodName) prog_5_method_2_code (6 : Nat) (Option.some Jvm.ClassFile.FieldType.long), Jvm.Cond.code ({ cls := "com/example/ratatoskr/ratatoskr/ChoicesCountPinLaw", name := "over", desc := "(JI)Z" } : Jvm.MethodName) method_2_code (3 : Nat) (Option.some Jvm.ClassFile.FieldType.boolean)]
set_option maxRecDepth 65536 in
theorem codes_eq : words1.filter isCode = codes1 := rfl
theorem w_codes : ∀ c ∈ words1.filter isCode, c.before args0 about1 = true := by
  rw [codes_eq]
  intro c hc
  simp only [codes1, List.mem_cons, List.not_mem_nil, or_false] at hc
  rcases hc with rfl | rfl | rfl
  · exact w_c0
  · exact w_c1
  · exact w_c2
set_option maxRecDepth 65536 in
theorem w_t1 : words1.all (fun c => isCode c || c.before args0 about1) = true := by decide +kernel
theorem w_tables : (allAtoms (Jvm.Cond.code x code maxLocals ret :: tables_1)).before args0 about1 = true := by
  rw [allAtoms_all]
  show words1.all (fun c => c.before args0 about1) = true
  refine all_split ?_ w_codes
  rw [w_t1]
set_option maxRecDepth 65536 in
theorem w_case : (Jvm.Cond.and given_1 narrow_1).before args0 about1 = true := by decide +kernel
theorem w_applies : (headSpec (Jvm.Cond.code x code maxLocals ret :: tables_1) room_1).applies x e0.platform about1 = true :=
  (Spec.applies_iff w_frames).mpr ⟨w_running, w_runnable, w_alone, w_named, w_hears, w_ripe, w_room, w_tables⟩
theorem atStart : AtStart classFile x code maxLocals ret World_1 tables_1 room_1 Calls_1 rest_1 Pre_1 launch0 p0 e0 about1 theMethod args0 below0 :=
  ⟨lists_1, trivial, launch0.admits_env _ _ _, launch0.least_env, fairChoices_fair.cas, fairChoices_fair.clock, w_frames, w_args, w_heap, w_applies, trivial, trivial, w_case⟩
end start1
theorem witness_1 : WitnessClaimed_1 := ⟨start1.p0, start1.e0, start1.about1, start1.theMethod, start1.args0, start1.below0, start1.atStart⟩
end Jvm.Pilot.@@N@@
