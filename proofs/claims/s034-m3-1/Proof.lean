import JvmDerived
import JvmDerived.Pilot.@@N@@Statement
import JvmDerived.Pilot.@@N@@Code
set_option linter.unusedVariables false
set_option linter.unusedSimpArgs false
namespace Jvm.RoadKit
open Sem ClassFile Op Lib Jvm.Stand Jvm.Free Jvm.LawKit
section Own
variable {p : Program} {l : Launch} {e : Env} {R : Room} {s : State} {m : MethodId} {args : Array Value} {below : List Frame} {meth : Method} {c : Code} {T : State} {locs : List Loc} {cells slots : Nat}
/-- from U the run ends, and Q holds of what it returns -/
def Outs (p : Program) (e : Env) (below : List Frame) (s : State) (Q : Option Value → Heap → List Loc → Prop) (C S : Nat) (U : State) : Prop :=
  ∃ s₂ o, Steps p.tables e below U s₂ ∧ s₂.status = .running ∧ Ended s₂ below o ∧ ∃ v L, o = .returned v ∧ Q v s₂.heap L ∧ FrameEnd s o s₂ L C S
variable {Q : Option Value → Heap → List Loc → Prop} {C S : Nat}
theorem Outs.of {U U' : State} (h : ∀ t, Steps p.tables e below U' t → Steps p.tables e below U t) (k : Outs p e below s Q C S U') : Outs p e below s Q C S U := by
  obtain ⟨t, o, st, r⟩ := k
  exact ⟨t, o, h t st, r⟩
theorem Outs.to {U U' : State} (h : Steps p.tables e below U U') (k : Outs p e below s Q C S U') : Outs p e below s Q C S U := by
  obtain ⟨t, o, st, r⟩ := k
  exact ⟨t, o, h.trans st, r⟩
theorem Outs.mono {U : State} {Q' : Option Value → Heap → List Loc → Prop} (k : Outs p e below s Q C S U) (h : ∀ v h L, Q v h L → Q' v h L) : Outs p e below s Q' C S U := by
  obtain ⟨t, o, st, h1, h2, v, L, h3, h4, h5⟩ := k
  exact ⟨t, o, st, h1, h2, v, L, h3, h _ _ _ h4, h5⟩
theorem Outs.ret (X : Stand p l e R s m args below meth c T locs cells slots) {g : JFrame} {v : Option Value} (hv : meth.sig.returnType = none → v = none) (hlk : meth.locks = false) (hC : cells ≤ C) (hS : slots ≤ S)
    (st : ∀ fs, (∀ (f : JFrame) (acts : List Action), f.method = m → f.locked = none → f.entered = [] → (doReturn e (T.setTop f) acts v).1 = T.setFrames fs) → Steps p.tables e below (T.setTop g) (T.setFrames fs))
    {h : Heap} (eT : T.heap = h) (q : Q v h locs) : Outs p e below s Q C S (T.setTop g) := by
  subst eT
  obtain ⟨fs, hr, hrun, hended, hW, hsame⟩ := X.leave (v := v) hv hlk
  exact ⟨_, _, st fs hr, hrun, hended, v, locs, rfl, q, ⟨_, rfl⟩, hW, hsame.mono hC hS⟩
theorem Outs.retI (X : Stand p l e R s m args below meth c T locs cells slots) (hx : p.tables.exec = Jvm.exec) {pc : Nat} {Ls : Array Slot} {z : Int32} {rest : List Value} (hret : meth.sig.returnType = some .int) (hd : decode c.code pc = .ok (.ireturn, 1)) (hlk : meth.locks = false) (hC : cells ≤ C) (hS : slots ≤ S)
    {h : Heap} (eT : T.heap = h) (q : Q (some (.int z)) h locs) : Outs p e below s Q C S (T.setTop (mkF m pc Ls (.int z :: rest))) :=
  Outs.ret X (fun h => by rw [hret] at h; cases h) hlk hC hS (fun fs hl => retOut X hx hret rfl (Or.inl ⟨rfl, Or.inl rfl, z, rfl⟩) hd hl) eT q
theorem Outs.retL (X : Stand p l e R s m args below meth c T locs cells slots) (hx : p.tables.exec = Jvm.exec) {pc : Nat} {Ls : Array Slot} {z : Int64} {rest : List Value} (hret : meth.sig.returnType = some .long) (hd : decode c.code pc = .ok (.lreturn, 1)) (hlk : meth.locks = false) (hC : cells ≤ C) (hS : slots ≤ S)
    {h : Heap} (eT : T.heap = h) (q : Q (some (.long z)) h locs) : Outs p e below s Q C S (T.setTop (mkF m pc Ls (.long z :: rest))) :=
  Outs.ret X (fun h => by rw [hret] at h; cases h) hlk hC hS (fun fs hl => retOut X hx hret rfl (Or.inr (Or.inl ⟨rfl, rfl, z, rfl⟩)) hd hl) eT q
theorem Outs.retN (X : Stand p l e R s m args below meth c T locs cells slots) (hx : p.tables.exec = Jvm.exec) {pc : Nat} {Ls : Array Slot} {z : Int32} {t : FieldType} {rest : List Value} (hret : meth.sig.returnType = some t) (ht : t = .boolean ∨ t = .byte ∨ t = .char ∨ t = .short) (hd : decode c.code pc = .ok (.ireturn, 1)) (hlk : meth.locks = false) (hC : cells ≤ C) (hS : slots ≤ S)
    {h : Heap} (eT : T.heap = h) (q : Q (some (.int (nar t z))) h locs) : Outs p e below s Q C S (T.setTop (mkF m pc Ls (.int z :: rest))) :=
  Outs.ret X (fun h => by rw [hret] at h; cases h) hlk hC hS (fun fs hl => Jvm.RoadKit.retN X hx hret ht hd hl) eT q
theorem Outs.retV (X : Stand p l e R s m args below meth c T locs cells slots) (hx : p.tables.exec = Jvm.exec) {pc : Nat} {Ls : Array Slot} (hret : meth.sig.returnType = none) (hd : decode c.code pc = .ok (.return_, 1)) (hlk : meth.locks = false) (hC : cells ≤ C) (hS : slots ≤ S)
    {h : Heap} (eT : T.heap = h) (q : Q none h locs) : Outs p e below s Q C S (T.setTop (mkF m pc Ls [])) :=
  Outs.ret X (fun _ => rfl) hlk hC hS (fun fs hl => X.returnOut hx hret hd hl) eT q
theorem Outs.retA (X : Stand p l e R s m args below meth c T locs cells slots) (hx : p.tables.exec = Jvm.exec) {pc : Nat} {Ls : Array Slot} {w : Value} {t : FieldType} {rest : List Value} (hret : meth.sig.returnType = some t) (ht : t.isReference = true) (hw : w.isRef = true) (hn : narrow t w = w) (hd : decode c.code pc = .ok (.areturn, 1)) (hlk : meth.locks = false) (hC : cells ≤ C) (hS : slots ≤ S)
    {h : Heap} (eT : T.heap = h) (q : Q (some w) h locs) : Outs p e below s Q C S (T.setTop (mkF m pc Ls (w :: rest))) :=
  Outs.ret X (fun h => by rw [hret] at h; cases h) hlk hC hS (fun fs hl => retOut X hx hret hn (Or.inr (Or.inr (Or.inr (Or.inr ⟨rfl, ht, hw⟩)))) hd hl) eT q
theorem lremM {g : JFrame} {target : State} (X : Stand p l e R s m args below meth c T locs cells slots) (hx : p.tables.exec = Jvm.exec) (hg : g.method = m) {x y : Int64} {rest : List Value} (hd : decode c.code g.pc = .ok (.lrem, 1)) (hs : g.stack = .long y :: .long x :: rest) (hy : y ≠ 0)
    (hr : Steps p.tables e below (T.setTop { g with pc := g.pc + 1, stack := .long (x % y) :: rest }) target) : Steps p.tables e below (T.setTop g) target :=
  XS.lrem X.here hx hg hd hs hy (by rw [lrem_mod]; exact hr)
/-- a body that returns v and leaves the heap as it was -/
def QR (z : Option Value) (h0 : Heap) (n0 : Nat) (v : Option Value) (h : Heap) (L : List Loc) : Prop := v = z ∧ Fr n0 L ∧ h = h0
/-- the law's own -/
def QL (n0 : Nat) (v : Option Value) (h : Heap) (L : List Loc) : Prop := v = some (.int 1) ∧ Fr n0 L
end Own
end Jvm.RoadKit
namespace Jvm.RoadKit
open Sem ClassFile Op Lib Jvm.Stand Jvm.Free Jvm.LawKit
section OwnHeap
variable {p : Program} {l : Launch} {e : Env} {R : Room} {s : State} {m : MethodId} {args : Array Value} {below : List Frame} {meth : Method} {c : Code} {T : State} {locs : List Loc} {cells slots : Nat} {Z : State} {a0 : Array Value} {h h' : Heap} {a b : Addr} {ty : FieldType} {n : Nat}
def upd {α : Type} (g : Nat → α) (k : Nat) (v : α) : Nat → α := fun j => if j = k then v else g j
theorem upd_same {α : Type} (g : Nat → α) (k : Nat) (v : α) : upd g k v k = v := if_pos rfl
theorem upd_ne {α : Type} (g : Nat → α) {k j : Nat} (v : α) (q : j ≠ k) : upd g k v j = g j := if_neg q
/-- an array of n places; place j holds f j -/
def AF (Z : State) (h : Heap) (a : Addr) (ty : FieldType) (n : Nat) (f : Nat → Value) : Prop :=
  ∃ c : Cell, Arr Z h a c ty ∧ c.slots.size = n ∧ n < 2147483648 ∧ ∀ j, j < n → c.slots[j]? = some (f j)
def AI (Z : State) (h : Heap) (a : Addr) (ty : FieldType) (n : Nat) (g : Nat → Int32) : Prop := AF Z h a ty n (fun j => .int (g j))
def AJ (Z : State) (h : Heap) (a : Addr) (ty : FieldType) (n : Nat) (g : Nat → Int64) : Prop := AF Z h a ty n (fun j => .long (g j))
theorem AF.lt {f : Nat → Value} (F : AF Z h a ty n f) : a < h.size := by obtain ⟨c, A, -⟩ := F; exact A.lt
theorem AF.ext {f : Nat → Value} (F : AF Z h a ty n f) (E : Ext h h') : AF Z h' a ty n f := by obtain ⟨c, A, r⟩ := F; exact ⟨c, A.ext E, r⟩
theorem AF.other {f : Nat → Value} {sl : Nat} {v : Value} (F : AF Z h b ty n f) (W : Wr h h' a sl v) (q : b ≠ a) : AF Z h' b ty n f := by obtain ⟨c, A, r⟩ := F; exact ⟨c, A.other W q, r⟩
theorem AF.keep {f : Nat → Value} {ws : List Addr} (F : AF Z h a ty n f) (K : Keep h h' ws) (q : a ∉ ws) : AF Z h' a ty n f := by obtain ⟨c, A, r⟩ := F; exact ⟨c, ⟨K.2.1 a c A.1 q, A.2⟩, r⟩
theorem AF.len {f : Nat → Value} (F : AF Z h a ty n f) : n < 2147483648 := by obtain ⟨c, A, -, M, -⟩ := F; exact M
theorem AF.cong {f f' : Nat → Value} (F : AF Z h a ty n f) (q : ∀ j, j < n → f j = f' j) : AF Z h a ty n f' := by
  obtain ⟨c, A, S, M, G⟩ := F
  exact ⟨c, A, S, M, fun j hj => by rw [← q j hj]; exact G j hj⟩
theorem AI.cong {g g' : Nat → Int32} (F : AI Z h a ty n g) (q : ∀ j, j < n → g j = g' j) : AI Z h a ty n g' := AF.cong F fun j hj => by rw [q j hj]
theorem AJ.cong {g g' : Nat → Int64} (F : AJ Z h a ty n g) (q : ∀ j, j < n → g j = g' j) : AJ Z h a ty n g' := AF.cong F fun j hj => by rw [q j hj]
theorem own_nat {j : Int32} {k : Nat} (hk : j.toInt = k) : j.toNatClampNeg = k := by
  show j.toInt.toNat = k
  rw [hk]; rfl
theorem own_in {cl : Cell} {j : Int32} {k : Nat} (S : cl.slots.size = n) (hk : j.toInt = k) (hn : k < n) : ¬ (j < 0 ∨ cl.slots.size ≤ j.toNatClampNeg) := by
  rw [own_nat hk, S, Int32.lt_iff_toInt_lt, hk]
  have : (0 : Int32).toInt = 0 := rfl
  omega
theorem AF.set {f : Nat → Value} {k : Nat} {v : Value} (F : AF Z h a ty n f) (W : Wr h h' a k v) : AF Z h' a ty n (upd f k v) := by
  obtain ⟨c, A, S, M, G⟩ := F
  refine ⟨c.setSlot k v, A.same W, by rw [sz_set]; exact S, M, fun j hj => ?_⟩
  have hz : j < c.slots.size := by omega
  simp only [Cell.setSlot, upd, Array.getElem?_setIfInBounds]
  by_cases q : j = k
  · subst q; simp [hz]
  · rw [if_neg (Ne.symm q), if_neg q]; exact G j hj
theorem AI.set {g : Nat → Int32} {k : Nat} {x : Int32} (F : AI Z h a ty n g) (W : Wr h h' a k (.int x)) : AI Z h' a ty n (upd g k x) :=
  AF.cong (AF.set F W) fun j _ => by simp only [upd]; split <;> rfl
theorem AJ.set {g : Nat → Int64} {k : Nat} {x : Int64} (F : AJ Z h a ty n g) (W : Wr h h' a k (.long x)) : AJ Z h' a ty n (upd g k x) :=
  AF.cong (AF.set F W) fun j _ => by simp only [upd]; split <;> rfl
theorem AF.fresh {k : ClassId} {z : Int32} {i : Nat} (A : Arr Z h a (newA k ty z) ty) (q : z.toInt = i) : AF Z h a ty i (fun _ => defaultValue ty) := by
  have S : (newA k ty z).slots.size = i := by rw [sz_new, own_nat q]
  refine ⟨_, A, S, ?_, fun j hj => ?_⟩
  · have := z.toInt_lt; omega
  · have hz : j < (newA k ty z).slots.size := by omega
    simp only [newA] at hz ⊢
    rw [Array.getElem?_eq_getElem hz]; simp
section Loads
theorem ldI (X : Stand p l e R s m args below meth c T locs cells slots) (hx : p.tables.exec = Jvm.exec) (hZ : Z.Warmed39 s.vm) (eT : T.heap = h) {g : Nat → Int32} (F : AI Z h a .int n g) {j : Int32} {k : Nat} (hk : j.toInt = k) (hn : k < n) {f : JFrame} (hg : f.method = m) {rest : List Value} (hs : f.stack = .int j :: .ref a :: rest) (hd : decode c.code f.pc = .ok (.iaload, 1)) :
    ∀ target, Steps p.tables e below (T.setTop { f with pc := f.pc + 1, stack := .int (g k) :: rest }) target → Steps p.tables e below (T.setTop f) target := by
  obtain ⟨cl, A, S, M, G⟩ := F
  intro target kt
  exact X.iaload hx (by rw [eT]; exact A.1) (State.isArrayOf_alike hZ.alike A.2.1) A.2.2 (own_in S hk hn) (by rw [own_nat hk]; exact G k hn) hg hs hd target kt
theorem ldB (X : Stand p l e R s m args below meth c T locs cells slots) (hx : p.tables.exec = Jvm.exec) (hZ : Z.Warmed39 s.vm) (eT : T.heap = h) {g : Nat → Int32} (F : AI Z h a .byte n g) {j : Int32} {k : Nat} (hk : j.toInt = k) (hn : k < n) {f : JFrame} (hg : f.method = m) {rest : List Value} (hs : f.stack = .int j :: .ref a :: rest) (hd : decode c.code f.pc = .ok (.baload, 1)) :
    ∀ target, Steps p.tables e below (T.setTop { f with pc := f.pc + 1, stack := .int (g k) :: rest }) target → Steps p.tables e below (T.setTop f) target := by
  obtain ⟨cl, A, S, M, G⟩ := F
  intro target kt
  exact X.baloadBytes hx (by rw [eT]; exact A.1) (State.isArrayOf_alike hZ.alike A.2.1) A.2.2 (own_in S hk hn) (by rw [own_nat hk]; exact G k hn) hg hs hd target kt
theorem ldJ (X : Stand p l e R s m args below meth c T locs cells slots) (hx : p.tables.exec = Jvm.exec) (hZ : Z.Warmed39 s.vm) (eT : T.heap = h) {g : Nat → Int64} (F : AJ Z h a .long n g) {j : Int32} {k : Nat} (hk : j.toInt = k) (hn : k < n) {f : JFrame} (hg : f.method = m) {rest : List Value} (hs : f.stack = .int j :: .ref a :: rest) (hd : decode c.code f.pc = .ok (.laload, 1)) :
    ∀ target, Steps p.tables e below (T.setTop { f with pc := f.pc + 1, stack := .long (g k) :: rest }) target → Steps p.tables e below (T.setTop f) target := by
  obtain ⟨cl, A, S, M, G⟩ := F
  intro target kt
  exact X.laload hx (by rw [eT]; exact A.1) (State.isArrayOf_alike hZ.alike A.2.1) A.2.2 (own_in S hk hn) (by rw [own_nat hk]; exact G k hn) hg hs hd target kt
theorem ldR (X : Stand p l e R s m args below meth c T locs cells slots) (hx : p.tables.exec = Jvm.exec) (hZ : Z.Warmed39 s.vm) (eT : T.heap = h) {g : Nat → Value} (F : AF Z h a ty n g) (hty : ty.isReference = true) {j : Int32} {k : Nat} (hk : j.toInt = k) (hn : k < n) {f : JFrame} (hg : f.method = m) {rest : List Value} (hs : f.stack = .int j :: .ref a :: rest) (hd : decode c.code f.pc = .ok (.aaload, 1)) :
    ∀ target, Steps p.tables e below (T.setTop { f with pc := f.pc + 1, stack := g k :: rest }) target → Steps p.tables e below (T.setTop f) target := by
  obtain ⟨cl, A, S, M, G⟩ := F
  intro target kt
  exact X.aaload hx (by rw [eT]; exact A.1) (State.isArrayOf_alike hZ.alike A.2.1) hty A.2.2 (own_in S hk hn) (by rw [own_nat hk]; exact G k hn) hg hs hd target kt
theorem alen (X : Stand p l e R s m args below meth c T locs cells slots) (hx : p.tables.exec = Jvm.exec) (hZ : Z.Warmed39 s.vm) (eT : T.heap = h) {g : Nat → Value} (F : AF Z h a ty n g) {z : Int32} (hz : z.toInt = n) {f : JFrame} (hg : f.method = m) {rest : List Value} (hs : f.stack = .ref a :: rest) (hd : decode c.code f.pc = .ok (.arraylength, 1)) :
    ∀ target, Steps p.tables e below (T.setTop { f with pc := f.pc + 1, stack := .int z :: rest }) target → Steps p.tables e below (T.setTop f) target := by
  obtain ⟨cl, A, S, M, G⟩ := F
  intro target kt
  have h0 : ¬ z < 0 := by
    rw [Int32.lt_iff_toInt_lt, hz]
    have : (0 : Int32).toInt = 0 := rfl
    omega
  have q : cl.slots.size.toInt32 = z := by rw [S, ← own_nat hz]; exact (back32 h0).1
  refine X.arraylength hx (by rw [eT]; exact A.1) (State.isArrayOf_alike hZ.alike A.2.1) hg hs hd target ?_
  rw [q]; exact kt
end Loads
section Stores
theorem puI (X : Stand p l e R s m args below meth c T locs cells slots) (hx : p.tables.exec = Jvm.exec) (hZ : Z.Warmed39 s.vm) (eT : T.heap = h) {g : Nat → Int32} (F : AI Z h a .int n g) {j x : Int32} {k : Nat} (hk : j.toInt = k) (hn : k < n) {f : JFrame} (hg : f.method = m) {rest : List Value} (hs : f.stack = .int x :: .int j :: .ref a :: rest) (hd : decode c.code f.pc = .ok (.iastore, 1)) :
    ∃ T' h', Stand p l e R s m args below meth c T' (locs ++ [⟨a, k⟩]) cells slots ∧ T'.heap = h' ∧ Wr h h' a k (.int x) ∧ AI Z h' a .int n (upd g k x) ∧ ∀ target, Steps p.tables e below (T'.setTop { f with pc := f.pc + 1, stack := rest }) target → Steps p.tables e below (T.setTop f) target := by
  obtain ⟨cl, A, S, M, G⟩ := id F
  obtain ⟨T', h', X', e', W, st⟩ := stI X hx hZ eT A (j := j) (own_in S hk hn) hg hs hd
  rw [own_nat hk] at X' W
  exact ⟨T', h', X', e', W, AI.set F W, st⟩
theorem puB (X : Stand p l e R s m args below meth c T locs cells slots) (hx : p.tables.exec = Jvm.exec) (hZ : Z.Warmed39 s.vm) (eT : T.heap = h) {g : Nat → Int32} (F : AI Z h a .byte n g) {j x : Int32} {k : Nat} (hk : j.toInt = k) (hn : k < n) {f : JFrame} (hg : f.method = m) {rest : List Value} (hs : f.stack = .int x :: .int j :: .ref a :: rest) (hd : decode c.code f.pc = .ok (.bastore, 1)) :
    ∃ T' h', Stand p l e R s m args below meth c T' (locs ++ [⟨a, k⟩]) cells slots ∧ T'.heap = h' ∧ Wr h h' a k (.int x.toInt8.toInt32) ∧ AI Z h' a .byte n (upd g k x.toInt8.toInt32) ∧ ∀ target, Steps p.tables e below (T'.setTop { f with pc := f.pc + 1, stack := rest }) target → Steps p.tables e below (T.setTop f) target := by
  obtain ⟨cl, A, S, M, G⟩ := id F
  obtain ⟨T', h', X', e', W, st⟩ := stB X hx hZ eT A (j := j) (own_in S hk hn) hg hs hd
  rw [own_nat hk] at X' W
  exact ⟨T', h', X', e', W, AI.set F W, st⟩
theorem puJ (X : Stand p l e R s m args below meth c T locs cells slots) (hx : p.tables.exec = Jvm.exec) (hZ : Z.Warmed39 s.vm) (eT : T.heap = h) {g : Nat → Int64} (F : AJ Z h a .long n g) {j : Int32} {x : Int64} {k : Nat} (hk : j.toInt = k) (hn : k < n) {f : JFrame} (hg : f.method = m) {rest : List Value} (hs : f.stack = .long x :: .int j :: .ref a :: rest) (hd : decode c.code f.pc = .ok (.lastore, 1)) :
    ∃ T' h', Stand p l e R s m args below meth c T' (locs ++ [⟨a, k⟩]) cells slots ∧ T'.heap = h' ∧ Wr h h' a k (.long x) ∧ AJ Z h' a .long n (upd g k x) ∧ ∀ target, Steps p.tables e below (T'.setTop { f with pc := f.pc + 1, stack := rest }) target → Steps p.tables e below (T.setTop f) target := by
  obtain ⟨cl, A, S, M, G⟩ := id F
  obtain ⟨T', h', X', e', W, st⟩ := stJ X hx hZ eT A (j := j) (own_in S hk hn) hg hs hd
  rw [own_nat hk] at X' W
  exact ⟨T', h', X', e', W, AJ.set F W, st⟩
theorem puR (X : Stand p l e R s m args below meth c T locs cells slots) (hx : p.tables.exec = Jvm.exec) (hZ : Z.Warmed39 s.vm) (eT : T.heap = h) {g : Nat → Value} (F : AF Z h a ty n g) (hty : ty.isReference = true) {j : Int32} {x : Value} (O : Sto Z h a x) {k : Nat} (hk : j.toInt = k) (hn : k < n) {f : JFrame} (hg : f.method = m) {rest : List Value} (hs : f.stack = x :: .int j :: .ref a :: rest) (hd : decode c.code f.pc = .ok (.aastore, 1)) :
    ∃ T' h', Stand p l e R s m args below meth c T' (locs ++ [⟨a, k⟩]) cells slots ∧ T'.heap = h' ∧ Wr h h' a k x ∧ AF Z h' a ty n (upd g k x) ∧ ∀ target, Steps p.tables e below (T'.setTop { f with pc := f.pc + 1, stack := rest }) target → Steps p.tables e below (T.setTop f) target := by
  obtain ⟨cl, A, S, M, G⟩ := id F
  obtain ⟨T', h', X', e', W, st⟩ := stR X hx hZ eT A (j := j) (own_in S hk hn) hty O hg hs hd
  rw [own_nat hk] at X' W
  exact ⟨T', h', X', e', W, AF.set F W, st⟩
theorem newAF (X : Stand p l e R s m args below meth c T locs cells slots) (hx : p.tables.exec = Jvm.exec) (hZ : Z.Warmed39 s.vm) {aty : ArrayType} (w : (Cond.arrayClass (newarray.typeOf aty)).before a0 Z = true) (eT : T.heap = h) {f : JFrame} (hg : f.method = m) (hd : decode c.code f.pc = .ok (.newarray aty, 2)) {z : Int32} {rest : List Value} (hs : f.stack = .int z :: rest)
    {k : Nat} (hk : z.toInt = k) {cap : Nat} (hcap : k ≤ cap) (hb : cap * 8 ≤ 536870912) (hc : cells + 1 ≤ R.cells) (hl : slots + cap ≤ R.slots) :
    ∃ T' h', Stand p l e R s m args below meth c T' locs (cells + 1) (slots + cap) ∧ T'.heap = h' ∧ Ext h h' ∧ AF Z h' h.size (newarray.typeOf aty) k (fun _ => defaultValue (newarray.typeOf aty)) ∧
      ∀ target, Steps p.tables e below (T'.setTop { f with pc := f.pc + 2, stack := .ref h.size :: rest }) target → Steps p.tables e below (T.setTop f) target := by
  have h0 : ¬ z < 0 := by
    rw [Int32.lt_iff_toInt_lt, hk]
    have : (0 : Int32).toInt = 0 := rfl
    omega
  obtain ⟨T', h', cA, X', e', E, A, st⟩ := newP X hx hZ w eT hg hd hs h0 (cap := cap) (by rw [own_nat hk]; exact hcap) hb hc hl
  exact ⟨T', h', X', e', E, AF.fresh A hk, st⟩
end Stores
theorem own_selects {args' : Array Value} {U : State} {y : MethodName} {k : Nat} (wi : (Cond.instantiable y.cls k).before args' U = true) (hpriv : U.PrivateAt y) (hinst : (Cond.instanceMethod y).before args' U = true) (hy : y.cls ≠ "java/lang/invoke/MethodHandle" ∧ y.cls ≠ "java/lang/invoke/VarHandle") : (Cond.selects y.cls y y).before args' U = true := by
  obtain ⟨c1, k1, i1, i2, -, i3, -⟩ := Cond.instantiable_spec wi
  have hni : k1.isInterface = false := by cases q : k1.isInterface <;> simp [q] at i3 ⊢
  exact Jvm.Stand.selects_self_of_private i1 i2 hni hpriv hinst hy
theorem isRef_cat {w : Value} (q : w.isRef = true) : w.category = 1 := by
  rcases ref_cases q with rfl | ⟨x, rfl⟩ <;> rfl
theorem mem1 {α : Type} (x : α) (L : List α) : x ∈ x :: L := List.mem_cons_self
theorem mem2 {α : Type} (x y : α) (L : List α) : x ∈ y :: x :: L := List.mem_cons_of_mem _ List.mem_cons_self
end OwnHeap
end Jvm.RoadKit
namespace Jvm.Pilot.@@N@@
open Jvm Jvm.ClassFile Sem Op Lib Jvm.Free Jvm.Stand Jvm.LawKit Jvm.RoadKit Bundle Jvm.Pilot.@@N@@.Jvm.D
theorem ef_1 (m : MethodId) (x0 : Int64) (x1 : Int64) : entryFrame m #[(.long x0), (.long x1)] 4 = mkF m 0 #[.val (.long x0), .second, .val (.long x1), .second] [] := by first | (simp [entryFrame, mkF, argsToLocals, Value.category]; done) | rfl
theorem d1_0 : decode prog_22_method_2_code 0 = .ok (.lload_n 2, 1) := by decide +kernel
theorem d1_1 : decode prog_22_method_2_code 1 = .ok (.ldc2_w 9, 3) := by decide +kernel
theorem d1_4 : decode prog_22_method_2_code 4 = .ok (.lload_n 0, 1) := by decide +kernel
theorem d1_5 : decode prog_22_method_2_code 5 = .ok (.lsub, 1) := by decide +kernel
theorem d1_6 : decode prog_22_method_2_code 6 = .ok (.lcmp, 1) := by decide +kernel
theorem d1_7 : decode prog_22_method_2_code 7 = .ok (.ifCond .le 9, 3) := by decide +kernel
theorem d1_10 : decode prog_22_method_2_code 10 = .ok (.ldc2_w 9, 3) := by decide +kernel
theorem d1_13 : decode prog_22_method_2_code 13 = .ok (.goto 6, 3) := by decide +kernel
theorem d1_16 : decode prog_22_method_2_code 16 = .ok (.lload_n 0, 1) := by decide +kernel
theorem d1_17 : decode prog_22_method_2_code 17 = .ok (.lload_n 2, 1) := by decide +kernel
theorem d1_18 : decode prog_22_method_2_code 18 = .ok (.ladd, 1) := by decide +kernel
theorem d1_19 : decode prog_22_method_2_code 19 = .ok (.lreturn, 1) := by decide +kernel
theorem pn_1 : plainName "com/example/ratatoskr/ratatoskr/NodeCounts" = true := by first | (simp [plainName, overriddenIn]; done) | decide +kernel
def f1_7_s0 (j0 : Int64) (j1 : Int64) : Int64 := (if ((9223372036854775807 : Int64) - j0) < j1 then (9223372036854775807 : Int64) else (j0 + j1))
def F_f1 (j0 : Int64) (j1 : Int64) : Int64 := (f1_7_s0 j0 j1)
set_option maxRecDepth 65536 in
set_option maxHeartbeats 40000000 in
theorem rm1 (l : Launch) (Z : State) (a0 : Array Value) (hw : ∀ d ∈ tables_1, d.before a0 Z = true) (ws : List Jvm.Cond) (j0 : Int64) (j1 : Int64)  (h0 : Heap) (n0 : Nat)  :
    MetFree l (⟨"com/example/ratatoskr/ratatoskr/NodeCounts", "plus", "(JJ)J"⟩ : MethodName) (head1 (Jvm.Cond.code (⟨"com/example/ratatoskr/ratatoskr/NodeCounts", "plus", "(JJ)J"⟩ : MethodName) prog_22_method_2_code 4 (some .long) :: ws) ({ frames := 0, cells := 0, slots := 0, locals := 0 } : Room)) (fun a U => a = #[(.long j0), (.long j1)] ∧ Z.Warmed39 U.vm ∧ U.heap = h0) (fun _ _ _ _ _ => True) (fun _ U o U' => ∃ v L, o = .returned v ∧ QR (some (.long (F_f1 j0 j1))) h0 n0 v U'.heap L ∧ FrameEnd U o U' L ({ frames := 0, cells := 0, slots := 0, locals := 0 } : Room).cells ({ frames := 0, cells := 0, slots := 0, locals := 0 } : Room).slots) := by
  refine MetFree.of_bodySF (plainFor_of_name pn_1) hisR ?_
  intro p e s m args below meth c s₁ Bd hml0 hP hK
  obtain ⟨rfl, hZ, hh⟩ := hP
  have hx := Bd.exec
  have hby := Bd.bytes
  have hml : c.maxLocals = 4 := hml0
  have hown : s.vm.findClass "com/example/ratatoskr/ratatoskr/NodeCounts" = some m.cls := findClass_of_methodNamed Bd.named
  have hnm := (name_of_methodNamed Bd.named Bd.method).1
  have hret := Bd.returns
  have hlk : meth.locks = false := BodyLoose.notSynchronized Bd
  have X0 : Stand p l e ({ frames := 0, cells := 0, slots := 0, locals := 0 } : Room) s m #[(.long j0), (.long j1)] below meth c s₁ [] 0 0 := Stand.of_body Bd
  have e0 : s₁.heap = h0 := by rw [← hh, Bd.state]; rfl
  have N0 := Fr.nil n0
  show Outs p e below s (QR (some (.long (F_f1 j0 j1))) h0 n0) _ _ _
  refine Outs.of (U' := s₁.setTop (mkF m 0 #[.val (.long j0), .second, .val (.long j1), .second] [])) (fun t k => castTop (ef_1 m j0 j1) k) ?_
  refine Outs.of (U' := s₁.setTop (mkF m 19 #[.val (.long j0), .second, .val (.long j1), .second] [(.long (f1_7_s0 j0 j1))])) (fun t k => ?_) ?_
  · refine XS.lloadN X0.here hx rfl (hb hby d1_0) rfl ?_
    show Steps p.tables e below (s₁.setTop (mkF m 1 #[.val (.long j0), .second, .val (.long j1), .second] [(.long j1)])) _
    refine X0.ldc2Long hx hown (mvT hZ (hw _ (List.mem_of_getElem? (i := 5) rfl))) (g := (mkF m 1 #[.val (.long j0), .second, .val (.long j1), .second] [(.long j1)])) rfl (hb hby d1_1) _ ?_
    show Steps p.tables e below (s₁.setTop (mkF m 4 #[.val (.long j0), .second, .val (.long j1), .second] [(.long (9223372036854775807 : Int64)), (.long j1)])) _
    refine XS.lloadN X0.here hx rfl (hb hby d1_4) rfl ?_
    show Steps p.tables e below (s₁.setTop (mkF m 5 #[.val (.long j0), .second, .val (.long j1), .second] [(.long j0), (.long (9223372036854775807 : Int64)), (.long j1)])) _
    refine XS.lsub X0.here hx rfl (hb hby d1_5) rfl ?_
    show Steps p.tables e below (s₁.setTop (mkF m 6 #[.val (.long j0), .second, .val (.long j1), .second] [(.long ((9223372036854775807 : Int64) - j0)), (.long j1)])) _
    refine XS.lcmp X0.here hx rfl (hb hby d1_6) rfl ?_
    show Steps p.tables e below (s₁.setTop (mkF m 7 #[.val (.long j0), .second, .val (.long j1), .second] [(.int (lcmpW j1 ((9223372036854775807 : Int64) - j0)))])) _
    by_cases hc7 : ((9223372036854775807 : Int64) - j0) < j1
    · refine XS.ifNo X0.here hx rfl (hb hby d1_7) rfl ((if0 _ _).trans (tlt ((lw_gt _ _).mpr hc7)).2.2.2) ?_
      show Steps p.tables e below (s₁.setTop (mkF m 10 #[.val (.long j0), .second, .val (.long j1), .second] [])) _
      refine X0.ldc2Long hx hown (mvT hZ (hw _ (List.mem_of_getElem? (i := 5) rfl))) (g := (mkF m 10 #[.val (.long j0), .second, .val (.long j1), .second] [])) rfl (hb hby d1_10) _ ?_
      show Steps p.tables e below (s₁.setTop (mkF m 13 #[.val (.long j0), .second, .val (.long j1), .second] [(.long (9223372036854775807 : Int64))])) _
      refine XS.goto X0.here hx rfl (pc0 := 13) (pc' := 19) rfl (hb hby d1_13) (by decide) (by decide) ?_
      show Steps p.tables e below (s₁.setTop (mkF m 19 #[.val (.long j0), .second, .val (.long j1), .second] [(.long (9223372036854775807 : Int64))])) _
      rw [show (f1_7_s0 j0 j1) = (9223372036854775807 : Int64) from (if_pos hc7)] at k
      exact k
    · refine XS.ifYes X0.here hx rfl (pc0 := 7) (pc' := 16) rfl (hb hby d1_7) rfl ((if0 _ _).trans (flt (fun q_ => hc7 ((lw_gt _ _).mp q_))).2.2.2) (by decide) (by decide) ?_
      show Steps p.tables e below (s₁.setTop (mkF m 16 #[.val (.long j0), .second, .val (.long j1), .second] [])) _
      refine XS.lloadN X0.here hx rfl (hb hby d1_16) rfl ?_
      show Steps p.tables e below (s₁.setTop (mkF m 17 #[.val (.long j0), .second, .val (.long j1), .second] [(.long j0)])) _
      refine XS.lloadN X0.here hx rfl (hb hby d1_17) rfl ?_
      show Steps p.tables e below (s₁.setTop (mkF m 18 #[.val (.long j0), .second, .val (.long j1), .second] [(.long j1), (.long j0)])) _
      refine XS.ladd X0.here hx rfl (hb hby d1_18) rfl ?_
      show Steps p.tables e below (s₁.setTop (mkF m 19 #[.val (.long j0), .second, .val (.long j1), .second] [(.long (j0 + j1))])) _
      rw [show (f1_7_s0 j0 j1) = (j0 + j1) from (if_neg hc7)] at k
      exact k
  exact Outs.retL X0 hx hret (hb hby d1_19) hlk (by decide) (by decide) e0 ⟨congrArg (fun z_ => some (Value.long z_)) (show (F_f1 j0 j1) = (f1_7_s0 j0 j1) from rfl).symm, N0, rfl⟩
def f0_v20 (j0 : Int64) (j1 : Int64) (i2 : Int32) : Int64 := ((9223372036854775807 : Int64) - (j0 &&& (9223372036854775807 : Int64)))
def f0_31_l7 (j0 : Int64) (j1 : Int64) (i2 : Int32) : Int64 := (if (i2 &&& (3 : Int32)) = (1 : Int32) then (f0_v20 j0 j1 i2) else (if (i2 &&& (3 : Int32)) = (2 : Int32) then (if (0 : Int64) < (f0_v20 j0 j1 i2) then ((f0_v20 j0 j1 i2) - (1 : Int64)) else (0 : Int64)) else (if (i2 &&& (3 : Int32)) = (3 : Int32) then (if (0 : Int64) < (j0 &&& (9223372036854775807 : Int64)) then ((f0_v20 j0 j1 i2) + (1 : Int64)) else (j1 &&& (9223372036854775807 : Int64))) else (j1 &&& (9223372036854775807 : Int64)))))
def f0_v91 (j0 : Int64) (j1 : Int64) (i2 : Int32) : Int64 := ((j0 &&& (9223372036854775807 : Int64)) + (f0_31_l7 j0 j1 i2))
def f0_97_s0 (j0 : Int64) (j1 : Int64) (i2 : Int32) : Int64 := (if (f0_v91 j0 j1 i2) < (0 : Int64) then (9223372036854775807 : Int64) else (f0_v91 j0 j1 i2))
def f0_v117 (j0 : Int64) (j1 : Int64) (i2 : Int32) : Int64 := (F_f1 (j0 &&& (9223372036854775807 : Int64)) (f0_31_l7 j0 j1 i2))
def f0_124_s0 (j0 : Int64) (j1 : Int64) (i2 : Int32) : Int32 := (if (f0_v117 j0 j1 i2) = (f0_97_s0 j0 j1 i2) then (1 : Int32) else (0 : Int32))
theorem own_plus (a b : Int64) (ha : 0 ≤ a.toInt) (hb : 0 ≤ b.toInt) : F_f1 a b = (if a + b < 0 then (9223372036854775807 : Int64) else a + b) := by
  unfold F_f1 f1_7_s0
  have h1 := c_lsub 9223372036854775807 a
  have h2 := c_ladd a b
  have h3 : (9223372036854775807 : Int64).toInt = 9223372036854775807 := by decide
  have h4 : (0 : Int64).toInt = 0 := by decide
  have r1 := rng64 a
  have r2 := rng64 b
  have r3 := rng64 (9223372036854775807 - a)
  have r4 := rng64 (a + b)
  by_cases p : (9223372036854775807 : Int64) - a < b <;> by_cases q : a + b < 0
  · rw [if_pos p, if_pos q]
  · rw [Int64.lt_iff_toInt_lt] at p q; omega
  · rw [Int64.lt_iff_toInt_lt] at p q; omega
  · rw [if_neg p, if_neg q]
theorem own_rooms (a : Int64) (ha : 0 ≤ a.toInt) : 0 ≤ (9223372036854775807 - a).toInt ∧ ((0 : Int64) < 9223372036854775807 - a → 0 ≤ (9223372036854775807 - a - 1).toInt) ∧ ((0 : Int64) < a → 0 ≤ (9223372036854775807 - a + 1).toInt) := by
  have h1 := c_lsub 9223372036854775807 a
  have h3 : (9223372036854775807 : Int64).toInt = 9223372036854775807 := by decide
  have h4 : (0 : Int64).toInt = 0 := by decide
  have h5 : (1 : Int64).toInt = 1 := by decide
  have r1 := rng64 a
  have r3 := rng64 (9223372036854775807 - a)
  have h7 := c_lsub (9223372036854775807 - a) 1
  have h8 := c_ladd (9223372036854775807 - a) 1
  have r7 := rng64 (9223372036854775807 - a - 1)
  have r8 := rng64 (9223372036854775807 - a + 1)
  rw [Int64.lt_iff_toInt_lt, Int64.lt_iff_toInt_lt]
  refine ⟨?_, ?_, ?_⟩
  · omega
  · intro q; omega
  · intro q; omega
theorem own_more (j0 j1 : Int64) (i2 : Int32) : 0 ≤ (j0 &&& (9223372036854775807 : Int64)).toInt ∧ 0 ≤ (f0_31_l7 j0 j1 i2).toInt := by
  have ha := c_maskL j0 9223372036854775807 63 (by decide) (by decide)
  have hb := c_maskL j1 9223372036854775807 63 (by decide) (by decide)
  have ha' : 0 ≤ (j0 &&& (9223372036854775807 : Int64)).toInt := by omega
  have hb' : 0 ≤ (j1 &&& (9223372036854775807 : Int64)).toInt := by omega
  have h4 : (0 : Int64).toInt = 0 := by decide
  clear ha hb
  unfold f0_31_l7 f0_v20
  generalize (j0 &&& (9223372036854775807 : Int64)) = a at *
  generalize (j1 &&& (9223372036854775807 : Int64)) = b at *
  obtain ⟨k1, k2, k3⟩ := own_rooms a ha'
  refine ⟨ha', ?_⟩
  split
  · exact k1
  · split
    · split
      · rename_i q; exact k2 q
      · rw [h4]; decide
    · split
      · split
        · rename_i q; exact k3 q
        · exact hb'
      · exact hb'
theorem law_true (j0 j1 : Int64) (i2 : Int32) : nar .boolean (f0_124_s0 j0 j1 i2) = 1 := by
  obtain ⟨h1, h2⟩ := own_more j0 j1 i2
  have h : F_f1 (j0 &&& (9223372036854775807 : Int64)) (f0_31_l7 j0 j1 i2) = f0_97_s0 j0 j1 i2 := own_plus _ _ h1 h2
  unfold f0_124_s0 f0_v117
  rw [if_pos h]; rfl
theorem ef_0 (m : MethodId) (x0 : Int64) (x1 : Int64) (x2 : Int32) : entryFrame m #[(.long x0), (.long x1), (.int x2)] maxLocals = mkF m 0 #[.val (.long x0), .second, .val (.long x1), .second, .val (.int x2), .unset, .unset, .unset, .unset, .unset, .unset, .unset, .unset, .unset, .unset, .unset, .unset, .unset] [] := by first | (simp [entryFrame, mkF, argsToLocals, Value.category, maxLocals]; done) | rfl
theorem pd_0 : parseMethodDescriptor "(JJ)J" = some ⟨[.long, .long], some .long⟩ := by decide +kernel
theorem pn_0 : plainName "com/example/ratatoskr/ratatoskr/NodeCountsPlusPinLaw" = true := by first | (simp [plainName, overriddenIn]; done) | decide +kernel
set_option maxRecDepth 65536 in
set_option maxHeartbeats 40000000 in
theorem rm0 (l : Launch) (Z : State) (a0 : Array Value) (hw : ∀ d ∈ tables_1, d.before a0 Z = true) (ws : List Jvm.Cond) (j0 : Int64) (j1 : Int64) (i2 : Int32)  (h0 : Heap) (n0 : Nat)  :
    MetFree l x (head1 (Jvm.Cond.code x code maxLocals ret :: ws) room_1) (fun a U => a = #[(.long j0), (.long j1), (.int i2)] ∧ Z.Warmed39 U.vm ∧ U.heap = h0) (fun _ _ _ _ _ => True) (fun _ U o U' => ∃ v L, o = .returned v ∧ QL n0 v U'.heap L ∧ FrameEnd U o U' L room_1.cells room_1.slots) := by
  refine MetFree.of_bodySF (plainFor_of_name pn_0) hisR ?_
  intro p e s m args below meth c s₁ Bd hml0 hP hK
  obtain ⟨rfl, hZ, hh⟩ := hP
  have hx := Bd.exec
  have hby := Bd.bytes
  have hml : c.maxLocals = 18 := hml0
  have hown : s.vm.findClass "com/example/ratatoskr/ratatoskr/NodeCountsPlusPinLaw" = some m.cls := findClass_of_methodNamed Bd.named
  have hnm := (name_of_methodNamed Bd.named Bd.method).1
  have hret := Bd.returns
  have hlk : meth.locks = false := BodyLoose.notSynchronized Bd
  have X0 : Stand p l e room_1 s m #[(.long j0), (.long j1), (.int i2)] below meth c s₁ [] 0 0 := Stand.of_body Bd
  have e0 : s₁.heap = h0 := by rw [← hh, Bd.state]; rfl
  have N0 := Fr.nil n0
  show Outs p e below s (QL n0) _ _ _
  refine Outs.of (U' := s₁.setTop (mkF m 0 #[.val (.long j0), .second, .val (.long j1), .second, .val (.int i2), .unset, .unset, .unset, .unset, .unset, .unset, .unset, .unset, .unset, .unset, .unset, .unset, .unset] [])) (fun t k => castTop (ef_0 m j0 j1 i2) k) ?_
  refine Outs.of (U' := s₁.setTop (mkF m 86 #[.val (.long j0), .second, .val (.long j1), .second, .val (.int i2), .val (.long (j0 &&& (9223372036854775807 : Int64))), .second, .val (.long (f0_31_l7 j0 j1 i2)), .second, .val (.long (f0_v20 j0 j1 i2)), .second, .val (.int (i2 &&& (3 : Int32))), .unset, .unset, .unset, .unset, .unset, .unset] [])) (fun t k => ?_) ?_
  · refine XS.lloadN X0.here hx rfl (hb hby at_0) rfl ?_
    show Steps p.tables e below (s₁.setTop (mkF m 1 #[.val (.long j0), .second, .val (.long j1), .second, .val (.int i2), .unset, .unset, .unset, .unset, .unset, .unset, .unset, .unset, .unset, .unset, .unset, .unset, .unset] [(.long j0)])) _
    refine X0.ldc2Long hx hown (mvT hZ (hw _ (List.mem_of_getElem? (i := 0) rfl))) (g := (mkF m 1 #[.val (.long j0), .second, .val (.long j1), .second, .val (.int i2), .unset, .unset, .unset, .unset, .unset, .unset, .unset, .unset, .unset, .unset, .unset, .unset, .unset] [(.long j0)])) rfl (hb hby at_1) _ ?_
    show Steps p.tables e below (s₁.setTop (mkF m 4 #[.val (.long j0), .second, .val (.long j1), .second, .val (.int i2), .unset, .unset, .unset, .unset, .unset, .unset, .unset, .unset, .unset, .unset, .unset, .unset, .unset] [(.long (9223372036854775807 : Int64)), (.long j0)])) _
    refine XS.land X0.here hx rfl (hb hby at_4) rfl ?_
    show Steps p.tables e below (s₁.setTop (mkF m 5 #[.val (.long j0), .second, .val (.long j1), .second, .val (.int i2), .unset, .unset, .unset, .unset, .unset, .unset, .unset, .unset, .unset, .unset, .unset, .unset, .unset] [(.long (j0 &&& (9223372036854775807 : Int64)))])) _
    refine XS.lstore X0.here hx rfl (hb hby at_5) rfl (l' := #[.val (.long j0), .second, .val (.long j1), .second, .val (.int i2), .val (.long (j0 &&& (9223372036854775807 : Int64))), .second, .unset, .unset, .unset, .unset, .unset, .unset, .unset, .unset, .unset, .unset, .unset]) rfl ?_
    show Steps p.tables e below (s₁.setTop (mkF m 7 #[.val (.long j0), .second, .val (.long j1), .second, .val (.int i2), .val (.long (j0 &&& (9223372036854775807 : Int64))), .second, .unset, .unset, .unset, .unset, .unset, .unset, .unset, .unset, .unset, .unset, .unset] [])) _
    refine XS.lloadN X0.here hx rfl (hb hby at_7) rfl ?_
    show Steps p.tables e below (s₁.setTop (mkF m 8 #[.val (.long j0), .second, .val (.long j1), .second, .val (.int i2), .val (.long (j0 &&& (9223372036854775807 : Int64))), .second, .unset, .unset, .unset, .unset, .unset, .unset, .unset, .unset, .unset, .unset, .unset] [(.long j1)])) _
    refine X0.ldc2Long hx hown (mvT hZ (hw _ (List.mem_of_getElem? (i := 0) rfl))) (g := (mkF m 8 #[.val (.long j0), .second, .val (.long j1), .second, .val (.int i2), .val (.long (j0 &&& (9223372036854775807 : Int64))), .second, .unset, .unset, .unset, .unset, .unset, .unset, .unset, .unset, .unset, .unset, .unset] [(.long j1)])) rfl (hb hby at_8) _ ?_
    show Steps p.tables e below (s₁.setTop (mkF m 11 #[.val (.long j0), .second, .val (.long j1), .second, .val (.int i2), .val (.long (j0 &&& (9223372036854775807 : Int64))), .second, .unset, .unset, .unset, .unset, .unset, .unset, .unset, .unset, .unset, .unset, .unset] [(.long (9223372036854775807 : Int64)), (.long j1)])) _
    refine XS.land X0.here hx rfl (hb hby at_11) rfl ?_
    show Steps p.tables e below (s₁.setTop (mkF m 12 #[.val (.long j0), .second, .val (.long j1), .second, .val (.int i2), .val (.long (j0 &&& (9223372036854775807 : Int64))), .second, .unset, .unset, .unset, .unset, .unset, .unset, .unset, .unset, .unset, .unset, .unset] [(.long (j1 &&& (9223372036854775807 : Int64)))])) _
    refine XS.lstore X0.here hx rfl (hb hby at_12) rfl (l' := #[.val (.long j0), .second, .val (.long j1), .second, .val (.int i2), .val (.long (j0 &&& (9223372036854775807 : Int64))), .second, .val (.long (j1 &&& (9223372036854775807 : Int64))), .second, .unset, .unset, .unset, .unset, .unset, .unset, .unset, .unset, .unset]) rfl ?_
    show Steps p.tables e below (s₁.setTop (mkF m 14 #[.val (.long j0), .second, .val (.long j1), .second, .val (.int i2), .val (.long (j0 &&& (9223372036854775807 : Int64))), .second, .val (.long (j1 &&& (9223372036854775807 : Int64))), .second, .unset, .unset, .unset, .unset, .unset, .unset, .unset, .unset, .unset] [])) _
    refine X0.ldc2Long hx hown (mvT hZ (hw _ (List.mem_of_getElem? (i := 0) rfl))) (g := (mkF m 14 #[.val (.long j0), .second, .val (.long j1), .second, .val (.int i2), .val (.long (j0 &&& (9223372036854775807 : Int64))), .second, .val (.long (j1 &&& (9223372036854775807 : Int64))), .second, .unset, .unset, .unset, .unset, .unset, .unset, .unset, .unset, .unset] [])) rfl (hb hby at_14) _ ?_
    show Steps p.tables e below (s₁.setTop (mkF m 17 #[.val (.long j0), .second, .val (.long j1), .second, .val (.int i2), .val (.long (j0 &&& (9223372036854775807 : Int64))), .second, .val (.long (j1 &&& (9223372036854775807 : Int64))), .second, .unset, .unset, .unset, .unset, .unset, .unset, .unset, .unset, .unset] [(.long (9223372036854775807 : Int64))])) _
    refine XS.lload X0.here hx rfl (hb hby at_17) rfl ?_
    show Steps p.tables e below (s₁.setTop (mkF m 19 #[.val (.long j0), .second, .val (.long j1), .second, .val (.int i2), .val (.long (j0 &&& (9223372036854775807 : Int64))), .second, .val (.long (j1 &&& (9223372036854775807 : Int64))), .second, .unset, .unset, .unset, .unset, .unset, .unset, .unset, .unset, .unset] [(.long (j0 &&& (9223372036854775807 : Int64))), (.long (9223372036854775807 : Int64))])) _
    refine XS.lsub X0.here hx rfl (hb hby at_19) rfl ?_
    show Steps p.tables e below (s₁.setTop (mkF m 20 #[.val (.long j0), .second, .val (.long j1), .second, .val (.int i2), .val (.long (j0 &&& (9223372036854775807 : Int64))), .second, .val (.long (j1 &&& (9223372036854775807 : Int64))), .second, .unset, .unset, .unset, .unset, .unset, .unset, .unset, .unset, .unset] [(.long ((9223372036854775807 : Int64) - (j0 &&& (9223372036854775807 : Int64))))])) _
    refine XS.lstore X0.here hx rfl (hb hby at_20) rfl (l' := #[.val (.long j0), .second, .val (.long j1), .second, .val (.int i2), .val (.long (j0 &&& (9223372036854775807 : Int64))), .second, .val (.long (j1 &&& (9223372036854775807 : Int64))), .second, .val (.long (f0_v20 j0 j1 i2)), .second, .unset, .unset, .unset, .unset, .unset, .unset, .unset]) rfl ?_
    show Steps p.tables e below (s₁.setTop (mkF m 22 #[.val (.long j0), .second, .val (.long j1), .second, .val (.int i2), .val (.long (j0 &&& (9223372036854775807 : Int64))), .second, .val (.long (j1 &&& (9223372036854775807 : Int64))), .second, .val (.long (f0_v20 j0 j1 i2)), .second, .unset, .unset, .unset, .unset, .unset, .unset, .unset] [])) _
    refine XS.iload X0.here hx rfl (hb hby at_22) rfl ?_
    show Steps p.tables e below (s₁.setTop (mkF m 24 #[.val (.long j0), .second, .val (.long j1), .second, .val (.int i2), .val (.long (j0 &&& (9223372036854775807 : Int64))), .second, .val (.long (j1 &&& (9223372036854775807 : Int64))), .second, .val (.long (f0_v20 j0 j1 i2)), .second, .unset, .unset, .unset, .unset, .unset, .unset, .unset] [(.int i2)])) _
    refine XS.iconst X0.here hx rfl (hb hby at_24) ?_
    show Steps p.tables e below (s₁.setTop (mkF m 25 #[.val (.long j0), .second, .val (.long j1), .second, .val (.int i2), .val (.long (j0 &&& (9223372036854775807 : Int64))), .second, .val (.long (j1 &&& (9223372036854775807 : Int64))), .second, .val (.long (f0_v20 j0 j1 i2)), .second, .unset, .unset, .unset, .unset, .unset, .unset, .unset] [(.int (3 : Int32)), (.int i2)])) _
    refine XS.iand X0.here hx rfl (hb hby at_25) rfl ?_
    show Steps p.tables e below (s₁.setTop (mkF m 26 #[.val (.long j0), .second, .val (.long j1), .second, .val (.int i2), .val (.long (j0 &&& (9223372036854775807 : Int64))), .second, .val (.long (j1 &&& (9223372036854775807 : Int64))), .second, .val (.long (f0_v20 j0 j1 i2)), .second, .unset, .unset, .unset, .unset, .unset, .unset, .unset] [(.int (i2 &&& (3 : Int32)))])) _
    refine XS.istore X0.here hx rfl (hb hby at_26) rfl (l' := #[.val (.long j0), .second, .val (.long j1), .second, .val (.int i2), .val (.long (j0 &&& (9223372036854775807 : Int64))), .second, .val (.long (j1 &&& (9223372036854775807 : Int64))), .second, .val (.long (f0_v20 j0 j1 i2)), .second, .val (.int (i2 &&& (3 : Int32))), .unset, .unset, .unset, .unset, .unset, .unset]) rfl ?_
    show Steps p.tables e below (s₁.setTop (mkF m 28 #[.val (.long j0), .second, .val (.long j1), .second, .val (.int i2), .val (.long (j0 &&& (9223372036854775807 : Int64))), .second, .val (.long (j1 &&& (9223372036854775807 : Int64))), .second, .val (.long (f0_v20 j0 j1 i2)), .second, .val (.int (i2 &&& (3 : Int32))), .unset, .unset, .unset, .unset, .unset, .unset] [])) _
    refine XS.iload X0.here hx rfl (hb hby at_28) rfl ?_
    show Steps p.tables e below (s₁.setTop (mkF m 30 #[.val (.long j0), .second, .val (.long j1), .second, .val (.int i2), .val (.long (j0 &&& (9223372036854775807 : Int64))), .second, .val (.long (j1 &&& (9223372036854775807 : Int64))), .second, .val (.long (f0_v20 j0 j1 i2)), .second, .val (.int (i2 &&& (3 : Int32))), .unset, .unset, .unset, .unset, .unset, .unset] [(.int (i2 &&& (3 : Int32)))])) _
    refine XS.iconst X0.here hx rfl (hb hby at_30) ?_
    show Steps p.tables e below (s₁.setTop (mkF m 31 #[.val (.long j0), .second, .val (.long j1), .second, .val (.int i2), .val (.long (j0 &&& (9223372036854775807 : Int64))), .second, .val (.long (j1 &&& (9223372036854775807 : Int64))), .second, .val (.long (f0_v20 j0 j1 i2)), .second, .val (.int (i2 &&& (3 : Int32))), .unset, .unset, .unset, .unset, .unset, .unset] [(.int (1 : Int32)), (.int (i2 &&& (3 : Int32)))])) _
    by_cases hc31 : (i2 &&& (3 : Int32)) = (1 : Int32)
    · refine XS.icmpNo X0.here hx rfl (hb hby at_31) rfl (teq hc31).2 ?_
      show Steps p.tables e below (s₁.setTop (mkF m 34 #[.val (.long j0), .second, .val (.long j1), .second, .val (.int i2), .val (.long (j0 &&& (9223372036854775807 : Int64))), .second, .val (.long (j1 &&& (9223372036854775807 : Int64))), .second, .val (.long (f0_v20 j0 j1 i2)), .second, .val (.int (i2 &&& (3 : Int32))), .unset, .unset, .unset, .unset, .unset, .unset] [])) _
      refine XS.lload X0.here hx rfl (hb hby at_34) rfl ?_
      show Steps p.tables e below (s₁.setTop (mkF m 36 #[.val (.long j0), .second, .val (.long j1), .second, .val (.int i2), .val (.long (j0 &&& (9223372036854775807 : Int64))), .second, .val (.long (j1 &&& (9223372036854775807 : Int64))), .second, .val (.long (f0_v20 j0 j1 i2)), .second, .val (.int (i2 &&& (3 : Int32))), .unset, .unset, .unset, .unset, .unset, .unset] [(.long (f0_v20 j0 j1 i2))])) _
      refine XS.lstore X0.here hx rfl (hb hby at_36) rfl (l' := #[.val (.long j0), .second, .val (.long j1), .second, .val (.int i2), .val (.long (j0 &&& (9223372036854775807 : Int64))), .second, .val (.long (f0_v20 j0 j1 i2)), .second, .val (.long (f0_v20 j0 j1 i2)), .second, .val (.int (i2 &&& (3 : Int32))), .unset, .unset, .unset, .unset, .unset, .unset]) rfl ?_
      show Steps p.tables e below (s₁.setTop (mkF m 38 #[.val (.long j0), .second, .val (.long j1), .second, .val (.int i2), .val (.long (j0 &&& (9223372036854775807 : Int64))), .second, .val (.long (f0_v20 j0 j1 i2)), .second, .val (.long (f0_v20 j0 j1 i2)), .second, .val (.int (i2 &&& (3 : Int32))), .unset, .unset, .unset, .unset, .unset, .unset] [])) _
      refine XS.goto X0.here hx rfl (pc0 := 38) (pc' := 86) rfl (hb hby at_38) (by decide) (by decide) ?_
      show Steps p.tables e below (s₁.setTop (mkF m 86 #[.val (.long j0), .second, .val (.long j1), .second, .val (.int i2), .val (.long (j0 &&& (9223372036854775807 : Int64))), .second, .val (.long (f0_v20 j0 j1 i2)), .second, .val (.long (f0_v20 j0 j1 i2)), .second, .val (.int (i2 &&& (3 : Int32))), .unset, .unset, .unset, .unset, .unset, .unset] [])) _
      rw [show (f0_31_l7 j0 j1 i2) = (f0_v20 j0 j1 i2) from (if_pos hc31)] at k
      exact k
    · refine XS.icmpYes X0.here hx rfl (pc0 := 31) (pc' := 41) rfl (hb hby at_31) rfl (feq hc31).2 (by decide) (by decide) ?_
      show Steps p.tables e below (s₁.setTop (mkF m 41 #[.val (.long j0), .second, .val (.long j1), .second, .val (.int i2), .val (.long (j0 &&& (9223372036854775807 : Int64))), .second, .val (.long (j1 &&& (9223372036854775807 : Int64))), .second, .val (.long (f0_v20 j0 j1 i2)), .second, .val (.int (i2 &&& (3 : Int32))), .unset, .unset, .unset, .unset, .unset, .unset] [])) _
      refine XS.iload X0.here hx rfl (hb hby at_41) rfl ?_
      show Steps p.tables e below (s₁.setTop (mkF m 43 #[.val (.long j0), .second, .val (.long j1), .second, .val (.int i2), .val (.long (j0 &&& (9223372036854775807 : Int64))), .second, .val (.long (j1 &&& (9223372036854775807 : Int64))), .second, .val (.long (f0_v20 j0 j1 i2)), .second, .val (.int (i2 &&& (3 : Int32))), .unset, .unset, .unset, .unset, .unset, .unset] [(.int (i2 &&& (3 : Int32)))])) _
      refine XS.iconst X0.here hx rfl (hb hby at_43) ?_
      show Steps p.tables e below (s₁.setTop (mkF m 44 #[.val (.long j0), .second, .val (.long j1), .second, .val (.int i2), .val (.long (j0 &&& (9223372036854775807 : Int64))), .second, .val (.long (j1 &&& (9223372036854775807 : Int64))), .second, .val (.long (f0_v20 j0 j1 i2)), .second, .val (.int (i2 &&& (3 : Int32))), .unset, .unset, .unset, .unset, .unset, .unset] [(.int (2 : Int32)), (.int (i2 &&& (3 : Int32)))])) _
      by_cases hc44 : (i2 &&& (3 : Int32)) = (2 : Int32)
      · refine XS.icmpNo X0.here hx rfl (hb hby at_44) rfl (teq hc44).2 ?_
        show Steps p.tables e below (s₁.setTop (mkF m 47 #[.val (.long j0), .second, .val (.long j1), .second, .val (.int i2), .val (.long (j0 &&& (9223372036854775807 : Int64))), .second, .val (.long (j1 &&& (9223372036854775807 : Int64))), .second, .val (.long (f0_v20 j0 j1 i2)), .second, .val (.int (i2 &&& (3 : Int32))), .unset, .unset, .unset, .unset, .unset, .unset] [])) _
        refine XS.lload X0.here hx rfl (hb hby at_47) rfl ?_
        show Steps p.tables e below (s₁.setTop (mkF m 49 #[.val (.long j0), .second, .val (.long j1), .second, .val (.int i2), .val (.long (j0 &&& (9223372036854775807 : Int64))), .second, .val (.long (j1 &&& (9223372036854775807 : Int64))), .second, .val (.long (f0_v20 j0 j1 i2)), .second, .val (.int (i2 &&& (3 : Int32))), .unset, .unset, .unset, .unset, .unset, .unset] [(.long (f0_v20 j0 j1 i2))])) _
        refine XS.lconst X0.here hx rfl (hb hby at_49) ?_
        show Steps p.tables e below (s₁.setTop (mkF m 50 #[.val (.long j0), .second, .val (.long j1), .second, .val (.int i2), .val (.long (j0 &&& (9223372036854775807 : Int64))), .second, .val (.long (j1 &&& (9223372036854775807 : Int64))), .second, .val (.long (f0_v20 j0 j1 i2)), .second, .val (.int (i2 &&& (3 : Int32))), .unset, .unset, .unset, .unset, .unset, .unset] [(.long (0 : Int64)), (.long (f0_v20 j0 j1 i2))])) _
        refine XS.lcmp X0.here hx rfl (hb hby at_50) rfl ?_
        show Steps p.tables e below (s₁.setTop (mkF m 51 #[.val (.long j0), .second, .val (.long j1), .second, .val (.int i2), .val (.long (j0 &&& (9223372036854775807 : Int64))), .second, .val (.long (j1 &&& (9223372036854775807 : Int64))), .second, .val (.long (f0_v20 j0 j1 i2)), .second, .val (.int (i2 &&& (3 : Int32))), .unset, .unset, .unset, .unset, .unset, .unset] [(.int (lcmpW (f0_v20 j0 j1 i2) (0 : Int64)))])) _
        by_cases hc51 : (0 : Int64) < (f0_v20 j0 j1 i2)
        · refine XS.ifNo X0.here hx rfl (hb hby at_51) rfl ((if0 _ _).trans (tlt ((lw_gt _ _).mpr hc51)).2.2.2) ?_
          show Steps p.tables e below (s₁.setTop (mkF m 54 #[.val (.long j0), .second, .val (.long j1), .second, .val (.int i2), .val (.long (j0 &&& (9223372036854775807 : Int64))), .second, .val (.long (j1 &&& (9223372036854775807 : Int64))), .second, .val (.long (f0_v20 j0 j1 i2)), .second, .val (.int (i2 &&& (3 : Int32))), .unset, .unset, .unset, .unset, .unset, .unset] [])) _
          refine XS.lload X0.here hx rfl (hb hby at_54) rfl ?_
          show Steps p.tables e below (s₁.setTop (mkF m 56 #[.val (.long j0), .second, .val (.long j1), .second, .val (.int i2), .val (.long (j0 &&& (9223372036854775807 : Int64))), .second, .val (.long (j1 &&& (9223372036854775807 : Int64))), .second, .val (.long (f0_v20 j0 j1 i2)), .second, .val (.int (i2 &&& (3 : Int32))), .unset, .unset, .unset, .unset, .unset, .unset] [(.long (f0_v20 j0 j1 i2))])) _
          refine XS.lconst X0.here hx rfl (hb hby at_56) ?_
          show Steps p.tables e below (s₁.setTop (mkF m 57 #[.val (.long j0), .second, .val (.long j1), .second, .val (.int i2), .val (.long (j0 &&& (9223372036854775807 : Int64))), .second, .val (.long (j1 &&& (9223372036854775807 : Int64))), .second, .val (.long (f0_v20 j0 j1 i2)), .second, .val (.int (i2 &&& (3 : Int32))), .unset, .unset, .unset, .unset, .unset, .unset] [(.long (1 : Int64)), (.long (f0_v20 j0 j1 i2))])) _
          refine XS.lsub X0.here hx rfl (hb hby at_57) rfl ?_
          show Steps p.tables e below (s₁.setTop (mkF m 58 #[.val (.long j0), .second, .val (.long j1), .second, .val (.int i2), .val (.long (j0 &&& (9223372036854775807 : Int64))), .second, .val (.long (j1 &&& (9223372036854775807 : Int64))), .second, .val (.long (f0_v20 j0 j1 i2)), .second, .val (.int (i2 &&& (3 : Int32))), .unset, .unset, .unset, .unset, .unset, .unset] [(.long ((f0_v20 j0 j1 i2) - (1 : Int64)))])) _
          refine XS.goto X0.here hx rfl (pc0 := 58) (pc' := 62) rfl (hb hby at_58) (by decide) (by decide) ?_
          show Steps p.tables e below (s₁.setTop (mkF m 62 #[.val (.long j0), .second, .val (.long j1), .second, .val (.int i2), .val (.long (j0 &&& (9223372036854775807 : Int64))), .second, .val (.long (j1 &&& (9223372036854775807 : Int64))), .second, .val (.long (f0_v20 j0 j1 i2)), .second, .val (.int (i2 &&& (3 : Int32))), .unset, .unset, .unset, .unset, .unset, .unset] [(.long ((f0_v20 j0 j1 i2) - (1 : Int64)))])) _
          refine XS.lstore X0.here hx rfl (hb hby at_62) rfl (l' := #[.val (.long j0), .second, .val (.long j1), .second, .val (.int i2), .val (.long (j0 &&& (9223372036854775807 : Int64))), .second, .val (.long ((f0_v20 j0 j1 i2) - (1 : Int64))), .second, .val (.long (f0_v20 j0 j1 i2)), .second, .val (.int (i2 &&& (3 : Int32))), .unset, .unset, .unset, .unset, .unset, .unset]) rfl ?_
          show Steps p.tables e below (s₁.setTop (mkF m 64 #[.val (.long j0), .second, .val (.long j1), .second, .val (.int i2), .val (.long (j0 &&& (9223372036854775807 : Int64))), .second, .val (.long ((f0_v20 j0 j1 i2) - (1 : Int64))), .second, .val (.long (f0_v20 j0 j1 i2)), .second, .val (.int (i2 &&& (3 : Int32))), .unset, .unset, .unset, .unset, .unset, .unset] [])) _
          refine XS.goto X0.here hx rfl (pc0 := 64) (pc' := 86) rfl (hb hby at_64) (by decide) (by decide) ?_
          show Steps p.tables e below (s₁.setTop (mkF m 86 #[.val (.long j0), .second, .val (.long j1), .second, .val (.int i2), .val (.long (j0 &&& (9223372036854775807 : Int64))), .second, .val (.long ((f0_v20 j0 j1 i2) - (1 : Int64))), .second, .val (.long (f0_v20 j0 j1 i2)), .second, .val (.int (i2 &&& (3 : Int32))), .unset, .unset, .unset, .unset, .unset, .unset] [])) _
          rw [show (f0_31_l7 j0 j1 i2) = ((f0_v20 j0 j1 i2) - (1 : Int64)) from ((if_neg hc31).trans ((if_pos hc44).trans (if_pos hc51)))] at k
          exact k
        · refine XS.ifYes X0.here hx rfl (pc0 := 51) (pc' := 61) rfl (hb hby at_51) rfl ((if0 _ _).trans (flt (fun q_ => hc51 ((lw_gt _ _).mp q_))).2.2.2) (by decide) (by decide) ?_
          show Steps p.tables e below (s₁.setTop (mkF m 61 #[.val (.long j0), .second, .val (.long j1), .second, .val (.int i2), .val (.long (j0 &&& (9223372036854775807 : Int64))), .second, .val (.long (j1 &&& (9223372036854775807 : Int64))), .second, .val (.long (f0_v20 j0 j1 i2)), .second, .val (.int (i2 &&& (3 : Int32))), .unset, .unset, .unset, .unset, .unset, .unset] [])) _
          refine XS.lconst X0.here hx rfl (hb hby at_61) ?_
          show Steps p.tables e below (s₁.setTop (mkF m 62 #[.val (.long j0), .second, .val (.long j1), .second, .val (.int i2), .val (.long (j0 &&& (9223372036854775807 : Int64))), .second, .val (.long (j1 &&& (9223372036854775807 : Int64))), .second, .val (.long (f0_v20 j0 j1 i2)), .second, .val (.int (i2 &&& (3 : Int32))), .unset, .unset, .unset, .unset, .unset, .unset] [(.long (0 : Int64))])) _
          refine XS.lstore X0.here hx rfl (hb hby at_62) rfl (l' := #[.val (.long j0), .second, .val (.long j1), .second, .val (.int i2), .val (.long (j0 &&& (9223372036854775807 : Int64))), .second, .val (.long (0 : Int64)), .second, .val (.long (f0_v20 j0 j1 i2)), .second, .val (.int (i2 &&& (3 : Int32))), .unset, .unset, .unset, .unset, .unset, .unset]) rfl ?_
          show Steps p.tables e below (s₁.setTop (mkF m 64 #[.val (.long j0), .second, .val (.long j1), .second, .val (.int i2), .val (.long (j0 &&& (9223372036854775807 : Int64))), .second, .val (.long (0 : Int64)), .second, .val (.long (f0_v20 j0 j1 i2)), .second, .val (.int (i2 &&& (3 : Int32))), .unset, .unset, .unset, .unset, .unset, .unset] [])) _
          refine XS.goto X0.here hx rfl (pc0 := 64) (pc' := 86) rfl (hb hby at_64) (by decide) (by decide) ?_
          show Steps p.tables e below (s₁.setTop (mkF m 86 #[.val (.long j0), .second, .val (.long j1), .second, .val (.int i2), .val (.long (j0 &&& (9223372036854775807 : Int64))), .second, .val (.long (0 : Int64)), .second, .val (.long (f0_v20 j0 j1 i2)), .second, .val (.int (i2 &&& (3 : Int32))), .unset, .unset, .unset, .unset, .unset, .unset] [])) _
          rw [show (f0_31_l7 j0 j1 i2) = (0 : Int64) from ((if_neg hc31).trans ((if_pos hc44).trans (if_neg hc51)))] at k
          exact k
      · refine XS.icmpYes X0.here hx rfl (pc0 := 44) (pc' := 67) rfl (hb hby at_44) rfl (feq hc44).2 (by decide) (by decide) ?_
        show Steps p.tables e below (s₁.setTop (mkF m 67 #[.val (.long j0), .second, .val (.long j1), .second, .val (.int i2), .val (.long (j0 &&& (9223372036854775807 : Int64))), .second, .val (.long (j1 &&& (9223372036854775807 : Int64))), .second, .val (.long (f0_v20 j0 j1 i2)), .second, .val (.int (i2 &&& (3 : Int32))), .unset, .unset, .unset, .unset, .unset, .unset] [])) _
        refine XS.iload X0.here hx rfl (hb hby at_67) rfl ?_
        show Steps p.tables e below (s₁.setTop (mkF m 69 #[.val (.long j0), .second, .val (.long j1), .second, .val (.int i2), .val (.long (j0 &&& (9223372036854775807 : Int64))), .second, .val (.long (j1 &&& (9223372036854775807 : Int64))), .second, .val (.long (f0_v20 j0 j1 i2)), .second, .val (.int (i2 &&& (3 : Int32))), .unset, .unset, .unset, .unset, .unset, .unset] [(.int (i2 &&& (3 : Int32)))])) _
        refine XS.iconst X0.here hx rfl (hb hby at_69) ?_
        show Steps p.tables e below (s₁.setTop (mkF m 70 #[.val (.long j0), .second, .val (.long j1), .second, .val (.int i2), .val (.long (j0 &&& (9223372036854775807 : Int64))), .second, .val (.long (j1 &&& (9223372036854775807 : Int64))), .second, .val (.long (f0_v20 j0 j1 i2)), .second, .val (.int (i2 &&& (3 : Int32))), .unset, .unset, .unset, .unset, .unset, .unset] [(.int (3 : Int32)), (.int (i2 &&& (3 : Int32)))])) _
        by_cases hc70 : (i2 &&& (3 : Int32)) = (3 : Int32)
        · refine XS.icmpNo X0.here hx rfl (hb hby at_70) rfl (teq hc70).2 ?_
          show Steps p.tables e below (s₁.setTop (mkF m 73 #[.val (.long j0), .second, .val (.long j1), .second, .val (.int i2), .val (.long (j0 &&& (9223372036854775807 : Int64))), .second, .val (.long (j1 &&& (9223372036854775807 : Int64))), .second, .val (.long (f0_v20 j0 j1 i2)), .second, .val (.int (i2 &&& (3 : Int32))), .unset, .unset, .unset, .unset, .unset, .unset] [])) _
          refine XS.lload X0.here hx rfl (hb hby at_73) rfl ?_
          show Steps p.tables e below (s₁.setTop (mkF m 75 #[.val (.long j0), .second, .val (.long j1), .second, .val (.int i2), .val (.long (j0 &&& (9223372036854775807 : Int64))), .second, .val (.long (j1 &&& (9223372036854775807 : Int64))), .second, .val (.long (f0_v20 j0 j1 i2)), .second, .val (.int (i2 &&& (3 : Int32))), .unset, .unset, .unset, .unset, .unset, .unset] [(.long (j0 &&& (9223372036854775807 : Int64)))])) _
          refine XS.lconst X0.here hx rfl (hb hby at_75) ?_
          show Steps p.tables e below (s₁.setTop (mkF m 76 #[.val (.long j0), .second, .val (.long j1), .second, .val (.int i2), .val (.long (j0 &&& (9223372036854775807 : Int64))), .second, .val (.long (j1 &&& (9223372036854775807 : Int64))), .second, .val (.long (f0_v20 j0 j1 i2)), .second, .val (.int (i2 &&& (3 : Int32))), .unset, .unset, .unset, .unset, .unset, .unset] [(.long (0 : Int64)), (.long (j0 &&& (9223372036854775807 : Int64)))])) _
          refine XS.lcmp X0.here hx rfl (hb hby at_76) rfl ?_
          show Steps p.tables e below (s₁.setTop (mkF m 77 #[.val (.long j0), .second, .val (.long j1), .second, .val (.int i2), .val (.long (j0 &&& (9223372036854775807 : Int64))), .second, .val (.long (j1 &&& (9223372036854775807 : Int64))), .second, .val (.long (f0_v20 j0 j1 i2)), .second, .val (.int (i2 &&& (3 : Int32))), .unset, .unset, .unset, .unset, .unset, .unset] [(.int (lcmpW (j0 &&& (9223372036854775807 : Int64)) (0 : Int64)))])) _
          by_cases hc77 : (0 : Int64) < (j0 &&& (9223372036854775807 : Int64))
          · refine XS.ifNo X0.here hx rfl (hb hby at_77) rfl ((if0 _ _).trans (tlt ((lw_gt _ _).mpr hc77)).2.2.2) ?_
            show Steps p.tables e below (s₁.setTop (mkF m 80 #[.val (.long j0), .second, .val (.long j1), .second, .val (.int i2), .val (.long (j0 &&& (9223372036854775807 : Int64))), .second, .val (.long (j1 &&& (9223372036854775807 : Int64))), .second, .val (.long (f0_v20 j0 j1 i2)), .second, .val (.int (i2 &&& (3 : Int32))), .unset, .unset, .unset, .unset, .unset, .unset] [])) _
            refine XS.lload X0.here hx rfl (hb hby at_80) rfl ?_
            show Steps p.tables e below (s₁.setTop (mkF m 82 #[.val (.long j0), .second, .val (.long j1), .second, .val (.int i2), .val (.long (j0 &&& (9223372036854775807 : Int64))), .second, .val (.long (j1 &&& (9223372036854775807 : Int64))), .second, .val (.long (f0_v20 j0 j1 i2)), .second, .val (.int (i2 &&& (3 : Int32))), .unset, .unset, .unset, .unset, .unset, .unset] [(.long (f0_v20 j0 j1 i2))])) _
            refine XS.lconst X0.here hx rfl (hb hby at_82) ?_
            show Steps p.tables e below (s₁.setTop (mkF m 83 #[.val (.long j0), .second, .val (.long j1), .second, .val (.int i2), .val (.long (j0 &&& (9223372036854775807 : Int64))), .second, .val (.long (j1 &&& (9223372036854775807 : Int64))), .second, .val (.long (f0_v20 j0 j1 i2)), .second, .val (.int (i2 &&& (3 : Int32))), .unset, .unset, .unset, .unset, .unset, .unset] [(.long (1 : Int64)), (.long (f0_v20 j0 j1 i2))])) _
            refine XS.ladd X0.here hx rfl (hb hby at_83) rfl ?_
            show Steps p.tables e below (s₁.setTop (mkF m 84 #[.val (.long j0), .second, .val (.long j1), .second, .val (.int i2), .val (.long (j0 &&& (9223372036854775807 : Int64))), .second, .val (.long (j1 &&& (9223372036854775807 : Int64))), .second, .val (.long (f0_v20 j0 j1 i2)), .second, .val (.int (i2 &&& (3 : Int32))), .unset, .unset, .unset, .unset, .unset, .unset] [(.long ((f0_v20 j0 j1 i2) + (1 : Int64)))])) _
            refine XS.lstore X0.here hx rfl (hb hby at_84) rfl (l' := #[.val (.long j0), .second, .val (.long j1), .second, .val (.int i2), .val (.long (j0 &&& (9223372036854775807 : Int64))), .second, .val (.long ((f0_v20 j0 j1 i2) + (1 : Int64))), .second, .val (.long (f0_v20 j0 j1 i2)), .second, .val (.int (i2 &&& (3 : Int32))), .unset, .unset, .unset, .unset, .unset, .unset]) rfl ?_
            show Steps p.tables e below (s₁.setTop (mkF m 86 #[.val (.long j0), .second, .val (.long j1), .second, .val (.int i2), .val (.long (j0 &&& (9223372036854775807 : Int64))), .second, .val (.long ((f0_v20 j0 j1 i2) + (1 : Int64))), .second, .val (.long (f0_v20 j0 j1 i2)), .second, .val (.int (i2 &&& (3 : Int32))), .unset, .unset, .unset, .unset, .unset, .unset] [])) _
            rw [show (f0_31_l7 j0 j1 i2) = ((f0_v20 j0 j1 i2) + (1 : Int64)) from ((if_neg hc31).trans ((if_neg hc44).trans ((if_pos hc70).trans (if_pos hc77))))] at k
            exact k
          · refine XS.ifYes X0.here hx rfl (pc0 := 77) (pc' := 86) rfl (hb hby at_77) rfl ((if0 _ _).trans (flt (fun q_ => hc77 ((lw_gt _ _).mp q_))).2.2.2) (by decide) (by decide) ?_
            show Steps p.tables e below (s₁.setTop (mkF m 86 #[.val (.long j0), .second, .val (.long j1), .second, .val (.int i2), .val (.long (j0 &&& (9223372036854775807 : Int64))), .second, .val (.long (j1 &&& (9223372036854775807 : Int64))), .second, .val (.long (f0_v20 j0 j1 i2)), .second, .val (.int (i2 &&& (3 : Int32))), .unset, .unset, .unset, .unset, .unset, .unset] [])) _
            rw [show (f0_31_l7 j0 j1 i2) = (j1 &&& (9223372036854775807 : Int64)) from ((if_neg hc31).trans ((if_neg hc44).trans ((if_pos hc70).trans (if_neg hc77))))] at k
            exact k
        · refine XS.icmpYes X0.here hx rfl (pc0 := 70) (pc' := 86) rfl (hb hby at_70) rfl (feq hc70).2 (by decide) (by decide) ?_
          show Steps p.tables e below (s₁.setTop (mkF m 86 #[.val (.long j0), .second, .val (.long j1), .second, .val (.int i2), .val (.long (j0 &&& (9223372036854775807 : Int64))), .second, .val (.long (j1 &&& (9223372036854775807 : Int64))), .second, .val (.long (f0_v20 j0 j1 i2)), .second, .val (.int (i2 &&& (3 : Int32))), .unset, .unset, .unset, .unset, .unset, .unset] [])) _
          rw [show (f0_31_l7 j0 j1 i2) = (j1 &&& (9223372036854775807 : Int64)) from ((if_neg hc31).trans ((if_neg hc44).trans (if_neg hc70)))] at k
          exact k
  refine Outs.of (U' := s₁.setTop (mkF m 108 #[.val (.long j0), .second, .val (.long j1), .second, .val (.int i2), .val (.long (j0 &&& (9223372036854775807 : Int64))), .second, .val (.long (f0_31_l7 j0 j1 i2)), .second, .val (.long (f0_v20 j0 j1 i2)), .second, .val (.int (i2 &&& (3 : Int32))), .val (.long (f0_v91 j0 j1 i2)), .second, .unset, .unset, .unset, .unset] [(.long (f0_97_s0 j0 j1 i2))])) (fun t k => ?_) ?_
  · refine XS.lload X0.here hx rfl (hb hby at_86) rfl ?_
    show Steps p.tables e below (s₁.setTop (mkF m 88 #[.val (.long j0), .second, .val (.long j1), .second, .val (.int i2), .val (.long (j0 &&& (9223372036854775807 : Int64))), .second, .val (.long (f0_31_l7 j0 j1 i2)), .second, .val (.long (f0_v20 j0 j1 i2)), .second, .val (.int (i2 &&& (3 : Int32))), .unset, .unset, .unset, .unset, .unset, .unset] [(.long (j0 &&& (9223372036854775807 : Int64)))])) _
    refine XS.lload X0.here hx rfl (hb hby at_88) rfl ?_
    show Steps p.tables e below (s₁.setTop (mkF m 90 #[.val (.long j0), .second, .val (.long j1), .second, .val (.int i2), .val (.long (j0 &&& (9223372036854775807 : Int64))), .second, .val (.long (f0_31_l7 j0 j1 i2)), .second, .val (.long (f0_v20 j0 j1 i2)), .second, .val (.int (i2 &&& (3 : Int32))), .unset, .unset, .unset, .unset, .unset, .unset] [(.long (f0_31_l7 j0 j1 i2)), (.long (j0 &&& (9223372036854775807 : Int64)))])) _
    refine XS.ladd X0.here hx rfl (hb hby at_90) rfl ?_
    show Steps p.tables e below (s₁.setTop (mkF m 91 #[.val (.long j0), .second, .val (.long j1), .second, .val (.int i2), .val (.long (j0 &&& (9223372036854775807 : Int64))), .second, .val (.long (f0_31_l7 j0 j1 i2)), .second, .val (.long (f0_v20 j0 j1 i2)), .second, .val (.int (i2 &&& (3 : Int32))), .unset, .unset, .unset, .unset, .unset, .unset] [(.long ((j0 &&& (9223372036854775807 : Int64)) + (f0_31_l7 j0 j1 i2)))])) _
    refine XS.lstore X0.here hx rfl (hb hby at_91) rfl (l' := #[.val (.long j0), .second, .val (.long j1), .second, .val (.int i2), .val (.long (j0 &&& (9223372036854775807 : Int64))), .second, .val (.long (f0_31_l7 j0 j1 i2)), .second, .val (.long (f0_v20 j0 j1 i2)), .second, .val (.int (i2 &&& (3 : Int32))), .val (.long (f0_v91 j0 j1 i2)), .second, .unset, .unset, .unset, .unset]) rfl ?_
    show Steps p.tables e below (s₁.setTop (mkF m 93 #[.val (.long j0), .second, .val (.long j1), .second, .val (.int i2), .val (.long (j0 &&& (9223372036854775807 : Int64))), .second, .val (.long (f0_31_l7 j0 j1 i2)), .second, .val (.long (f0_v20 j0 j1 i2)), .second, .val (.int (i2 &&& (3 : Int32))), .val (.long (f0_v91 j0 j1 i2)), .second, .unset, .unset, .unset, .unset] [])) _
    refine XS.lload X0.here hx rfl (hb hby at_93) rfl ?_
    show Steps p.tables e below (s₁.setTop (mkF m 95 #[.val (.long j0), .second, .val (.long j1), .second, .val (.int i2), .val (.long (j0 &&& (9223372036854775807 : Int64))), .second, .val (.long (f0_31_l7 j0 j1 i2)), .second, .val (.long (f0_v20 j0 j1 i2)), .second, .val (.int (i2 &&& (3 : Int32))), .val (.long (f0_v91 j0 j1 i2)), .second, .unset, .unset, .unset, .unset] [(.long (f0_v91 j0 j1 i2))])) _
    refine XS.lconst X0.here hx rfl (hb hby at_95) ?_
    show Steps p.tables e below (s₁.setTop (mkF m 96 #[.val (.long j0), .second, .val (.long j1), .second, .val (.int i2), .val (.long (j0 &&& (9223372036854775807 : Int64))), .second, .val (.long (f0_31_l7 j0 j1 i2)), .second, .val (.long (f0_v20 j0 j1 i2)), .second, .val (.int (i2 &&& (3 : Int32))), .val (.long (f0_v91 j0 j1 i2)), .second, .unset, .unset, .unset, .unset] [(.long (0 : Int64)), (.long (f0_v91 j0 j1 i2))])) _
    refine XS.lcmp X0.here hx rfl (hb hby at_96) rfl ?_
    show Steps p.tables e below (s₁.setTop (mkF m 97 #[.val (.long j0), .second, .val (.long j1), .second, .val (.int i2), .val (.long (j0 &&& (9223372036854775807 : Int64))), .second, .val (.long (f0_31_l7 j0 j1 i2)), .second, .val (.long (f0_v20 j0 j1 i2)), .second, .val (.int (i2 &&& (3 : Int32))), .val (.long (f0_v91 j0 j1 i2)), .second, .unset, .unset, .unset, .unset] [(.int (lcmpW (f0_v91 j0 j1 i2) (0 : Int64)))])) _
    by_cases hc97 : (f0_v91 j0 j1 i2) < (0 : Int64)
    · refine XS.ifNo X0.here hx rfl (hb hby at_97) rfl ((if0 _ _).trans (tlt ((lw_lt _ _).mpr hc97)).2.1) ?_
      show Steps p.tables e below (s₁.setTop (mkF m 100 #[.val (.long j0), .second, .val (.long j1), .second, .val (.int i2), .val (.long (j0 &&& (9223372036854775807 : Int64))), .second, .val (.long (f0_31_l7 j0 j1 i2)), .second, .val (.long (f0_v20 j0 j1 i2)), .second, .val (.int (i2 &&& (3 : Int32))), .val (.long (f0_v91 j0 j1 i2)), .second, .unset, .unset, .unset, .unset] [])) _
      refine X0.ldc2Long hx hown (mvT hZ (hw _ (List.mem_of_getElem? (i := 0) rfl))) (g := (mkF m 100 #[.val (.long j0), .second, .val (.long j1), .second, .val (.int i2), .val (.long (j0 &&& (9223372036854775807 : Int64))), .second, .val (.long (f0_31_l7 j0 j1 i2)), .second, .val (.long (f0_v20 j0 j1 i2)), .second, .val (.int (i2 &&& (3 : Int32))), .val (.long (f0_v91 j0 j1 i2)), .second, .unset, .unset, .unset, .unset] [])) rfl (hb hby at_100) _ ?_
      show Steps p.tables e below (s₁.setTop (mkF m 103 #[.val (.long j0), .second, .val (.long j1), .second, .val (.int i2), .val (.long (j0 &&& (9223372036854775807 : Int64))), .second, .val (.long (f0_31_l7 j0 j1 i2)), .second, .val (.long (f0_v20 j0 j1 i2)), .second, .val (.int (i2 &&& (3 : Int32))), .val (.long (f0_v91 j0 j1 i2)), .second, .unset, .unset, .unset, .unset] [(.long (9223372036854775807 : Int64))])) _
      refine XS.goto X0.here hx rfl (pc0 := 103) (pc' := 108) rfl (hb hby at_103) (by decide) (by decide) ?_
      show Steps p.tables e below (s₁.setTop (mkF m 108 #[.val (.long j0), .second, .val (.long j1), .second, .val (.int i2), .val (.long (j0 &&& (9223372036854775807 : Int64))), .second, .val (.long (f0_31_l7 j0 j1 i2)), .second, .val (.long (f0_v20 j0 j1 i2)), .second, .val (.int (i2 &&& (3 : Int32))), .val (.long (f0_v91 j0 j1 i2)), .second, .unset, .unset, .unset, .unset] [(.long (9223372036854775807 : Int64))])) _
      rw [show (f0_97_s0 j0 j1 i2) = (9223372036854775807 : Int64) from (if_pos hc97)] at k
      exact k
    · refine XS.ifYes X0.here hx rfl (pc0 := 97) (pc' := 106) rfl (hb hby at_97) rfl ((if0 _ _).trans (flt (fun q_ => hc97 ((lw_lt _ _).mp q_))).2.1) (by decide) (by decide) ?_
      show Steps p.tables e below (s₁.setTop (mkF m 106 #[.val (.long j0), .second, .val (.long j1), .second, .val (.int i2), .val (.long (j0 &&& (9223372036854775807 : Int64))), .second, .val (.long (f0_31_l7 j0 j1 i2)), .second, .val (.long (f0_v20 j0 j1 i2)), .second, .val (.int (i2 &&& (3 : Int32))), .val (.long (f0_v91 j0 j1 i2)), .second, .unset, .unset, .unset, .unset] [])) _
      refine XS.lload X0.here hx rfl (hb hby at_106) rfl ?_
      show Steps p.tables e below (s₁.setTop (mkF m 108 #[.val (.long j0), .second, .val (.long j1), .second, .val (.int i2), .val (.long (j0 &&& (9223372036854775807 : Int64))), .second, .val (.long (f0_31_l7 j0 j1 i2)), .second, .val (.long (f0_v20 j0 j1 i2)), .second, .val (.int (i2 &&& (3 : Int32))), .val (.long (f0_v91 j0 j1 i2)), .second, .unset, .unset, .unset, .unset] [(.long (f0_v91 j0 j1 i2))])) _
      rw [show (f0_97_s0 j0 j1 i2) = (f0_v91 j0 j1 i2) from (if_neg hc97)] at k
      exact k
  refine Outs.of (U' := s₁.setTop (mkF m 114 #[.val (.long j0), .second, .val (.long j1), .second, .val (.int i2), .val (.long (j0 &&& (9223372036854775807 : Int64))), .second, .val (.long (f0_31_l7 j0 j1 i2)), .second, .val (.long (f0_v20 j0 j1 i2)), .second, .val (.int (i2 &&& (3 : Int32))), .val (.long (f0_v91 j0 j1 i2)), .second, .val (.long (f0_97_s0 j0 j1 i2)), .second, .unset, .unset] [(.long (f0_31_l7 j0 j1 i2)), (.long (j0 &&& (9223372036854775807 : Int64)))])) (fun t k => ?_) ?_
  · refine XS.lstore X0.here hx rfl (hb hby at_108) rfl (l' := #[.val (.long j0), .second, .val (.long j1), .second, .val (.int i2), .val (.long (j0 &&& (9223372036854775807 : Int64))), .second, .val (.long (f0_31_l7 j0 j1 i2)), .second, .val (.long (f0_v20 j0 j1 i2)), .second, .val (.int (i2 &&& (3 : Int32))), .val (.long (f0_v91 j0 j1 i2)), .second, .val (.long (f0_97_s0 j0 j1 i2)), .second, .unset, .unset]) rfl ?_
    show Steps p.tables e below (s₁.setTop (mkF m 110 #[.val (.long j0), .second, .val (.long j1), .second, .val (.int i2), .val (.long (j0 &&& (9223372036854775807 : Int64))), .second, .val (.long (f0_31_l7 j0 j1 i2)), .second, .val (.long (f0_v20 j0 j1 i2)), .second, .val (.int (i2 &&& (3 : Int32))), .val (.long (f0_v91 j0 j1 i2)), .second, .val (.long (f0_97_s0 j0 j1 i2)), .second, .unset, .unset] [])) _
    refine XS.lload X0.here hx rfl (hb hby at_110) rfl ?_
    show Steps p.tables e below (s₁.setTop (mkF m 112 #[.val (.long j0), .second, .val (.long j1), .second, .val (.int i2), .val (.long (j0 &&& (9223372036854775807 : Int64))), .second, .val (.long (f0_31_l7 j0 j1 i2)), .second, .val (.long (f0_v20 j0 j1 i2)), .second, .val (.int (i2 &&& (3 : Int32))), .val (.long (f0_v91 j0 j1 i2)), .second, .val (.long (f0_97_s0 j0 j1 i2)), .second, .unset, .unset] [(.long (j0 &&& (9223372036854775807 : Int64)))])) _
    refine XS.lload X0.here hx rfl (hb hby at_112) rfl ?_
    show Steps p.tables e below (s₁.setTop (mkF m 114 #[.val (.long j0), .second, .val (.long j1), .second, .val (.int i2), .val (.long (j0 &&& (9223372036854775807 : Int64))), .second, .val (.long (f0_31_l7 j0 j1 i2)), .second, .val (.long (f0_v20 j0 j1 i2)), .second, .val (.int (i2 &&& (3 : Int32))), .val (.long (f0_v91 j0 j1 i2)), .second, .val (.long (f0_97_s0 j0 j1 i2)), .second, .unset, .unset] [(.long (f0_31_l7 j0 j1 i2)), (.long (j0 &&& (9223372036854775807 : Int64)))])) _
    exact k
  obtain ⟨_, _, ⟨T1, L1, k1, n1⟩, -, X1, ⟨Lc1, hQ1, l1, y1, z1⟩, st1⟩ := Jvm.LawKit.callS X0 hx (y := (⟨"com/example/ratatoskr/ratatoskr/NodeCounts", "plus", "(JJ)J"⟩ : MethodName)) hown (mvT hZ (hw _ (List.mem_of_getElem? (i := 1) rfl))) (mvT hZ (hw _ (List.mem_of_getElem? (i := 2) rfl))) (mvT hZ (hw _ (List.mem_of_getElem? (i := 3) rfl))) (mvT hZ (hw _ (List.mem_of_getElem? (i := 4) rfl))) (by decide) (backOf (W := 0) (rm1 l Z a0 hw [] (j0 &&& (9223372036854775807 : Int64)) (f0_31_l7 j0 j1 i2) h0 n0 ) hZ (hw _ (List.mem_of_getElem? (i := 4) rfl)) (hw _ (List.mem_of_getElem? (i := 3) rfl)) (by decide) (by decide)) (g := (mkF m 114 #[.val (.long j0), .second, .val (.long j1), .second, .val (.int i2), .val (.long (j0 &&& (9223372036854775807 : Int64))), .second, .val (.long (f0_31_l7 j0 j1 i2)), .second, .val (.long (f0_v20 j0 j1 i2)), .second, .val (.int (i2 &&& (3 : Int32))), .val (.long (f0_v91 j0 j1 i2)), .second, .val (.long (f0_97_s0 j0 j1 i2)), .second, .unset, .unset] [(.long (f0_31_l7 j0 j1 i2)), (.long (j0 &&& (9223372036854775807 : Int64)))])) rfl (by rw [hml]; rfl) (argsL := [(.long (j0 &&& (9223372036854775807 : Int64))), (.long (f0_31_l7 j0 j1 i2))]) (rest := []) (lenOf pd_0 rfl) rfl (by show 2 * 0 + _ ≤ _; exact Nat.le_of_eq rfl) (hb hby at_114) (fun _ _ => ⟨rfl, e0, (by decide : 0 + 0 ≤ _), (by decide : 0 + 0 ≤ _)⟩)
  dsimp only [Pt.U, Pt.locs, Pt.cells, Pt.slots] at X1 l1 y1 z1 st1 hQ1
  subst l1 y1 z1
  obtain ⟨rfl, N1q, e1⟩ := hQ1
  have N1 := Fr.app N0 N1q
  refine Outs.of st1 ?_
  show Outs p e below s _ _ _ (T1.setTop (mkF m 117 #[.val (.long j0), .second, .val (.long j1), .second, .val (.int i2), .val (.long (j0 &&& (9223372036854775807 : Int64))), .second, .val (.long (f0_31_l7 j0 j1 i2)), .second, .val (.long (f0_v20 j0 j1 i2)), .second, .val (.int (i2 &&& (3 : Int32))), .val (.long (f0_v91 j0 j1 i2)), .second, .val (.long (f0_97_s0 j0 j1 i2)), .second, .unset, .unset] [(.long (F_f1 (j0 &&& (9223372036854775807 : Int64)) (f0_31_l7 j0 j1 i2)))]))
  refine Outs.of (U' := T1.setTop (mkF m 132 #[.val (.long j0), .second, .val (.long j1), .second, .val (.int i2), .val (.long (j0 &&& (9223372036854775807 : Int64))), .second, .val (.long (f0_31_l7 j0 j1 i2)), .second, .val (.long (f0_v20 j0 j1 i2)), .second, .val (.int (i2 &&& (3 : Int32))), .val (.long (f0_v91 j0 j1 i2)), .second, .val (.long (f0_97_s0 j0 j1 i2)), .second, .val (.long (f0_v117 j0 j1 i2)), .second] [(.int (f0_124_s0 j0 j1 i2))])) (fun t k => ?_) ?_
  · refine XS.lstore X1.here hx rfl (hb hby at_117) rfl (l' := #[.val (.long j0), .second, .val (.long j1), .second, .val (.int i2), .val (.long (j0 &&& (9223372036854775807 : Int64))), .second, .val (.long (f0_31_l7 j0 j1 i2)), .second, .val (.long (f0_v20 j0 j1 i2)), .second, .val (.int (i2 &&& (3 : Int32))), .val (.long (f0_v91 j0 j1 i2)), .second, .val (.long (f0_97_s0 j0 j1 i2)), .second, .val (.long (f0_v117 j0 j1 i2)), .second]) rfl ?_
    show Steps p.tables e below (T1.setTop (mkF m 119 #[.val (.long j0), .second, .val (.long j1), .second, .val (.int i2), .val (.long (j0 &&& (9223372036854775807 : Int64))), .second, .val (.long (f0_31_l7 j0 j1 i2)), .second, .val (.long (f0_v20 j0 j1 i2)), .second, .val (.int (i2 &&& (3 : Int32))), .val (.long (f0_v91 j0 j1 i2)), .second, .val (.long (f0_97_s0 j0 j1 i2)), .second, .val (.long (f0_v117 j0 j1 i2)), .second] [])) _
    refine XS.lload X1.here hx rfl (hb hby at_119) rfl ?_
    show Steps p.tables e below (T1.setTop (mkF m 121 #[.val (.long j0), .second, .val (.long j1), .second, .val (.int i2), .val (.long (j0 &&& (9223372036854775807 : Int64))), .second, .val (.long (f0_31_l7 j0 j1 i2)), .second, .val (.long (f0_v20 j0 j1 i2)), .second, .val (.int (i2 &&& (3 : Int32))), .val (.long (f0_v91 j0 j1 i2)), .second, .val (.long (f0_97_s0 j0 j1 i2)), .second, .val (.long (f0_v117 j0 j1 i2)), .second] [(.long (f0_v117 j0 j1 i2))])) _
    refine XS.lload X1.here hx rfl (hb hby at_121) rfl ?_
    show Steps p.tables e below (T1.setTop (mkF m 123 #[.val (.long j0), .second, .val (.long j1), .second, .val (.int i2), .val (.long (j0 &&& (9223372036854775807 : Int64))), .second, .val (.long (f0_31_l7 j0 j1 i2)), .second, .val (.long (f0_v20 j0 j1 i2)), .second, .val (.int (i2 &&& (3 : Int32))), .val (.long (f0_v91 j0 j1 i2)), .second, .val (.long (f0_97_s0 j0 j1 i2)), .second, .val (.long (f0_v117 j0 j1 i2)), .second] [(.long (f0_97_s0 j0 j1 i2)), (.long (f0_v117 j0 j1 i2))])) _
    refine XS.lcmp X1.here hx rfl (hb hby at_123) rfl ?_
    show Steps p.tables e below (T1.setTop (mkF m 124 #[.val (.long j0), .second, .val (.long j1), .second, .val (.int i2), .val (.long (j0 &&& (9223372036854775807 : Int64))), .second, .val (.long (f0_31_l7 j0 j1 i2)), .second, .val (.long (f0_v20 j0 j1 i2)), .second, .val (.int (i2 &&& (3 : Int32))), .val (.long (f0_v91 j0 j1 i2)), .second, .val (.long (f0_97_s0 j0 j1 i2)), .second, .val (.long (f0_v117 j0 j1 i2)), .second] [(.int (lcmpW (f0_v117 j0 j1 i2) (f0_97_s0 j0 j1 i2)))])) _
    by_cases hc124 : (f0_v117 j0 j1 i2) = (f0_97_s0 j0 j1 i2)
    · refine XS.ifNo X1.here hx rfl (hb hby at_124) rfl ((if0 _ _).trans (teq ((lw_eq _ _).mpr hc124)).2) ?_
      show Steps p.tables e below (T1.setTop (mkF m 127 #[.val (.long j0), .second, .val (.long j1), .second, .val (.int i2), .val (.long (j0 &&& (9223372036854775807 : Int64))), .second, .val (.long (f0_31_l7 j0 j1 i2)), .second, .val (.long (f0_v20 j0 j1 i2)), .second, .val (.int (i2 &&& (3 : Int32))), .val (.long (f0_v91 j0 j1 i2)), .second, .val (.long (f0_97_s0 j0 j1 i2)), .second, .val (.long (f0_v117 j0 j1 i2)), .second] [])) _
      refine XS.iconst X1.here hx rfl (hb hby at_127) ?_
      show Steps p.tables e below (T1.setTop (mkF m 128 #[.val (.long j0), .second, .val (.long j1), .second, .val (.int i2), .val (.long (j0 &&& (9223372036854775807 : Int64))), .second, .val (.long (f0_31_l7 j0 j1 i2)), .second, .val (.long (f0_v20 j0 j1 i2)), .second, .val (.int (i2 &&& (3 : Int32))), .val (.long (f0_v91 j0 j1 i2)), .second, .val (.long (f0_97_s0 j0 j1 i2)), .second, .val (.long (f0_v117 j0 j1 i2)), .second] [(.int (1 : Int32))])) _
      refine XS.goto X1.here hx rfl (pc0 := 128) (pc' := 132) rfl (hb hby at_128) (by decide) (by decide) ?_
      show Steps p.tables e below (T1.setTop (mkF m 132 #[.val (.long j0), .second, .val (.long j1), .second, .val (.int i2), .val (.long (j0 &&& (9223372036854775807 : Int64))), .second, .val (.long (f0_31_l7 j0 j1 i2)), .second, .val (.long (f0_v20 j0 j1 i2)), .second, .val (.int (i2 &&& (3 : Int32))), .val (.long (f0_v91 j0 j1 i2)), .second, .val (.long (f0_97_s0 j0 j1 i2)), .second, .val (.long (f0_v117 j0 j1 i2)), .second] [(.int (1 : Int32))])) _
      rw [show (f0_124_s0 j0 j1 i2) = (1 : Int32) from (if_pos hc124)] at k
      exact k
    · refine XS.ifYes X1.here hx rfl (pc0 := 124) (pc' := 131) rfl (hb hby at_124) rfl ((if0 _ _).trans (feq (fun q_ => hc124 ((lw_eq _ _).mp q_))).2) (by decide) (by decide) ?_
      show Steps p.tables e below (T1.setTop (mkF m 131 #[.val (.long j0), .second, .val (.long j1), .second, .val (.int i2), .val (.long (j0 &&& (9223372036854775807 : Int64))), .second, .val (.long (f0_31_l7 j0 j1 i2)), .second, .val (.long (f0_v20 j0 j1 i2)), .second, .val (.int (i2 &&& (3 : Int32))), .val (.long (f0_v91 j0 j1 i2)), .second, .val (.long (f0_97_s0 j0 j1 i2)), .second, .val (.long (f0_v117 j0 j1 i2)), .second] [])) _
      refine XS.iconst X1.here hx rfl (hb hby at_131) ?_
      show Steps p.tables e below (T1.setTop (mkF m 132 #[.val (.long j0), .second, .val (.long j1), .second, .val (.int i2), .val (.long (j0 &&& (9223372036854775807 : Int64))), .second, .val (.long (f0_31_l7 j0 j1 i2)), .second, .val (.long (f0_v20 j0 j1 i2)), .second, .val (.int (i2 &&& (3 : Int32))), .val (.long (f0_v91 j0 j1 i2)), .second, .val (.long (f0_97_s0 j0 j1 i2)), .second, .val (.long (f0_v117 j0 j1 i2)), .second] [(.int (0 : Int32))])) _
      rw [show (f0_124_s0 j0 j1 i2) = (0 : Int32) from (if_neg hc124)] at k
      exact k
  exact Outs.retN (t := .boolean) (z := (f0_124_s0 j0 j1 i2)) X1 hx hret (by simp) (hb hby at_132) hlk (by decide) (by decide) e1 ⟨congrArg (fun z_ => some (Value.int z_)) (law_true j0 j1 i2), N1⟩
set_option maxRecDepth 65536 in
set_option maxHeartbeats 40000000 in
theorem comes_1 {Post : Tables → Env → Array Value → State → Outcome → State → Prop} (hpost : ∀ tb e args s v u, (limb_1_1.after args s (.returned v) u = true ∧ limb_1_2.after args s (.returned v) u = true ∧ True) → FrameEnd s (.returned v) u (Jvm.fieldLocs frame_1_writes args s ++ Jvm.arrayLocs frame_1_arrays args s ++ Jvm.staticLocs frame_1_statics s) 0 0 → Post tb e args s (.returned v) u) :
    ArmFor flags0 classFile x code maxLocals ret World_1 tables_1 room_1 Calls_1 rest_1 Pre_1 Post := by
  intro l hfl _ _ p e ha hc hk s m args below hf hA hF happ hP
  obtain ⟨hcalls, hrest, hpre⟩ := hP
  obtain ⟨-, -, -, hnamed, -, -, -, hat⟩ := (Spec.applies_iff hf).mp happ
  obtain ⟨hg, hn⟩ := and_e (Cond.before_iff.mp (show (Jvm.Cond.and given_1 narrow_1).before args s = true from hpre))
  obtain ⟨g1, g2⟩ := and_e hg
  obtain ⟨g3, g4⟩ := and_e g2
  obtain ⟨g5, g6⟩ := and_e g4
  obtain ⟨w0, w1, w2, rfl⟩ : ∃ w0 w1 w2 : Value, args = #[w0, w1, w2] := by
    have hs : args.size = 3 := by simpa [Cond.value, given_1] using g1
    obtain ⟨L⟩ := args
    match L, hs with
    | [w0, w1, w2], _ => exact ⟨w0, w1, w2, rfl⟩
  have hw := fun d (hd : d ∈ tables_1) => atoms_spec (ws := Jvm.Cond.code x code maxLocals ret :: tables_1) hat d (List.mem_cons_of_mem _ hd)
  obtain ⟨i0, ei0⟩ := isL_v g3
  obtain rfl : w0 = (.long i0) := Option.some.inj ei0
  obtain ⟨i1, ei1⟩ := isL_v g5
  obtain rfl : w1 = (.long i1) := Option.some.inj ei1
  obtain ⟨i2, ei2⟩ := is_v g6
  obtain rfl : w2 = (.int i2) := Option.some.inj ei2
  obtain ⟨n, o, h1, h2, h3, v, L, rfl, hQ0, hq⟩ := rm0 l s _ hw tables_1 i0 i1 i2 s.heap s.heap.size  p e ha hc hk s m _ below hf ((Spec.applies_iff_loose hf).mp happ).1 ⟨rfl, State.Warmed39.refl s, rfl⟩ trivial
  obtain ⟨rfl, N⟩ : v = some (.int 1) ∧ Fr s.heap.size L := hQ0
  refine ⟨n, _, h1, h2, h3, hpost _ _ _ _ _ _ ⟨Cond.after_iff.mpr rfl, Cond.after_iff.mpr (eq_i res_at (Term.int_eval (1)) rfl), trivial⟩ ⟨hq.1, hq.2.1, (hq.2.2.sift fun y hy => Or.inr (N y hy)).mono (by decide) (by decide)⟩⟩
theorem main_1_1 : Claimed_1_1 := comes_1 fun _ _ _ _ _ _ h hF => ⟨h.1, hF⟩
theorem main_1_2 : Claimed_1_2 := comes_1 fun _ _ _ _ _ _ h hF => ⟨h.2.1, hF⟩
end Jvm.Pilot.@@N@@
namespace Jvm.Pilot.@@N@@
open Jvm Jvm.ClassFile Sem Op Lib Jvm.Free Jvm.Stand Jvm.Pilot.@@N@@.Jvm.D
/-! MADE BY PROGRAM (witnessworld.py) out of the Statement's table words and the real class files: 9 classes; the members and pool entries that the words name. The judged class is class 1, her method 1. -/
namespace start1
open Jvm.ClassFile
def u (s : String) : CpInfo := .utf8 (stringToUtf16 s)
/-- a pool by its gaps: so many unusable entries, then the entry; so many at the end -/
def gap : Nat → List CpInfo → List CpInfo
  | 0, r => r
  | n + 1, r => .unusable :: gap n r
def poolList (es : List (Nat × CpInfo)) (last : Nat) : List CpInfo := es.foldr (fun e r => gap e.1 (e.2 :: r)) (gap last [])
def pool (es : List (Nat × CpInfo)) (last : Nat) : Array CpInfo := ⟨poolList es last⟩
def fileOf (pool : Array CpInfo) (this : Nat) (attrs : Array Attribute := #[]) (ms : Array MethodInfo := #[]) (fl : Nat := 33) (sup : Nat := 0) (ifs : Array Nat := #[]) (fds : Array FieldInfo := #[]) : ClassFile where
  minorVersion := 0
  majorVersion := 65
  constantPool := pool
  accessFlags := fl
  thisClass := this
  superClass := sup
  interfaces := ifs
  fields := fds
  methods := ms
  attributes := attrs
def plain (name : String) (sup : Option ClassId) : Class where
  name := name
  kind := .ordinary
  loader := none
  accessFlags := 33
  super := sup
  interfaces := #[]
  cf := none
  fields := #[]
  methods := #[]
  instanceTypes := #[]
  staticTypes := #[]
  resolved := #[]
  callSites := []
  init := .initialized
  statics := none
  mirror := none

def pool0 : Array CpInfo := pool [(5, u "<init>"), (0, u "()V"), (1, .class_ 10), (1, u "java/lang/Object")] 113

def k0m0 : Method := { name := "<init>", desc := "()V", sig := { parameters := [], returnType := none }, accessFlags := 1, code := none }
/-- java/lang/Object -/
def k0 : Class := { plain "java/lang/Object" none with
  accessFlags := 33
  interfaces := #[]
  cf := some (fileOf pool0 8 #[] #[{ accessFlags := 1, nameIndex := 5, descriptorIndex := 6, attributes := #[] }] 33 0 #[] #[])
  fields := #[]
  methods := #[k0m0]
  instanceTypes := #[]
  staticTypes := #[]
  resolved := Array.replicate 124 none
  statics := none }

def pool1 : Array CpInfo := pool [(2, .class_ 4), (1, u "java/lang/Object"), (0, u "<init>"), (0, u "()V"), (2, .long 9223372036854775807), (1, .methodref 12 13), (0, .class_ 14), (0, .nameAndType 15 16), (0, u "com/example/ratatoskr/ratatoskr/NodeCounts"), (0, u "plus"), (0, u "(JJ)J"), (0, .class_ 18), (0, u "com/example/ratatoskr/ratatoskr/NodeCountsPlusPinLaw"), (2, u "law"), (0, u "(JJI)Z")] 3

def k1m0 : Method := { name := "<init>", desc := "()V", sig := { parameters := [], returnType := none }, accessFlags := 2, code := none }
def k1c1 : Code := { maxStack := 4, maxLocals := 18, code := code, exceptionTable := #[], attributes := #[] }
def k1m1 : Method := { name := "law", desc := "(JJI)Z", sig := { parameters := [.long, .long, .int], returnType := some .boolean }, accessFlags := 9, code := some k1c1 }
/-- com/example/ratatoskr/ratatoskr/NodeCountsPlusPinLaw -/
def k1 : Class := { plain "com/example/ratatoskr/ratatoskr/NodeCountsPlusPinLaw" (some 0) with
  accessFlags := 49
  interfaces := #[]
  cf := some (fileOf pool1 17 #[] #[{ accessFlags := 2, nameIndex := 5, descriptorIndex := 6, attributes := #[] }, { accessFlags := 9, nameIndex := 21, descriptorIndex := 22, attributes := #[] }] 49 2 #[] #[])
  fields := #[]
  methods := #[k1m0, k1m1]
  instanceTypes := #[]
  staticTypes := #[]
  resolved := Array.replicate 26 none
  statics := none }

def pool2 : Array CpInfo := pool [(2, .class_ 4), (1, u "java/lang/Object"), (0, u "<init>"), (0, u "()V"), (2, .long 9223372036854775807), (1, .class_ 12), (0, u "com/example/ratatoskr/ratatoskr/NodeCounts"), (2, u "plus"), (0, u "(JJ)J")] 3

def k2m0 : Method := { name := "<init>", desc := "()V", sig := { parameters := [], returnType := none }, accessFlags := 2, code := none }
def k2c1 : Code := { maxStack := 6, maxLocals := 4, code := prog_22_method_2_code, exceptionTable := #[], attributes := #[] }
def k2m1 : Method := { name := "plus", desc := "(JJ)J", sig := { parameters := [.long, .long], returnType := some .long }, accessFlags := 8, code := some k2c1 }
/-- com/example/ratatoskr/ratatoskr/NodeCounts -/
def k2 : Class := { plain "com/example/ratatoskr/ratatoskr/NodeCounts" (some 0) with
  accessFlags := 48
  interfaces := #[]
  cf := some (fileOf pool2 11 #[] #[{ accessFlags := 2, nameIndex := 5, descriptorIndex := 6, attributes := #[] }, { accessFlags := 8, nameIndex := 15, descriptorIndex := 16, attributes := #[] }] 48 2 #[] #[])
  fields := #[]
  methods := #[k2m0, k2m1]
  instanceTypes := #[]
  staticTypes := #[]
  resolved := Array.replicate 20 none
  statics := none }

def pool3 : Array CpInfo := pool [(1, u "java/lang/Cloneable"), (0, .class_ 1), (0, u "java/lang/Object"), (0, .class_ 3)] 3

/-- java/lang/Cloneable -/
def k3 : Class := { plain "java/lang/Cloneable" (some 0) with
  accessFlags := 1537
  interfaces := #[]
  cf := some (fileOf pool3 2 #[] #[] 1537 4 #[] #[])
  fields := #[]
  methods := #[]
  instanceTypes := #[]
  staticTypes := #[]
  resolved := Array.replicate 8 none
  statics := none }

def pool4 : Array CpInfo := pool [(1, u "java/io/Serializable"), (0, .class_ 1), (0, u "java/lang/Object"), (0, .class_ 3)] 3

/-- java/io/Serializable -/
def k4 : Class := { plain "java/io/Serializable" (some 0) with
  accessFlags := 1537
  interfaces := #[]
  cf := some (fileOf pool4 2 #[] #[] 1537 4 #[] #[])
  fields := #[]
  methods := #[]
  instanceTypes := #[]
  staticTypes := #[]
  resolved := Array.replicate 8 none
  statics := none }

/-- the primitive byte -/
def k5 : Class := { plain "byte" none with kind := .primitive 'B', accessFlags := 0x411 }
/-- [B -/
def k6 : Class := { plain "[B" (some 0) with kind := .array 5 .byte, interfaces := #[3, 4], accessFlags := 1041 }

/-- the primitive int -/
def k7 : Class := { plain "int" none with kind := .primitive 'I', accessFlags := 0x411 }
/-- [I -/
def k8 : Class := { plain "[I" (some 0) with kind := .array 7 .int, interfaces := #[3, 4], accessFlags := 1041 }

def heap : Heap := #[]
def classes : Array Class := #[k0, k1, k2, k3, k4, k5, k6, k7, k8]
def interned : List (Array UInt16 × Addr) := []
def slotsUsed : Nat := 0
def theMethod : MethodId := ⟨1, 1⟩
def args0 : Array Value := #[.long 5, .long 7, .int 1]
def aboutOver (below : List Frame) : State where
  vm := { classes := classes, interned := interned.toArray }
  heap := heap
  slotsUsed := slotsUsed
  threads := #[{ frames := .invoking theMethod args0 :: below }]
def below0 : List Frame := [.native { method := ⟨0, 0⟩, args := #[] }]
def about1 : State := aboutOver below0
def p0 : Program := .bare "" "" ""
def e0 : Env := launch0.env 0 0 0
theorem w_frames : about1.frames = Frame.invoking theMethod args0 :: below0 := rfl
set_option maxRecDepth 65536 in
theorem w_args : argsFit about1.vm theMethod args0 = true := by decide +kernel
set_option maxRecDepth 65536 in
theorem w_heap : heapFits about1 = true := by decide +kernel
set_option maxRecDepth 65536 in
theorem w_runnable : about1.curStatus? = some .runnable := by decide +kernel
set_option maxRecDepth 65536 in
theorem w_alone : about1.alone = true := by decide +kernel
set_option maxRecDepth 65536 in
theorem w_named : about1.methodNamed? x = some theMethod := by decide +kernel
set_option maxRecDepth 65536 in
theorem w_hears : about1.hears theMethod below0 = true := by decide +kernel
set_option maxRecDepth 65536 in
theorem w_ripe : about1.ripe theMethod args0 below0 = true := by decide +kernel
theorem w_running : about1.status = .running := rfl
set_option maxRecDepth 65536 in
theorem w_room : about1.hasRoom e0.platform room_1 = true :=
  launch0.hasRoom_least _ room_1 (by decide +kernel) (by decide +kernel) (by decide +kernel) (by decide +kernel) (by decide +kernel) (by decide +kernel)
theorem allAtoms_all (ts : List Jvm.Cond) (a : Array Jvm.Value) (st : Jvm.State) : (allAtoms ts).before a st = ts.all (fun c => c.before a st) := by
  induction ts with
  | nil => rfl
  | cons c t ih =>
    show (Jvm.Cond.and c (allAtoms t)).before a st = _
    rw [Jvm.Cond.before_and, ih, List.all_cons]
def words1 : List Jvm.Cond := Jvm.Cond.code x code maxLocals ret :: tables_1
/-- a 'code' word, met by the world's own term for the bytes: nothing is compared byte by byte -/
theorem code_word {y : MethodName} {bytes : ByteArray} {mx : Nat} {rt : Option FieldType} {a : Array Value} {s : State} {m : MethodId} {meth : Method} {c : Code} (h1 : s.methodNamed? y = some m) (h2 : s.vm.method? m = some meth) (h3 : meth.code = some c) (h4 : c.code = bytes)
    (h5 : (c.maxLocals == mx && c.exceptionTable.isEmpty && decide (c.maxStack ≤ mostOperands) && decide (meth.sig.returnType = rt) && !meth.locks && decide (parseMethodDescriptor y.desc = some meth.sig)) = true) : (Jvm.Cond.code y bytes mx rt).before a s = true := by
  simp only [Bool.and_eq_true, beq_iff_eq, Bool.not_eq_true', decide_eq_true_eq] at h5
  obtain ⟨⟨⟨⟨⟨g1, g2⟩, g3⟩, g4⟩, g5⟩, g6⟩ := h5
  simp [Cond.before, Cond.holds, Cond.value, h1, h2, h3, h4, g1, g2, g3, g4, g5, g6]
def isCode : Jvm.Cond → Bool
  | .code _ _ _ _ => true
  | _ => false
theorem all_split {L : List Jvm.Cond} {P : Jvm.Cond → Bool} (h1 : L.all (fun c => isCode c || P c) = true) (h2 : ∀ c ∈ L.filter isCode, P c = true) : L.all P = true := by
  refine List.all_eq_true.mpr fun c hc => ?_
  have h := List.all_eq_true.mp h1 c hc
  rcases Bool.eq_false_or_eq_true (isCode c) with hi | hi
  · exact h2 c (List.mem_filter.mpr ⟨hc, hi⟩)
  · simpa [hi] using h
set_option maxRecDepth 65536 in
theorem w_c0 : (Jvm.Cond.code x code maxLocals ret).before args0 about1 = true := code_word (m := ⟨1, 1⟩) (meth := k1m1) (c := k1c1) (by decide +kernel) rfl rfl rfl (by decide +kernel)
set_option maxRecDepth 65536 in
theorem w_c1 : (Jvm.Cond.code ({ cls := "com/example/ratatoskr/ratatoskr/NodeCounts", name := "plus", desc := "(JJ)J" } : Jvm.MethodName) prog_22_method_2_code (4 : Nat) (Option.some Jvm.ClassFile.FieldType.long)).before args0 about1 = true := code_word (m := ⟨2, 1⟩) (meth := k2m1) (c := k2c1) (by decide +kernel) rfl rfl rfl (by decide +kernel)
def codes1 : List Jvm.Cond := [Jvm.Cond.code x code maxLocals ret, Jvm.Cond.code ({ cls := "com/example/ratatoskr/ratatoskr/NodeCounts", name := "plus", desc := "(JJ)J" } : Jvm.MethodName) prog_22_method_2_code (4 : Nat) (Option.some Jvm.ClassFile.FieldType.long)]
set_option maxRecDepth 65536 in
theorem codes_eq : words1.filter isCode = codes1 := rfl
theorem w_codes : ∀ c ∈ words1.filter isCode, c.before args0 about1 = true := by
  rw [codes_eq]
  intro c hc
  simp only [codes1, List.mem_cons, List.not_mem_nil, or_false] at hc
  rcases hc with rfl | rfl
  · exact w_c0
  · exact w_c1
set_option maxRecDepth 65536 in
theorem w_t1 : words1.all (fun c => isCode c || c.before args0 about1) = true := by decide +kernel
theorem w_tables : (allAtoms (Jvm.Cond.code x code maxLocals ret :: tables_1)).before args0 about1 = true := by
  rw [allAtoms_all]
  show words1.all (fun c => c.before args0 about1) = true
  refine all_split ?_ w_codes
  rw [w_t1]
set_option maxRecDepth 65536 in
theorem w_case : (Jvm.Cond.and given_1 narrow_1).before args0 about1 = true := by decide +kernel
theorem w_applies : (headSpec (Jvm.Cond.code x code maxLocals ret :: tables_1) room_1).applies x e0.platform about1 = true :=
  (Spec.applies_iff w_frames).mpr ⟨w_running, w_runnable, w_alone, w_named, w_hears, w_ripe, w_room, w_tables⟩
theorem atStart : AtStart classFile x code maxLocals ret World_1 tables_1 room_1 Calls_1 rest_1 Pre_1 launch0 p0 e0 about1 theMethod args0 below0 :=
  ⟨lists_1, trivial, launch0.admits_env _ _ _, launch0.least_env, fairChoices_fair.cas, fairChoices_fair.clock, w_frames, w_args, w_heap, w_applies, trivial, trivial, w_case⟩
end start1
theorem witness_1 : WitnessClaimed_1 := ⟨start1.p0, start1.e0, start1.about1, start1.theMethod, start1.args0, start1.below0, start1.atStart⟩
end Jvm.Pilot.@@N@@
