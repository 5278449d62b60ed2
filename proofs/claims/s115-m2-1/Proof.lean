import JvmDerived
import JvmDerived.Pilot.@@N@@Statement
import JvmDerived.Pilot.@@N@@Code
set_option linter.unusedVariables false
set_option linter.unusedSimpArgs false
namespace Jvm.RoadKit
open Sem ClassFile Op Lib Jvm.Stand Jvm.Free Jvm.LawKit
section Own
variable {p : Program} {l : Launch} {e : Env} {R : Room} {s : State} {m : MethodId} {args : Array Value} {below : List Frame} {meth : Method} {c : Code} {T : State} {locs : List Loc} {cells slots : Nat}
/-- from U the run ends, and Q holds of what it returns -/
def Outs (p : Program) (e : Env) (below : List Frame) (s : State) (Q : Option Value → Heap → List Loc → Prop) (C S : Nat) (U : State) : Prop :=
  ∃ s₂ o, Steps p.tables e below U s₂ ∧ s₂.status = .running ∧ Ended s₂ below o ∧ ∃ v L, o = .returned v ∧ Q v s₂.heap L ∧ FrameEnd s o s₂ L C S
variable {Q : Option Value → Heap → List Loc → Prop} {C S : Nat}
theorem Outs.of {U U' : State} (h : ∀ t, Steps p.tables e below U' t → Steps p.tables e below U t) (k : Outs p e below s Q C S U') : Outs p e below s Q C S U := by
  obtain ⟨t, o, st, r⟩ := k
  exact ⟨t, o, h t st, r⟩
theorem Outs.to {U U' : State} (h : Steps p.tables e below U U') (k : Outs p e below s Q C S U') : Outs p e below s Q C S U := by
  obtain ⟨t, o, st, r⟩ := k
  exact ⟨t, o, h.trans st, r⟩
theorem Outs.mono {U : State} {Q' : Option Value → Heap → List Loc → Prop} (k : Outs p e below s Q C S U) (h : ∀ v h L, Q v h L → Q' v h L) : Outs p e below s Q' C S U := by
  obtain ⟨t, o, st, h1, h2, v, L, h3, h4, h5⟩ := k
  exact ⟨t, o, st, h1, h2, v, L, h3, h _ _ _ h4, h5⟩
theorem Outs.ret (X : Stand p l e R s m args below meth c T locs cells slots) {g : JFrame} {v : Option Value} (hv : meth.sig.returnType = none → v = none) (hlk : meth.locks = false) (hC : cells ≤ C) (hS : slots ≤ S)
    (st : ∀ fs, (∀ (f : JFrame) (acts : List Action), f.method = m → f.locked = none → f.entered = [] → (doReturn e (T.setTop f) acts v).1 = T.setFrames fs) → Steps p.tables e below (T.setTop g) (T.setFrames fs))
    {h : Heap} (eT : T.heap = h) (q : Q v h locs) : Outs p e below s Q C S (T.setTop g) := by
  subst eT
  obtain ⟨fs, hr, hrun, hended, hW, hsame⟩ := X.leave (v := v) hv hlk
  exact ⟨_, _, st fs hr, hrun, hended, v, locs, rfl, q, ⟨_, rfl⟩, hW, hsame.mono hC hS⟩
theorem Outs.retI (X : Stand p l e R s m args below meth c T locs cells slots) (hx : p.tables.exec = Jvm.exec) {pc : Nat} {Ls : Array Slot} {z : Int32} {rest : List Value} (hret : meth.sig.returnType = some .int) (hd : decode c.code pc = .ok (.ireturn, 1)) (hlk : meth.locks = false) (hC : cells ≤ C) (hS : slots ≤ S)
    {h : Heap} (eT : T.heap = h) (q : Q (some (.int z)) h locs) : Outs p e below s Q C S (T.setTop (mkF m pc Ls (.int z :: rest))) :=
  Outs.ret X (fun h => by rw [hret] at h; cases h) hlk hC hS (fun fs hl => retOut X hx hret rfl (Or.inl ⟨rfl, Or.inl rfl, z, rfl⟩) hd hl) eT q
theorem Outs.retL (X : Stand p l e R s m args below meth c T locs cells slots) (hx : p.tables.exec = Jvm.exec) {pc : Nat} {Ls : Array Slot} {z : Int64} {rest : List Value} (hret : meth.sig.returnType = some .long) (hd : decode c.code pc = .ok (.lreturn, 1)) (hlk : meth.locks = false) (hC : cells ≤ C) (hS : slots ≤ S)
    {h : Heap} (eT : T.heap = h) (q : Q (some (.long z)) h locs) : Outs p e below s Q C S (T.setTop (mkF m pc Ls (.long z :: rest))) :=
  Outs.ret X (fun h => by rw [hret] at h; cases h) hlk hC hS (fun fs hl => retOut X hx hret rfl (Or.inr (Or.inl ⟨rfl, rfl, z, rfl⟩)) hd hl) eT q
theorem Outs.retN (X : Stand p l e R s m args below meth c T locs cells slots) (hx : p.tables.exec = Jvm.exec) {pc : Nat} {Ls : Array Slot} {z : Int32} {t : FieldType} {rest : List Value} (hret : meth.sig.returnType = some t) (ht : t = .boolean ∨ t = .byte ∨ t = .char ∨ t = .short) (hd : decode c.code pc = .ok (.ireturn, 1)) (hlk : meth.locks = false) (hC : cells ≤ C) (hS : slots ≤ S)
    {h : Heap} (eT : T.heap = h) (q : Q (some (.int (nar t z))) h locs) : Outs p e below s Q C S (T.setTop (mkF m pc Ls (.int z :: rest))) :=
  Outs.ret X (fun h => by rw [hret] at h; cases h) hlk hC hS (fun fs hl => Jvm.RoadKit.retN X hx hret ht hd hl) eT q
theorem Outs.retV (X : Stand p l e R s m args below meth c T locs cells slots) (hx : p.tables.exec = Jvm.exec) {pc : Nat} {Ls : Array Slot} (hret : meth.sig.returnType = none) (hd : decode c.code pc = .ok (.return_, 1)) (hlk : meth.locks = false) (hC : cells ≤ C) (hS : slots ≤ S)
    {h : Heap} (eT : T.heap = h) (q : Q none h locs) : Outs p e below s Q C S (T.setTop (mkF m pc Ls [])) :=
  Outs.ret X (fun _ => rfl) hlk hC hS (fun fs hl => X.returnOut hx hret hd hl) eT q
theorem Outs.retA (X : Stand p l e R s m args below meth c T locs cells slots) (hx : p.tables.exec = Jvm.exec) {pc : Nat} {Ls : Array Slot} {w : Value} {t : FieldType} {rest : List Value} (hret : meth.sig.returnType = some t) (ht : t.isReference = true) (hw : w.isRef = true) (hn : narrow t w = w) (hd : decode c.code pc = .ok (.areturn, 1)) (hlk : meth.locks = false) (hC : cells ≤ C) (hS : slots ≤ S)
    {h : Heap} (eT : T.heap = h) (q : Q (some w) h locs) : Outs p e below s Q C S (T.setTop (mkF m pc Ls (w :: rest))) :=
  Outs.ret X (fun h => by rw [hret] at h; cases h) hlk hC hS (fun fs hl => retOut X hx hret hn (Or.inr (Or.inr (Or.inr (Or.inr ⟨rfl, ht, hw⟩)))) hd hl) eT q
theorem lremM {g : JFrame} {target : State} (X : Stand p l e R s m args below meth c T locs cells slots) (hx : p.tables.exec = Jvm.exec) (hg : g.method = m) {x y : Int64} {rest : List Value} (hd : decode c.code g.pc = .ok (.lrem, 1)) (hs : g.stack = .long y :: .long x :: rest) (hy : y ≠ 0)
    (hr : Steps p.tables e below (T.setTop { g with pc := g.pc + 1, stack := .long (x % y) :: rest }) target) : Steps p.tables e below (T.setTop g) target :=
  XS.lrem X.here hx hg hd hs hy (by rw [lrem_mod]; exact hr)
/-- a body that returns v and leaves the heap as it was -/
def QR (z : Option Value) (h0 : Heap) (n0 : Nat) (v : Option Value) (h : Heap) (L : List Loc) : Prop := v = z ∧ Fr n0 L ∧ h = h0
/-- the law's own -/
def QL (n0 : Nat) (v : Option Value) (h : Heap) (L : List Loc) : Prop := v = some (.int 1) ∧ Fr n0 L
end Own
end Jvm.RoadKit
namespace Jvm.RoadKit
open Sem ClassFile Op Lib Jvm.Stand Jvm.Free Jvm.LawKit
section OwnHeap
variable {p : Program} {l : Launch} {e : Env} {R : Room} {s : State} {m : MethodId} {args : Array Value} {below : List Frame} {meth : Method} {c : Code} {T : State} {locs : List Loc} {cells slots : Nat} {Z : State} {a0 : Array Value} {h h' : Heap} {a b : Addr} {ty : FieldType} {n : Nat}
def upd {α : Type} (g : Nat → α) (k : Nat) (v : α) : Nat → α := fun j => if j = k then v else g j
theorem upd_same {α : Type} (g : Nat → α) (k : Nat) (v : α) : upd g k v k = v := if_pos rfl
theorem upd_ne {α : Type} (g : Nat → α) {k j : Nat} (v : α) (q : j ≠ k) : upd g k v j = g j := if_neg q
/-- an array of n places; place j holds f j -/
def AF (Z : State) (h : Heap) (a : Addr) (ty : FieldType) (n : Nat) (f : Nat → Value) : Prop :=
  ∃ c : Cell, Arr Z h a c ty ∧ c.slots.size = n ∧ n < 2147483648 ∧ ∀ j, j < n → c.slots[j]? = some (f j)
def AI (Z : State) (h : Heap) (a : Addr) (ty : FieldType) (n : Nat) (g : Nat → Int32) : Prop := AF Z h a ty n (fun j => .int (g j))
def AJ (Z : State) (h : Heap) (a : Addr) (ty : FieldType) (n : Nat) (g : Nat → Int64) : Prop := AF Z h a ty n (fun j => .long (g j))
theorem AF.lt {f : Nat → Value} (F : AF Z h a ty n f) : a < h.size := by obtain ⟨c, A, -⟩ := F; exact A.lt
theorem AF.ext {f : Nat → Value} (F : AF Z h a ty n f) (E : Ext h h') : AF Z h' a ty n f := by obtain ⟨c, A, r⟩ := F; exact ⟨c, A.ext E, r⟩
theorem AF.other {f : Nat → Value} {sl : Nat} {v : Value} (F : AF Z h b ty n f) (W : Wr h h' a sl v) (q : b ≠ a) : AF Z h' b ty n f := by obtain ⟨c, A, r⟩ := F; exact ⟨c, A.other W q, r⟩
theorem AF.keep {f : Nat → Value} {ws : List Addr} (F : AF Z h a ty n f) (K : Keep h h' ws) (q : a ∉ ws) : AF Z h' a ty n f := by obtain ⟨c, A, r⟩ := F; exact ⟨c, ⟨K.2.1 a c A.1 q, A.2⟩, r⟩
theorem AF.len {f : Nat → Value} (F : AF Z h a ty n f) : n < 2147483648 := by obtain ⟨c, A, -, M, -⟩ := F; exact M
theorem AF.cong {f f' : Nat → Value} (F : AF Z h a ty n f) (q : ∀ j, j < n → f j = f' j) : AF Z h a ty n f' := by
  obtain ⟨c, A, S, M, G⟩ := F
  exact ⟨c, A, S, M, fun j hj => by rw [← q j hj]; exact G j hj⟩
theorem AI.cong {g g' : Nat → Int32} (F : AI Z h a ty n g) (q : ∀ j, j < n → g j = g' j) : AI Z h a ty n g' := AF.cong F fun j hj => by rw [q j hj]
theorem AJ.cong {g g' : Nat → Int64} (F : AJ Z h a ty n g) (q : ∀ j, j < n → g j = g' j) : AJ Z h a ty n g' := AF.cong F fun j hj => by rw [q j hj]
theorem own_nat {j : Int32} {k : Nat} (hk : j.toInt = k) : j.toNatClampNeg = k := by
  show j.toInt.toNat = k
  rw [hk]; rfl
theorem own_in {cl : Cell} {j : Int32} {k : Nat} (S : cl.slots.size = n) (hk : j.toInt = k) (hn : k < n) : ¬ (j < 0 ∨ cl.slots.size ≤ j.toNatClampNeg) := by
  rw [own_nat hk, S, Int32.lt_iff_toInt_lt, hk]
  have : (0 : Int32).toInt = 0 := rfl
  omega
theorem AF.set {f : Nat → Value} {k : Nat} {v : Value} (F : AF Z h a ty n f) (W : Wr h h' a k v) : AF Z h' a ty n (upd f k v) := by
  obtain ⟨c, A, S, M, G⟩ := F
  refine ⟨c.setSlot k v, A.same W, by rw [sz_set]; exact S, M, fun j hj => ?_⟩
  have hz : j < c.slots.size := by omega
  simp only [Cell.setSlot, upd, Array.getElem?_setIfInBounds]
  by_cases q : j = k
  · subst q; simp [hz]
  · rw [if_neg (Ne.symm q), if_neg q]; exact G j hj
theorem AI.set {g : Nat → Int32} {k : Nat} {x : Int32} (F : AI Z h a ty n g) (W : Wr h h' a k (.int x)) : AI Z h' a ty n (upd g k x) :=
  AF.cong (AF.set F W) fun j _ => by simp only [upd]; split <;> rfl
theorem AJ.set {g : Nat → Int64} {k : Nat} {x : Int64} (F : AJ Z h a ty n g) (W : Wr h h' a k (.long x)) : AJ Z h' a ty n (upd g k x) :=
  AF.cong (AF.set F W) fun j _ => by simp only [upd]; split <;> rfl
theorem AF.fresh {k : ClassId} {z : Int32} {i : Nat} (A : Arr Z h a (newA k ty z) ty) (q : z.toInt = i) : AF Z h a ty i (fun _ => defaultValue ty) := by
  have S : (newA k ty z).slots.size = i := by rw [sz_new, own_nat q]
  refine ⟨_, A, S, ?_, fun j hj => ?_⟩
  · have := z.toInt_lt; omega
  · have hz : j < (newA k ty z).slots.size := by omega
    simp only [newA] at hz ⊢
    rw [Array.getElem?_eq_getElem hz]; simp
section Loads
theorem ldI (X : Stand p l e R s m args below meth c T locs cells slots) (hx : p.tables.exec = Jvm.exec) (hZ : Z.Warmed39 s.vm) (eT : T.heap = h) {g : Nat → Int32} (F : AI Z h a .int n g) {j : Int32} {k : Nat} (hk : j.toInt = k) (hn : k < n) {f : JFrame} (hg : f.method = m) {rest : List Value} (hs : f.stack = .int j :: .ref a :: rest) (hd : decode c.code f.pc = .ok (.iaload, 1)) :
    ∀ target, Steps p.tables e below (T.setTop { f with pc := f.pc + 1, stack := .int (g k) :: rest }) target → Steps p.tables e below (T.setTop f) target := by
  obtain ⟨cl, A, S, M, G⟩ := F
  intro target kt
  exact X.iaload hx (by rw [eT]; exact A.1) (State.isArrayOf_alike hZ.alike A.2.1) A.2.2 (own_in S hk hn) (by rw [own_nat hk]; exact G k hn) hg hs hd target kt
theorem ldB (X : Stand p l e R s m args below meth c T locs cells slots) (hx : p.tables.exec = Jvm.exec) (hZ : Z.Warmed39 s.vm) (eT : T.heap = h) {g : Nat → Int32} (F : AI Z h a .byte n g) {j : Int32} {k : Nat} (hk : j.toInt = k) (hn : k < n) {f : JFrame} (hg : f.method = m) {rest : List Value} (hs : f.stack = .int j :: .ref a :: rest) (hd : decode c.code f.pc = .ok (.baload, 1)) :
    ∀ target, Steps p.tables e below (T.setTop { f with pc := f.pc + 1, stack := .int (g k) :: rest }) target → Steps p.tables e below (T.setTop f) target := by
  obtain ⟨cl, A, S, M, G⟩ := F
  intro target kt
  exact X.baloadBytes hx (by rw [eT]; exact A.1) (State.isArrayOf_alike hZ.alike A.2.1) A.2.2 (own_in S hk hn) (by rw [own_nat hk]; exact G k hn) hg hs hd target kt
theorem ldJ (X : Stand p l e R s m args below meth c T locs cells slots) (hx : p.tables.exec = Jvm.exec) (hZ : Z.Warmed39 s.vm) (eT : T.heap = h) {g : Nat → Int64} (F : AJ Z h a .long n g) {j : Int32} {k : Nat} (hk : j.toInt = k) (hn : k < n) {f : JFrame} (hg : f.method = m) {rest : List Value} (hs : f.stack = .int j :: .ref a :: rest) (hd : decode c.code f.pc = .ok (.laload, 1)) :
    ∀ target, Steps p.tables e below (T.setTop { f with pc := f.pc + 1, stack := .long (g k) :: rest }) target → Steps p.tables e below (T.setTop f) target := by
  obtain ⟨cl, A, S, M, G⟩ := F
  intro target kt
  exact X.laload hx (by rw [eT]; exact A.1) (State.isArrayOf_alike hZ.alike A.2.1) A.2.2 (own_in S hk hn) (by rw [own_nat hk]; exact G k hn) hg hs hd target kt
theorem ldR (X : Stand p l e R s m args below meth c T locs cells slots) (hx : p.tables.exec = Jvm.exec) (hZ : Z.Warmed39 s.vm) (eT : T.heap = h) {g : Nat → Value} (F : AF Z h a ty n g) (hty : ty.isReference = true) {j : Int32} {k : Nat} (hk : j.toInt = k) (hn : k < n) {f : JFrame} (hg : f.method = m) {rest : List Value} (hs : f.stack = .int j :: .ref a :: rest) (hd : decode c.code f.pc = .ok (.aaload, 1)) :
    ∀ target, Steps p.tables e below (T.setTop { f with pc := f.pc + 1, stack := g k :: rest }) target → Steps p.tables e below (T.setTop f) target := by
  obtain ⟨cl, A, S, M, G⟩ := F
  intro target kt
  exact X.aaload hx (by rw [eT]; exact A.1) (State.isArrayOf_alike hZ.alike A.2.1) hty A.2.2 (own_in S hk hn) (by rw [own_nat hk]; exact G k hn) hg hs hd target kt
theorem alen (X : Stand p l e R s m args below meth c T locs cells slots) (hx : p.tables.exec = Jvm.exec) (hZ : Z.Warmed39 s.vm) (eT : T.heap = h) {g : Nat → Value} (F : AF Z h a ty n g) {z : Int32} (hz : z.toInt = n) {f : JFrame} (hg : f.method = m) {rest : List Value} (hs : f.stack = .ref a :: rest) (hd : decode c.code f.pc = .ok (.arraylength, 1)) :
    ∀ target, Steps p.tables e below (T.setTop { f with pc := f.pc + 1, stack := .int z :: rest }) target → Steps p.tables e below (T.setTop f) target := by
  obtain ⟨cl, A, S, M, G⟩ := F
  intro target kt
  have h0 : ¬ z < 0 := by
    rw [Int32.lt_iff_toInt_lt, hz]
    have : (0 : Int32).toInt = 0 := rfl
    omega
  have q : cl.slots.size.toInt32 = z := by rw [S, ← own_nat hz]; exact (back32 h0).1
  refine X.arraylength hx (by rw [eT]; exact A.1) (State.isArrayOf_alike hZ.alike A.2.1) hg hs hd target ?_
  rw [q]; exact kt
end Loads
section Stores
theorem puI (X : Stand p l e R s m args below meth c T locs cells slots) (hx : p.tables.exec = Jvm.exec) (hZ : Z.Warmed39 s.vm) (eT : T.heap = h) {g : Nat → Int32} (F : AI Z h a .int n g) {j x : Int32} {k : Nat} (hk : j.toInt = k) (hn : k < n) {f : JFrame} (hg : f.method = m) {rest : List Value} (hs : f.stack = .int x :: .int j :: .ref a :: rest) (hd : decode c.code f.pc = .ok (.iastore, 1)) :
    ∃ T' h', Stand p l e R s m args below meth c T' (locs ++ [⟨a, k⟩]) cells slots ∧ T'.heap = h' ∧ Wr h h' a k (.int x) ∧ AI Z h' a .int n (upd g k x) ∧ ∀ target, Steps p.tables e below (T'.setTop { f with pc := f.pc + 1, stack := rest }) target → Steps p.tables e below (T.setTop f) target := by
  obtain ⟨cl, A, S, M, G⟩ := id F
  obtain ⟨T', h', X', e', W, st⟩ := stI X hx hZ eT A (j := j) (own_in S hk hn) hg hs hd
  rw [own_nat hk] at X' W
  exact ⟨T', h', X', e', W, AI.set F W, st⟩
theorem puB (X : Stand p l e R s m args below meth c T locs cells slots) (hx : p.tables.exec = Jvm.exec) (hZ : Z.Warmed39 s.vm) (eT : T.heap = h) {g : Nat → Int32} (F : AI Z h a .byte n g) {j x : Int32} {k : Nat} (hk : j.toInt = k) (hn : k < n) {f : JFrame} (hg : f.method = m) {rest : List Value} (hs : f.stack = .int x :: .int j :: .ref a :: rest) (hd : decode c.code f.pc = .ok (.bastore, 1)) :
    ∃ T' h', Stand p l e R s m args below meth c T' (locs ++ [⟨a, k⟩]) cells slots ∧ T'.heap = h' ∧ Wr h h' a k (.int x.toInt8.toInt32) ∧ AI Z h' a .byte n (upd g k x.toInt8.toInt32) ∧ ∀ target, Steps p.tables e below (T'.setTop { f with pc := f.pc + 1, stack := rest }) target → Steps p.tables e below (T.setTop f) target := by
  obtain ⟨cl, A, S, M, G⟩ := id F
  obtain ⟨T', h', X', e', W, st⟩ := stB X hx hZ eT A (j := j) (own_in S hk hn) hg hs hd
  rw [own_nat hk] at X' W
  exact ⟨T', h', X', e', W, AI.set F W, st⟩
theorem puJ (X : Stand p l e R s m args below meth c T locs cells slots) (hx : p.tables.exec = Jvm.exec) (hZ : Z.Warmed39 s.vm) (eT : T.heap = h) {g : Nat → Int64} (F : AJ Z h a .long n g) {j : Int32} {x : Int64} {k : Nat} (hk : j.toInt = k) (hn : k < n) {f : JFrame} (hg : f.method = m) {rest : List Value} (hs : f.stack = .long x :: .int j :: .ref a :: rest) (hd : decode c.code f.pc = .ok (.lastore, 1)) :
    ∃ T' h', Stand p l e R s m args below meth c T' (locs ++ [⟨a, k⟩]) cells slots ∧ T'.heap = h' ∧ Wr h h' a k (.long x) ∧ AJ Z h' a .long n (upd g k x) ∧ ∀ target, Steps p.tables e below (T'.setTop { f with pc := f.pc + 1, stack := rest }) target → Steps p.tables e below (T.setTop f) target := by
  obtain ⟨cl, A, S, M, G⟩ := id F
  obtain ⟨T', h', X', e', W, st⟩ := stJ X hx hZ eT A (j := j) (own_in S hk hn) hg hs hd
  rw [own_nat hk] at X' W
  exact ⟨T', h', X', e', W, AJ.set F W, st⟩
theorem puR (X : Stand p l e R s m args below meth c T locs cells slots) (hx : p.tables.exec = Jvm.exec) (hZ : Z.Warmed39 s.vm) (eT : T.heap = h) {g : Nat → Value} (F : AF Z h a ty n g) (hty : ty.isReference = true) {j : Int32} {x : Value} (O : Sto Z h a x) {k : Nat} (hk : j.toInt = k) (hn : k < n) {f : JFrame} (hg : f.method = m) {rest : List Value} (hs : f.stack = x :: .int j :: .ref a :: rest) (hd : decode c.code f.pc = .ok (.aastore, 1)) :
    ∃ T' h', Stand p l e R s m args below meth c T' (locs ++ [⟨a, k⟩]) cells slots ∧ T'.heap = h' ∧ Wr h h' a k x ∧ AF Z h' a ty n (upd g k x) ∧ ∀ target, Steps p.tables e below (T'.setTop { f with pc := f.pc + 1, stack := rest }) target → Steps p.tables e below (T.setTop f) target := by
  obtain ⟨cl, A, S, M, G⟩ := id F
  obtain ⟨T', h', X', e', W, st⟩ := stR X hx hZ eT A (j := j) (own_in S hk hn) hty O hg hs hd
  rw [own_nat hk] at X' W
  exact ⟨T', h', X', e', W, AF.set F W, st⟩
theorem newAF (X : Stand p l e R s m args below meth c T locs cells slots) (hx : p.tables.exec = Jvm.exec) (hZ : Z.Warmed39 s.vm) {aty : ArrayType} (w : (Cond.arrayClass (newarray.typeOf aty)).before a0 Z = true) (eT : T.heap = h) {f : JFrame} (hg : f.method = m) (hd : decode c.code f.pc = .ok (.newarray aty, 2)) {z : Int32} {rest : List Value} (hs : f.stack = .int z :: rest)
    {k : Nat} (hk : z.toInt = k) {cap : Nat} (hcap : k ≤ cap) (hb : cap * 8 ≤ 536870912) (hc : cells + 1 ≤ R.cells) (hl : slots + cap ≤ R.slots) :
    ∃ T' h', Stand p l e R s m args below meth c T' locs (cells + 1) (slots + cap) ∧ T'.heap = h' ∧ Ext h h' ∧ AF Z h' h.size (newarray.typeOf aty) k (fun _ => defaultValue (newarray.typeOf aty)) ∧
      ∀ target, Steps p.tables e below (T'.setTop { f with pc := f.pc + 2, stack := .ref h.size :: rest }) target → Steps p.tables e below (T.setTop f) target := by
  have h0 : ¬ z < 0 := by
    rw [Int32.lt_iff_toInt_lt, hk]
    have : (0 : Int32).toInt = 0 := rfl
    omega
  obtain ⟨T', h', cA, X', e', E, A, st⟩ := newP X hx hZ w eT hg hd hs h0 (cap := cap) (by rw [own_nat hk]; exact hcap) hb hc hl
  exact ⟨T', h', X', e', E, AF.fresh A hk, st⟩
end Stores
theorem own_selects {args' : Array Value} {U : State} {y : MethodName} {k : Nat} (wi : (Cond.instantiable y.cls k).before args' U = true) (hpriv : U.PrivateAt y) (hinst : (Cond.instanceMethod y).before args' U = true) (hy : y.cls ≠ "java/lang/invoke/MethodHandle" ∧ y.cls ≠ "java/lang/invoke/VarHandle") : (Cond.selects y.cls y y).before args' U = true := by
  obtain ⟨c1, k1, i1, i2, -, i3, -⟩ := Cond.instantiable_spec wi
  have hni : k1.isInterface = false := by cases q : k1.isInterface <;> simp [q] at i3 ⊢
  exact Jvm.Stand.selects_self_of_private i1 i2 hni hpriv hinst hy
theorem isRef_cat {w : Value} (q : w.isRef = true) : w.category = 1 := by
  rcases ref_cases q with rfl | ⟨x, rfl⟩ <;> rfl
theorem mem1 {α : Type} (x : α) (L : List α) : x ∈ x :: L := List.mem_cons_self
theorem mem2 {α : Type} (x y : α) (L : List α) : x ∈ y :: x :: L := List.mem_cons_of_mem _ List.mem_cons_self
end OwnHeap
end Jvm.RoadKit
namespace Jvm.Pilot.@@N@@
open Jvm Jvm.ClassFile Sem Op Lib Jvm.Free Jvm.Stand Jvm.LawKit Jvm.RoadKit Bundle Jvm.Pilot.@@N@@.Jvm.D
theorem ef_1 (m : MethodId) (x0 : Int64) (x1 : Int32) (x2 : Int64) (x3 : Int32) : entryFrame m #[(.long x0), (.int x1), (.long x2), (.int x3)] 6 = mkF m 0 #[.val (.long x0), .second, .val (.int x1), .val (.long x2), .second, .val (.int x3)] [] := by first | (simp [entryFrame, mkF, argsToLocals, Value.category]; done) | rfl
theorem d1_0 : decode prog_74_method_2_code 0 = .ok (.lload_n 0, 1) := by decide +kernel
theorem d1_1 : decode prog_74_method_2_code 1 = .ok (.lload_n 3, 1) := by decide +kernel
theorem d1_2 : decode prog_74_method_2_code 2 = .ok (.lcmp, 1) := by decide +kernel
theorem d1_3 : decode prog_74_method_2_code 3 = .ok (.ifCond .gt 18, 3) := by decide +kernel
theorem d1_21 : decode prog_74_method_2_code 21 = .ok (.iconst 1, 1) := by decide +kernel
theorem d1_22 : decode prog_74_method_2_code 22 = .ok (.goto 4, 3) := by decide +kernel
theorem d1_6 : decode prog_74_method_2_code 6 = .ok (.lload_n 0, 1) := by decide +kernel
theorem d1_7 : decode prog_74_method_2_code 7 = .ok (.lload_n 3, 1) := by decide +kernel
theorem d1_8 : decode prog_74_method_2_code 8 = .ok (.lcmp, 1) := by decide +kernel
theorem d1_9 : decode prog_74_method_2_code 9 = .ok (.ifCond .ne 16, 3) := by decide +kernel
theorem d1_12 : decode prog_74_method_2_code 12 = .ok (.iload_n 2, 1) := by decide +kernel
theorem d1_13 : decode prog_74_method_2_code 13 = .ok (.ifCond .eq 8, 3) := by decide +kernel
theorem d1_16 : decode prog_74_method_2_code 16 = .ok (.iload 5, 2) := by decide +kernel
theorem d1_18 : decode prog_74_method_2_code 18 = .ok (.ifCond .ne 7, 3) := by decide +kernel
theorem d1_25 : decode prog_74_method_2_code 25 = .ok (.iconst 0, 1) := by decide +kernel
theorem d1_26 : decode prog_74_method_2_code 26 = .ok (.ireturn, 1) := by decide +kernel
theorem pn_1 : plainName "com/example/palimpsest/palimpsest/sql/KeyRange" = true := by first | (simp [plainName, overriddenIn]; done) | decide +kernel
def f1_3_s0 (j0 : Int64) (i1 : Int32) (j2 : Int64) (i3 : Int32) : Int32 := (if j2 < j0 then (1 : Int32) else (if j0 = j2 then (if i1 = (0 : Int32) then (1 : Int32) else (if i3 = (0 : Int32) then (1 : Int32) else (0 : Int32))) else (0 : Int32)))
def F_f1 (j0 : Int64) (i1 : Int32) (j2 : Int64) (i3 : Int32) : Int32 := (nar .boolean (f1_3_s0 j0 i1 j2 i3))
set_option maxRecDepth 65536 in
set_option maxHeartbeats 40000000 in
theorem rm1 (l : Launch) (Z : State) (a0 : Array Value) (hw : ∀ d ∈ tables_1, d.before a0 Z = true) (ws : List Jvm.Cond) (j0 : Int64) (i1 : Int32) (j2 : Int64) (i3 : Int32)  (h0 : Heap) (n0 : Nat)  :
    MetFree l (⟨"com/example/palimpsest/palimpsest/sql/KeyRange", "isEmpty", "(JZJZ)Z"⟩ : MethodName) (head1 (Jvm.Cond.code (⟨"com/example/palimpsest/palimpsest/sql/KeyRange", "isEmpty", "(JZJZ)Z"⟩ : MethodName) prog_74_method_2_code 6 (some .boolean) :: ws) ({ frames := 0, cells := 0, slots := 0, locals := 0 } : Room)) (fun a U => a = #[(.long j0), (.int i1), (.long j2), (.int i3)] ∧ Z.Warmed39 U.vm ∧ U.heap = h0) (fun _ _ _ _ _ => True) (fun _ U o U' => ∃ v L, o = .returned v ∧ QR (some (.int (F_f1 j0 i1 j2 i3))) h0 n0 v U'.heap L ∧ FrameEnd U o U' L ({ frames := 0, cells := 0, slots := 0, locals := 0 } : Room).cells ({ frames := 0, cells := 0, slots := 0, locals := 0 } : Room).slots) := by
  refine MetFree.of_bodySF (plainFor_of_name pn_1) hisR ?_
  intro p e s m args below meth c s₁ Bd hml0 hP hK
  obtain ⟨rfl, hZ, hh⟩ := hP
  have hx := Bd.exec
  have hby := Bd.bytes
  have hml : c.maxLocals = 6 := hml0
  have hown : s.vm.findClass "com/example/palimpsest/palimpsest/sql/KeyRange" = some m.cls := findClass_of_methodNamed Bd.named
  have hnm := (name_of_methodNamed Bd.named Bd.method).1
  have hret := Bd.returns
  have hlk : meth.locks = false := BodyLoose.notSynchronized Bd
  have X0 : Stand p l e ({ frames := 0, cells := 0, slots := 0, locals := 0 } : Room) s m #[(.long j0), (.int i1), (.long j2), (.int i3)] below meth c s₁ [] 0 0 := Stand.of_body Bd
  have e0 : s₁.heap = h0 := by rw [← hh, Bd.state]; rfl
  have N0 := Fr.nil n0
  show Outs p e below s (QR (some (.int (F_f1 j0 i1 j2 i3))) h0 n0) _ _ _
  refine Outs.of (U' := s₁.setTop (mkF m 0 #[.val (.long j0), .second, .val (.int i1), .val (.long j2), .second, .val (.int i3)] [])) (fun t k => castTop (ef_1 m j0 i1 j2 i3) k) ?_
  refine Outs.of (U' := s₁.setTop (mkF m 26 #[.val (.long j0), .second, .val (.int i1), .val (.long j2), .second, .val (.int i3)] [(.int (f1_3_s0 j0 i1 j2 i3))])) (fun t k => ?_) ?_
  · refine XS.lloadN X0.here hx rfl (hb hby d1_0) rfl ?_
    show Steps p.tables e below (s₁.setTop (mkF m 1 #[.val (.long j0), .second, .val (.int i1), .val (.long j2), .second, .val (.int i3)] [(.long j0)])) _
    refine XS.lloadN X0.here hx rfl (hb hby d1_1) rfl ?_
    show Steps p.tables e below (s₁.setTop (mkF m 2 #[.val (.long j0), .second, .val (.int i1), .val (.long j2), .second, .val (.int i3)] [(.long j2), (.long j0)])) _
    refine XS.lcmp X0.here hx rfl (hb hby d1_2) rfl ?_
    show Steps p.tables e below (s₁.setTop (mkF m 3 #[.val (.long j0), .second, .val (.int i1), .val (.long j2), .second, .val (.int i3)] [(.int (lcmpW j0 j2))])) _
    by_cases hc3 : j2 < j0
    · refine XS.ifYes X0.here hx rfl (pc0 := 3) (pc' := 21) rfl (hb hby d1_3) rfl ((if0 _ _).trans (tlt ((lw_gt _ _).mpr hc3)).2.2.1) (by decide) (by decide) ?_
      show Steps p.tables e below (s₁.setTop (mkF m 21 #[.val (.long j0), .second, .val (.int i1), .val (.long j2), .second, .val (.int i3)] [])) _
      refine XS.iconst X0.here hx rfl (hb hby d1_21) ?_
      show Steps p.tables e below (s₁.setTop (mkF m 22 #[.val (.long j0), .second, .val (.int i1), .val (.long j2), .second, .val (.int i3)] [(.int (1 : Int32))])) _
      refine XS.goto X0.here hx rfl (pc0 := 22) (pc' := 26) rfl (hb hby d1_22) (by decide) (by decide) ?_
      show Steps p.tables e below (s₁.setTop (mkF m 26 #[.val (.long j0), .second, .val (.int i1), .val (.long j2), .second, .val (.int i3)] [(.int (1 : Int32))])) _
      rw [show (f1_3_s0 j0 i1 j2 i3) = (1 : Int32) from (if_pos hc3)] at k
      exact k
    · refine XS.ifNo X0.here hx rfl (hb hby d1_3) rfl ((if0 _ _).trans (flt (fun q_ => hc3 ((lw_gt _ _).mp q_))).2.2.1) ?_
      show Steps p.tables e below (s₁.setTop (mkF m 6 #[.val (.long j0), .second, .val (.int i1), .val (.long j2), .second, .val (.int i3)] [])) _
      refine XS.lloadN X0.here hx rfl (hb hby d1_6) rfl ?_
      show Steps p.tables e below (s₁.setTop (mkF m 7 #[.val (.long j0), .second, .val (.int i1), .val (.long j2), .second, .val (.int i3)] [(.long j0)])) _
      refine XS.lloadN X0.here hx rfl (hb hby d1_7) rfl ?_
      show Steps p.tables e below (s₁.setTop (mkF m 8 #[.val (.long j0), .second, .val (.int i1), .val (.long j2), .second, .val (.int i3)] [(.long j2), (.long j0)])) _
      refine XS.lcmp X0.here hx rfl (hb hby d1_8) rfl ?_
      show Steps p.tables e below (s₁.setTop (mkF m 9 #[.val (.long j0), .second, .val (.int i1), .val (.long j2), .second, .val (.int i3)] [(.int (lcmpW j0 j2))])) _
      by_cases hc9 : j0 = j2
      · refine XS.ifNo X0.here hx rfl (hb hby d1_9) rfl ((if0 _ _).trans (teq ((lw_eq _ _).mpr hc9)).2) ?_
        show Steps p.tables e below (s₁.setTop (mkF m 12 #[.val (.long j0), .second, .val (.int i1), .val (.long j2), .second, .val (.int i3)] [])) _
        refine XS.iloadN X0.here hx rfl (hb hby d1_12) rfl ?_
        show Steps p.tables e below (s₁.setTop (mkF m 13 #[.val (.long j0), .second, .val (.int i1), .val (.long j2), .second, .val (.int i3)] [(.int i1)])) _
        by_cases hc13 : i1 = (0 : Int32)
        · refine XS.ifYes X0.here hx rfl (pc0 := 13) (pc' := 21) rfl (hb hby d1_13) rfl ((if0 _ _).trans (teq hc13).1) (by decide) (by decide) ?_
          show Steps p.tables e below (s₁.setTop (mkF m 21 #[.val (.long j0), .second, .val (.int i1), .val (.long j2), .second, .val (.int i3)] [])) _
          refine XS.iconst X0.here hx rfl (hb hby d1_21) ?_
          show Steps p.tables e below (s₁.setTop (mkF m 22 #[.val (.long j0), .second, .val (.int i1), .val (.long j2), .second, .val (.int i3)] [(.int (1 : Int32))])) _
          refine XS.goto X0.here hx rfl (pc0 := 22) (pc' := 26) rfl (hb hby d1_22) (by decide) (by decide) ?_
          show Steps p.tables e below (s₁.setTop (mkF m 26 #[.val (.long j0), .second, .val (.int i1), .val (.long j2), .second, .val (.int i3)] [(.int (1 : Int32))])) _
          rw [show (f1_3_s0 j0 i1 j2 i3) = (1 : Int32) from ((if_neg hc3).trans ((if_pos hc9).trans (if_pos hc13)))] at k
          exact k
        · refine XS.ifNo X0.here hx rfl (hb hby d1_13) rfl ((if0 _ _).trans (feq hc13).1) ?_
          show Steps p.tables e below (s₁.setTop (mkF m 16 #[.val (.long j0), .second, .val (.int i1), .val (.long j2), .second, .val (.int i3)] [])) _
          refine XS.iload X0.here hx rfl (hb hby d1_16) rfl ?_
          show Steps p.tables e below (s₁.setTop (mkF m 18 #[.val (.long j0), .second, .val (.int i1), .val (.long j2), .second, .val (.int i3)] [(.int i3)])) _
          by_cases hc18 : i3 = (0 : Int32)
          · refine XS.ifNo X0.here hx rfl (hb hby d1_18) rfl ((if0 _ _).trans (teq hc18).2) ?_
            show Steps p.tables e below (s₁.setTop (mkF m 21 #[.val (.long j0), .second, .val (.int i1), .val (.long j2), .second, .val (.int i3)] [])) _
            refine XS.iconst X0.here hx rfl (hb hby d1_21) ?_
            show Steps p.tables e below (s₁.setTop (mkF m 22 #[.val (.long j0), .second, .val (.int i1), .val (.long j2), .second, .val (.int i3)] [(.int (1 : Int32))])) _
            refine XS.goto X0.here hx rfl (pc0 := 22) (pc' := 26) rfl (hb hby d1_22) (by decide) (by decide) ?_
            show Steps p.tables e below (s₁.setTop (mkF m 26 #[.val (.long j0), .second, .val (.int i1), .val (.long j2), .second, .val (.int i3)] [(.int (1 : Int32))])) _
            rw [show (f1_3_s0 j0 i1 j2 i3) = (1 : Int32) from ((if_neg hc3).trans ((if_pos hc9).trans ((if_neg hc13).trans (if_pos hc18))))] at k
            exact k
          · refine XS.ifYes X0.here hx rfl (pc0 := 18) (pc' := 25) rfl (hb hby d1_18) rfl ((if0 _ _).trans (feq hc18).2) (by decide) (by decide) ?_
            show Steps p.tables e below (s₁.setTop (mkF m 25 #[.val (.long j0), .second, .val (.int i1), .val (.long j2), .second, .val (.int i3)] [])) _
            refine XS.iconst X0.here hx rfl (hb hby d1_25) ?_
            show Steps p.tables e below (s₁.setTop (mkF m 26 #[.val (.long j0), .second, .val (.int i1), .val (.long j2), .second, .val (.int i3)] [(.int (0 : Int32))])) _
            rw [show (f1_3_s0 j0 i1 j2 i3) = (0 : Int32) from ((if_neg hc3).trans ((if_pos hc9).trans ((if_neg hc13).trans (if_neg hc18))))] at k
            exact k
      · refine XS.ifYes X0.here hx rfl (pc0 := 9) (pc' := 25) rfl (hb hby d1_9) rfl ((if0 _ _).trans (feq (fun q_ => hc9 ((lw_eq _ _).mp q_))).2) (by decide) (by decide) ?_
        show Steps p.tables e below (s₁.setTop (mkF m 25 #[.val (.long j0), .second, .val (.int i1), .val (.long j2), .second, .val (.int i3)] [])) _
        refine XS.iconst X0.here hx rfl (hb hby d1_25) ?_
        show Steps p.tables e below (s₁.setTop (mkF m 26 #[.val (.long j0), .second, .val (.int i1), .val (.long j2), .second, .val (.int i3)] [(.int (0 : Int32))])) _
        rw [show (f1_3_s0 j0 i1 j2 i3) = (0 : Int32) from ((if_neg hc3).trans (if_neg hc9))] at k
        exact k
  exact Outs.retN (t := .boolean) (z := (f1_3_s0 j0 i1 j2 i3)) X0 hx hret (by simp) (hb hby d1_26) hlk (by decide) (by decide) e0 ⟨congrArg (fun z_ => some (Value.int z_)) (show (F_f1 j0 i1 j2 i3) = (nar .boolean (f1_3_s0 j0 i1 j2 i3)) from rfl).symm, N0, rfl⟩
theorem ef_2 (m : MethodId) (x0 : Addr) (x1 : Int64) (x2 : Int32) (x3 : Int64) (x4 : Int32) : entryFrame m #[(.ref x0), (.long x1), (.int x2), (.long x3), (.int x4)] 7 = mkF m 0 #[.val (.ref x0), .val (.long x1), .second, .val (.int x2), .val (.long x3), .second, .val (.int x4)] [] := by first | (simp [entryFrame, mkF, argsToLocals, Value.category]; done) | rfl
theorem d2_0 : decode prog_74_method_1_code 0 = .ok (.aload_n 0, 1) := by decide +kernel
theorem d2_1 : decode prog_74_method_1_code 1 = .ok (.invokespecial 1, 3) := by decide +kernel
theorem d2_4 : decode prog_74_method_1_code 4 = .ok (.aload_n 0, 1) := by decide +kernel
theorem d2_5 : decode prog_74_method_1_code 5 = .ok (.lload_n 1, 1) := by decide +kernel
theorem d2_6 : decode prog_74_method_1_code 6 = .ok (.putfield 7, 3) := by decide +kernel
theorem d2_9 : decode prog_74_method_1_code 9 = .ok (.aload_n 0, 1) := by decide +kernel
theorem d2_10 : decode prog_74_method_1_code 10 = .ok (.iload_n 3, 1) := by decide +kernel
theorem d2_11 : decode prog_74_method_1_code 11 = .ok (.putfield 13, 3) := by decide +kernel
theorem d2_14 : decode prog_74_method_1_code 14 = .ok (.aload_n 0, 1) := by decide +kernel
theorem d2_15 : decode prog_74_method_1_code 15 = .ok (.lload 4, 2) := by decide +kernel
theorem d2_17 : decode prog_74_method_1_code 17 = .ok (.putfield 17, 3) := by decide +kernel
theorem d2_20 : decode prog_74_method_1_code 20 = .ok (.aload_n 0, 1) := by decide +kernel
theorem d2_21 : decode prog_74_method_1_code 21 = .ok (.iload 6, 2) := by decide +kernel
theorem d2_23 : decode prog_74_method_1_code 23 = .ok (.putfield 20, 3) := by decide +kernel
theorem d2_26 : decode prog_74_method_1_code 26 = .ok (.return_, 1) := by decide +kernel
def Q_f2 (Z : State) (o0 : Addr) (j1 : Int64) (i2 : Int32) (j3 : Int64) (i4 : Int32) (h0 : Heap) (n0 : Nat) (v : Option Value) (h : Heap) (L : List Loc) : Prop := v = none ∧ Fr n0 L ∧ Keep h0 h [o0] ∧ Exa Z h o0 "com/example/palimpsest/palimpsest/sql/KeyRange" ∧ Fld Z h o0 "com/example/palimpsest/palimpsest/sql/KeyRange" "low" "J" (.long j1) ∧ Fld Z h o0 "com/example/palimpsest/palimpsest/sql/KeyRange" "lowInclusive" "Z" (.int (nar .boolean i2)) ∧ Fld Z h o0 "com/example/palimpsest/palimpsest/sql/KeyRange" "high" "J" (.long j3) ∧ Fld Z h o0 "com/example/palimpsest/palimpsest/sql/KeyRange" "highInclusive" "Z" (.int (nar .boolean i4))
set_option maxRecDepth 65536 in
set_option maxHeartbeats 40000000 in
theorem rm2 (l : Launch) (Z : State) (a0 : Array Value) (hw : ∀ d ∈ tables_1, d.before a0 Z = true) (ws : List Jvm.Cond) (o0 : Addr) (j1 : Int64) (i2 : Int32) (j3 : Int64) (i4 : Int32)  (h0 : Heap) (n0 : Nat) (E_o0 : Exa Z h0 o0 "com/example/palimpsest/palimpsest/sql/KeyRange") (g_o0 : n0 ≤ o0) (F_o0_low : Fld Z h0 o0 "com/example/palimpsest/palimpsest/sql/KeyRange" "low" "J" (.long (0 : Int64))) (F_o0_lowInclusive : Fld Z h0 o0 "com/example/palimpsest/palimpsest/sql/KeyRange" "lowInclusive" "Z" (.int (0 : Int32))) (F_o0_high : Fld Z h0 o0 "com/example/palimpsest/palimpsest/sql/KeyRange" "high" "J" (.long (0 : Int64))) (F_o0_highInclusive : Fld Z h0 o0 "com/example/palimpsest/palimpsest/sql/KeyRange" "highInclusive" "Z" (.int (0 : Int32))) :
    MetFree l (⟨"com/example/palimpsest/palimpsest/sql/KeyRange", "<init>", "(JZJZ)V"⟩ : MethodName) (head1 (Jvm.Cond.code (⟨"com/example/palimpsest/palimpsest/sql/KeyRange", "<init>", "(JZJZ)V"⟩ : MethodName) prog_74_method_1_code 7 none :: ws) ({ frames := 1, cells := 0, slots := 0, locals := 12 } : Room)) (fun a U => a = #[(.ref o0), (.long j1), (.int i2), (.long j3), (.int i4)] ∧ Z.Warmed39 U.vm ∧ U.heap = h0) (fun _ _ _ _ _ => True) (fun _ U o U' => ∃ v L, o = .returned v ∧ Q_f2 Z o0 j1 i2 j3 i4 h0 n0 v U'.heap L ∧ FrameEnd U o U' L ({ frames := 1, cells := 0, slots := 0, locals := 12 } : Room).cells ({ frames := 1, cells := 0, slots := 0, locals := 12 } : Room).slots) := by
  refine MetFree.of_bodySF (plainFor_of_name pn_1) hisR ?_
  intro p e s m args below meth c s₁ Bd hml0 hP hK
  obtain ⟨rfl, hZ, hh⟩ := hP
  have hx := Bd.exec
  have hby := Bd.bytes
  have hml : c.maxLocals = 7 := hml0
  have hown : s.vm.findClass "com/example/palimpsest/palimpsest/sql/KeyRange" = some m.cls := findClass_of_methodNamed Bd.named
  have hnm := (name_of_methodNamed Bd.named Bd.method).1
  have hret := Bd.returns
  have hlk : meth.locks = false := BodyLoose.notSynchronized Bd
  have X0 : Stand p l e ({ frames := 1, cells := 0, slots := 0, locals := 12 } : Room) s m #[(.ref o0), (.long j1), (.int i2), (.long j3), (.int i4)] below meth c s₁ [] 0 0 := Stand.of_body Bd
  have e0 : s₁.heap = h0 := by rw [← hh, Bd.state]; rfl
  have N0 := Fr.nil n0
  show Outs p e below s (Q_f2 Z o0 j1 i2 j3 i4 h0 n0) _ _ _
  refine Outs.of (U' := s₁.setTop (mkF m 0 #[.val (.ref o0), .val (.long j1), .second, .val (.int i2), .val (.long j3), .second, .val (.int i4)] [])) (fun t k => castTop (ef_2 m o0 j1 i2 j3 i4) k) ?_
  refine Outs.of (U' := s₁.setTop (mkF m 1 #[.val (.ref o0), .val (.long j1), .second, .val (.int i2), .val (.long j3), .second, .val (.int i4)] [(.ref o0)])) (fun t k => ?_) ?_
  · refine XS.aloadN X0.here hx rfl (hb hby d2_0) rfl rfl ?_
    show Steps p.tables e below (s₁.setTop (mkF m 1 #[.val (.ref o0), .val (.long j1), .second, .val (.int i2), .val (.long j3), .second, .val (.int i4)] [(.ref o0)])) _
    exact k
  obtain ⟨T1, X1, e1, st1⟩ := initO X0 hx hZ hown (hw _ (List.mem_of_getElem? (i := 9) rfl)) (hw _ (List.mem_of_getElem? (i := 10) rfl)) (hw _ (List.mem_of_getElem? (i := 11) rfl)) e0 (g := (mkF m 1 #[.val (.ref o0), .val (.long j1), .second, .val (.int i2), .val (.long j3), .second, .val (.int i4)] [(.ref o0)])) rfl (by rw [hml]; rfl) rfl (hb hby d2_1) (by decide) (W := 0) (by show 2 * 0 + _ ≤ _; exact Nat.le_of_eq rfl) (by decide)
  refine Outs.of st1 ?_
  show Outs p e below s _ _ _ (T1.setTop (mkF m 4 #[.val (.ref o0), .val (.long j1), .second, .val (.int i2), .val (.long j3), .second, .val (.int i4)] []))
  refine Outs.of (U' := T1.setTop (mkF m 6 #[.val (.ref o0), .val (.long j1), .second, .val (.int i2), .val (.long j3), .second, .val (.int i4)] [(.long j1), (.ref o0)])) (fun t k => ?_) ?_
  · refine XS.aloadN X1.here hx rfl (hb hby d2_4) rfl rfl ?_
    show Steps p.tables e below (T1.setTop (mkF m 5 #[.val (.ref o0), .val (.long j1), .second, .val (.int i2), .val (.long j3), .second, .val (.int i4)] [(.ref o0)])) _
    refine XS.lloadN X1.here hx rfl (hb hby d2_5) rfl ?_
    show Steps p.tables e below (T1.setTop (mkF m 6 #[.val (.ref o0), .val (.long j1), .second, .val (.int i2), .val (.long j3), .second, .val (.int i4)] [(.long j1), (.ref o0)])) _
    exact k
  obtain ⟨T2, h2, X2, e2, W2, st2⟩ := putF X1 hx hZ hown (host := "") (Or.inl (hw _ (List.mem_of_getElem? (i := 12) rfl))) Via.refl e1 F_o0_low E_o0 (Or.inr ⟨(hw _ (List.mem_of_getElem? (i := 13) rfl)), rfl, hnm⟩) (hw _ (List.mem_of_getElem? (i := 5) rfl)) (ty := .long) (by decide) rfl rfl (g := (mkF m 6 #[.val (.ref o0), .val (.long j1), .second, .val (.int i2), .val (.long j3), .second, .val (.int i4)] [(.long j1), (.ref o0)])) rfl rfl (hb hby d2_6)
  have F2 : Fld Z h2 o0 "com/example/palimpsest/palimpsest/sql/KeyRange" "low" "J" (.long j1) := F_o0_low.same W2
  have N2 := Fr.snoc X2 N0 g_o0
  refine Outs.of st2 ?_
  show Outs p e below s _ _ _ (T2.setTop (mkF m 9 #[.val (.ref o0), .val (.long j1), .second, .val (.int i2), .val (.long j3), .second, .val (.int i4)] []))
  refine Outs.of (U' := T2.setTop (mkF m 11 #[.val (.ref o0), .val (.long j1), .second, .val (.int i2), .val (.long j3), .second, .val (.int i4)] [(.int i2), (.ref o0)])) (fun t k => ?_) ?_
  · refine XS.aloadN X2.here hx rfl (hb hby d2_9) rfl rfl ?_
    show Steps p.tables e below (T2.setTop (mkF m 10 #[.val (.ref o0), .val (.long j1), .second, .val (.int i2), .val (.long j3), .second, .val (.int i4)] [(.ref o0)])) _
    refine XS.iloadN X2.here hx rfl (hb hby d2_10) rfl ?_
    show Steps p.tables e below (T2.setTop (mkF m 11 #[.val (.ref o0), .val (.long j1), .second, .val (.int i2), .val (.long j3), .second, .val (.int i4)] [(.int i2), (.ref o0)])) _
    exact k
  have f4 : Exa Z h2 o0 "com/example/palimpsest/palimpsest/sql/KeyRange" := (E_o0.wr W2)
  have f5 : Fld Z h2 o0 "com/example/palimpsest/palimpsest/sql/KeyRange" "lowInclusive" "Z" (.int (0 : Int32)) := (F_o0_lowInclusive.other W2 (Or.inr (slot_ne (Or.inr (hw _ (List.mem_of_getElem? (i := 15) rfl))) (Or.inr (hw _ (List.mem_of_getElem? (i := 13) rfl))) (by decide) (t := .boolean) (t' := .long) (by decide) (by decide))))
  obtain ⟨T3, h3, X3, e3, W3, st3⟩ := putFN X2 hx hZ hown (hw _ (List.mem_of_getElem? (i := 14) rfl)) Via.refl e2 f5 f4 (Or.inr ⟨(hw _ (List.mem_of_getElem? (i := 15) rfl)), rfl, hnm⟩) (hw _ (List.mem_of_getElem? (i := 5) rfl)) (ty := .boolean) (v' := (.int (nar .boolean i2))) (by decide) rfl (fits_nar_bool _) (g := (mkF m 11 #[.val (.ref o0), .val (.long j1), .second, .val (.int i2), .val (.long j3), .second, .val (.int i4)] [(.int i2), (.ref o0)])) rfl rfl (hb hby d2_11)
  have F3 : Fld Z h3 o0 "com/example/palimpsest/palimpsest/sql/KeyRange" "lowInclusive" "Z" (.int (nar .boolean i2)) := f5.same W3
  have N3 := Fr.snoc X3 N2 g_o0
  refine Outs.of st3 ?_
  show Outs p e below s _ _ _ (T3.setTop (mkF m 14 #[.val (.ref o0), .val (.long j1), .second, .val (.int i2), .val (.long j3), .second, .val (.int i4)] []))
  refine Outs.of (U' := T3.setTop (mkF m 17 #[.val (.ref o0), .val (.long j1), .second, .val (.int i2), .val (.long j3), .second, .val (.int i4)] [(.long j3), (.ref o0)])) (fun t k => ?_) ?_
  · refine XS.aloadN X3.here hx rfl (hb hby d2_14) rfl rfl ?_
    show Steps p.tables e below (T3.setTop (mkF m 15 #[.val (.ref o0), .val (.long j1), .second, .val (.int i2), .val (.long j3), .second, .val (.int i4)] [(.ref o0)])) _
    refine XS.lload X3.here hx rfl (hb hby d2_15) rfl ?_
    show Steps p.tables e below (T3.setTop (mkF m 17 #[.val (.ref o0), .val (.long j1), .second, .val (.int i2), .val (.long j3), .second, .val (.int i4)] [(.long j3), (.ref o0)])) _
    exact k
  have f7 : Exa Z h3 o0 "com/example/palimpsest/palimpsest/sql/KeyRange" := (f4.wr W3)
  have f8 : Fld Z h3 o0 "com/example/palimpsest/palimpsest/sql/KeyRange" "high" "J" (.long (0 : Int64)) := ((F_o0_high.other W2 (Or.inr (slot_ne (Or.inr (hw _ (List.mem_of_getElem? (i := 17) rfl))) (Or.inr (hw _ (List.mem_of_getElem? (i := 13) rfl))) (by decide) (t := .long) (t' := .long) (by decide) (by decide)))).other W3 (Or.inr (slot_ne (Or.inr (hw _ (List.mem_of_getElem? (i := 17) rfl))) (Or.inr (hw _ (List.mem_of_getElem? (i := 15) rfl))) (by decide) (t := .long) (t' := .boolean) (by decide) (by decide))))
  obtain ⟨T6, h6, X6, e6, W6, st6⟩ := putF X3 hx hZ hown (host := "") (Or.inl (hw _ (List.mem_of_getElem? (i := 16) rfl))) Via.refl e3 f8 f7 (Or.inr ⟨(hw _ (List.mem_of_getElem? (i := 17) rfl)), rfl, hnm⟩) (hw _ (List.mem_of_getElem? (i := 5) rfl)) (ty := .long) (by decide) rfl rfl (g := (mkF m 17 #[.val (.ref o0), .val (.long j1), .second, .val (.int i2), .val (.long j3), .second, .val (.int i4)] [(.long j3), (.ref o0)])) rfl rfl (hb hby d2_17)
  have F6 : Fld Z h6 o0 "com/example/palimpsest/palimpsest/sql/KeyRange" "high" "J" (.long j3) := f8.same W6
  have N6 := Fr.snoc X6 N3 g_o0
  refine Outs.of st6 ?_
  show Outs p e below s _ _ _ (T6.setTop (mkF m 20 #[.val (.ref o0), .val (.long j1), .second, .val (.int i2), .val (.long j3), .second, .val (.int i4)] []))
  refine Outs.of (U' := T6.setTop (mkF m 23 #[.val (.ref o0), .val (.long j1), .second, .val (.int i2), .val (.long j3), .second, .val (.int i4)] [(.int i4), (.ref o0)])) (fun t k => ?_) ?_
  · refine XS.aloadN X6.here hx rfl (hb hby d2_20) rfl rfl ?_
    show Steps p.tables e below (T6.setTop (mkF m 21 #[.val (.ref o0), .val (.long j1), .second, .val (.int i2), .val (.long j3), .second, .val (.int i4)] [(.ref o0)])) _
    refine XS.iload X6.here hx rfl (hb hby d2_21) rfl ?_
    show Steps p.tables e below (T6.setTop (mkF m 23 #[.val (.ref o0), .val (.long j1), .second, .val (.int i2), .val (.long j3), .second, .val (.int i4)] [(.int i4), (.ref o0)])) _
    exact k
  have f10 : Exa Z h6 o0 "com/example/palimpsest/palimpsest/sql/KeyRange" := (f7.wr W6)
  have f11 : Fld Z h6 o0 "com/example/palimpsest/palimpsest/sql/KeyRange" "highInclusive" "Z" (.int (0 : Int32)) := (((F_o0_highInclusive.other W2 (Or.inr (slot_ne (Or.inr (hw _ (List.mem_of_getElem? (i := 19) rfl))) (Or.inr (hw _ (List.mem_of_getElem? (i := 13) rfl))) (by decide) (t := .boolean) (t' := .long) (by decide) (by decide)))).other W3 (Or.inr (slot_ne (Or.inr (hw _ (List.mem_of_getElem? (i := 19) rfl))) (Or.inr (hw _ (List.mem_of_getElem? (i := 15) rfl))) (by decide) (t := .boolean) (t' := .boolean) (by decide) (by decide)))).other W6 (Or.inr (slot_ne (Or.inr (hw _ (List.mem_of_getElem? (i := 19) rfl))) (Or.inr (hw _ (List.mem_of_getElem? (i := 17) rfl))) (by decide) (t := .boolean) (t' := .long) (by decide) (by decide))))
  obtain ⟨T9, h9, X9, e9, W9, st9⟩ := putFN X6 hx hZ hown (hw _ (List.mem_of_getElem? (i := 18) rfl)) Via.refl e6 f11 f10 (Or.inr ⟨(hw _ (List.mem_of_getElem? (i := 19) rfl)), rfl, hnm⟩) (hw _ (List.mem_of_getElem? (i := 5) rfl)) (ty := .boolean) (v' := (.int (nar .boolean i4))) (by decide) rfl (fits_nar_bool _) (g := (mkF m 23 #[.val (.ref o0), .val (.long j1), .second, .val (.int i2), .val (.long j3), .second, .val (.int i4)] [(.int i4), (.ref o0)])) rfl rfl (hb hby d2_23)
  have F9 : Fld Z h9 o0 "com/example/palimpsest/palimpsest/sql/KeyRange" "highInclusive" "Z" (.int (nar .boolean i4)) := f11.same W9
  have N9 := Fr.snoc X9 N6 g_o0
  refine Outs.of st9 ?_
  show Outs p e below s _ _ _ (T9.setTop (mkF m 26 #[.val (.ref o0), .val (.long j1), .second, .val (.int i2), .val (.long j3), .second, .val (.int i4)] []))
  have f12 : Exa Z h9 o0 "com/example/palimpsest/palimpsest/sql/KeyRange" := (f10.wr W9)
  have f13 : Fld Z h9 o0 "com/example/palimpsest/palimpsest/sql/KeyRange" "low" "J" (.long j1) := (((F2.other W3 (Or.inr (slot_ne (Or.inr (hw _ (List.mem_of_getElem? (i := 13) rfl))) (Or.inr (hw _ (List.mem_of_getElem? (i := 15) rfl))) (by decide) (t := .long) (t' := .boolean) (by decide) (by decide)))).other W6 (Or.inr (slot_ne (Or.inr (hw _ (List.mem_of_getElem? (i := 13) rfl))) (Or.inr (hw _ (List.mem_of_getElem? (i := 17) rfl))) (by decide) (t := .long) (t' := .long) (by decide) (by decide)))).other W9 (Or.inr (slot_ne (Or.inr (hw _ (List.mem_of_getElem? (i := 13) rfl))) (Or.inr (hw _ (List.mem_of_getElem? (i := 19) rfl))) (by decide) (t := .long) (t' := .boolean) (by decide) (by decide))))
  have f14 : Fld Z h9 o0 "com/example/palimpsest/palimpsest/sql/KeyRange" "lowInclusive" "Z" (.int (nar .boolean i2)) := ((F3.other W6 (Or.inr (slot_ne (Or.inr (hw _ (List.mem_of_getElem? (i := 15) rfl))) (Or.inr (hw _ (List.mem_of_getElem? (i := 17) rfl))) (by decide) (t := .boolean) (t' := .long) (by decide) (by decide)))).other W9 (Or.inr (slot_ne (Or.inr (hw _ (List.mem_of_getElem? (i := 15) rfl))) (Or.inr (hw _ (List.mem_of_getElem? (i := 19) rfl))) (by decide) (t := .boolean) (t' := .boolean) (by decide) (by decide))))
  have f15 : Fld Z h9 o0 "com/example/palimpsest/palimpsest/sql/KeyRange" "high" "J" (.long j3) := (F6.other W9 (Or.inr (slot_ne (Or.inr (hw _ (List.mem_of_getElem? (i := 17) rfl))) (Or.inr (hw _ (List.mem_of_getElem? (i := 19) rfl))) (by decide) (t := .long) (t' := .boolean) (by decide) (by decide))))
  exact Outs.retV X9 hx hret (hb hby d2_26) hlk (by decide) (by decide) e9 ⟨rfl, N9, (((((Keep.refl h0 [o0]).wr W2 (Or.inl (List.mem_of_getElem? (i := 0) rfl))).wr W3 (Or.inl (List.mem_of_getElem? (i := 0) rfl))).wr W6 (Or.inl (List.mem_of_getElem? (i := 0) rfl))).wr W9 (Or.inl (List.mem_of_getElem? (i := 0) rfl))), f12, f13, f14, f15, F9⟩
theorem ef_4 (m : MethodId) (x0 : Addr) (x1 : Int64) : entryFrame m #[(.ref x0), (.long x1)] 5 = mkF m 0 #[.val (.ref x0), .val (.long x1), .second, .unset, .unset] [] := by first | (simp [entryFrame, mkF, argsToLocals, Value.category]; done) | rfl
theorem d4_0 : decode prog_74_method_8_code 0 = .ok (.aload_n 0, 1) := by decide +kernel
theorem d4_1 : decode prog_74_method_8_code 1 = .ok (.getfield 13, 3) := by decide +kernel
theorem d4_4 : decode prog_74_method_8_code 4 = .ok (.ifCond .eq 20, 3) := by decide +kernel
theorem d4_24 : decode prog_74_method_8_code 24 = .ok (.lload_n 1, 1) := by decide +kernel
theorem d4_25 : decode prog_74_method_8_code 25 = .ok (.aload_n 0, 1) := by decide +kernel
theorem d4_26 : decode prog_74_method_8_code 26 = .ok (.getfield 7, 3) := by decide +kernel
theorem d4_29 : decode prog_74_method_8_code 29 = .ok (.lcmp, 1) := by decide +kernel
theorem d4_30 : decode prog_74_method_8_code 30 = .ok (.ifCond .le 7, 3) := by decide +kernel
theorem d4_33 : decode prog_74_method_8_code 33 = .ok (.iconst 1, 1) := by decide +kernel
theorem d4_34 : decode prog_74_method_8_code 34 = .ok (.goto 4, 3) := by decide +kernel
theorem d4_37 : decode prog_74_method_8_code 37 = .ok (.iconst 0, 1) := by decide +kernel
theorem d4_38 : decode prog_74_method_8_code 38 = .ok (.istore_n 3, 1) := by decide +kernel
theorem d4_39 : decode prog_74_method_8_code 39 = .ok (.aload_n 0, 1) := by decide +kernel
theorem d4_40 : decode prog_74_method_8_code 40 = .ok (.getfield 20, 3) := by decide +kernel
theorem d4_43 : decode prog_74_method_8_code 43 = .ok (.ifCond .eq 20, 3) := by decide +kernel
theorem d4_63 : decode prog_74_method_8_code 63 = .ok (.lload_n 1, 1) := by decide +kernel
theorem d4_64 : decode prog_74_method_8_code 64 = .ok (.aload_n 0, 1) := by decide +kernel
theorem d4_65 : decode prog_74_method_8_code 65 = .ok (.getfield 17, 3) := by decide +kernel
theorem d4_68 : decode prog_74_method_8_code 68 = .ok (.lcmp, 1) := by decide +kernel
theorem d4_69 : decode prog_74_method_8_code 69 = .ok (.ifCond .ge 7, 3) := by decide +kernel
theorem d4_72 : decode prog_74_method_8_code 72 = .ok (.iconst 1, 1) := by decide +kernel
theorem d4_73 : decode prog_74_method_8_code 73 = .ok (.goto 4, 3) := by decide +kernel
theorem d4_76 : decode prog_74_method_8_code 76 = .ok (.iconst 0, 1) := by decide +kernel
theorem d4_77 : decode prog_74_method_8_code 77 = .ok (.istore 4, 2) := by decide +kernel
theorem d4_79 : decode prog_74_method_8_code 79 = .ok (.iload_n 3, 1) := by decide +kernel
theorem d4_80 : decode prog_74_method_8_code 80 = .ok (.ifCond .eq 12, 3) := by decide +kernel
theorem d4_92 : decode prog_74_method_8_code 92 = .ok (.iconst 0, 1) := by decide +kernel
theorem d4_83 : decode prog_74_method_8_code 83 = .ok (.iload 4, 2) := by decide +kernel
theorem d4_85 : decode prog_74_method_8_code 85 = .ok (.ifCond .eq 7, 3) := by decide +kernel
theorem d4_88 : decode prog_74_method_8_code 88 = .ok (.iconst 1, 1) := by decide +kernel
theorem d4_89 : decode prog_74_method_8_code 89 = .ok (.goto 4, 3) := by decide +kernel
theorem d4_93 : decode prog_74_method_8_code 93 = .ok (.ireturn, 1) := by decide +kernel
theorem d4_46 : decode prog_74_method_8_code 46 = .ok (.lload_n 1, 1) := by decide +kernel
theorem d4_47 : decode prog_74_method_8_code 47 = .ok (.aload_n 0, 1) := by decide +kernel
theorem d4_48 : decode prog_74_method_8_code 48 = .ok (.getfield 17, 3) := by decide +kernel
theorem d4_51 : decode prog_74_method_8_code 51 = .ok (.lcmp, 1) := by decide +kernel
theorem d4_52 : decode prog_74_method_8_code 52 = .ok (.ifCond .gt 7, 3) := by decide +kernel
theorem d4_59 : decode prog_74_method_8_code 59 = .ok (.iconst 0, 1) := by decide +kernel
theorem d4_60 : decode prog_74_method_8_code 60 = .ok (.goto 17, 3) := by decide +kernel
theorem d4_55 : decode prog_74_method_8_code 55 = .ok (.iconst 1, 1) := by decide +kernel
theorem d4_56 : decode prog_74_method_8_code 56 = .ok (.goto 21, 3) := by decide +kernel
theorem d4_7 : decode prog_74_method_8_code 7 = .ok (.lload_n 1, 1) := by decide +kernel
theorem d4_8 : decode prog_74_method_8_code 8 = .ok (.aload_n 0, 1) := by decide +kernel
theorem d4_9 : decode prog_74_method_8_code 9 = .ok (.getfield 7, 3) := by decide +kernel
theorem d4_12 : decode prog_74_method_8_code 12 = .ok (.lcmp, 1) := by decide +kernel
theorem d4_13 : decode prog_74_method_8_code 13 = .ok (.ifCond .lt 7, 3) := by decide +kernel
theorem d4_20 : decode prog_74_method_8_code 20 = .ok (.iconst 0, 1) := by decide +kernel
theorem d4_21 : decode prog_74_method_8_code 21 = .ok (.goto 17, 3) := by decide +kernel
theorem d4_16 : decode prog_74_method_8_code 16 = .ok (.iconst 1, 1) := by decide +kernel
theorem d4_17 : decode prog_74_method_8_code 17 = .ok (.goto 21, 3) := by decide +kernel
def f4_30_s0 (j1 : Int64) (x0 : Int64) (x1 : Int32) (x2 : Int64) (x3 : Int32) : Int32 := (if x0 < j1 then (1 : Int32) else (0 : Int32))
def f4_69_s0 (j1 : Int64) (x0 : Int64) (x1 : Int32) (x2 : Int64) (x3 : Int32) : Int32 := (if j1 < x2 then (1 : Int32) else (0 : Int32))
def f4_80_s0 (j1 : Int64) (x0 : Int64) (x1 : Int32) (x2 : Int64) (x3 : Int32) : Int32 := (if (f4_30_s0 j1 x0 x1 x2 x3) = (0 : Int32) then (0 : Int32) else (if (f4_69_s0 j1 x0 x1 x2 x3) = (0 : Int32) then (0 : Int32) else (1 : Int32)))
def f4_52_s0 (j1 : Int64) (x0 : Int64) (x1 : Int32) (x2 : Int64) (x3 : Int32) : Int32 := (if x2 < j1 then (0 : Int32) else (1 : Int32))
def f4_80_s0a (j1 : Int64) (x0 : Int64) (x1 : Int32) (x2 : Int64) (x3 : Int32) : Int32 := (if (f4_30_s0 j1 x0 x1 x2 x3) = (0 : Int32) then (0 : Int32) else (if (f4_52_s0 j1 x0 x1 x2 x3) = (0 : Int32) then (0 : Int32) else (1 : Int32)))
def f4_13_s0 (j1 : Int64) (x0 : Int64) (x1 : Int32) (x2 : Int64) (x3 : Int32) : Int32 := (if j1 < x0 then (0 : Int32) else (1 : Int32))
def f4_80_s0b (j1 : Int64) (x0 : Int64) (x1 : Int32) (x2 : Int64) (x3 : Int32) : Int32 := (if (f4_13_s0 j1 x0 x1 x2 x3) = (0 : Int32) then (0 : Int32) else (if (f4_69_s0 j1 x0 x1 x2 x3) = (0 : Int32) then (0 : Int32) else (1 : Int32)))
def f4_80_s0c (j1 : Int64) (x0 : Int64) (x1 : Int32) (x2 : Int64) (x3 : Int32) : Int32 := (if (f4_13_s0 j1 x0 x1 x2 x3) = (0 : Int32) then (0 : Int32) else (if (f4_52_s0 j1 x0 x1 x2 x3) = (0 : Int32) then (0 : Int32) else (1 : Int32)))
def F_f4 (j1 : Int64) (x0 : Int64) (x1 : Int32) (x2 : Int64) (x3 : Int32) : Int32 := (if x1 = (0 : Int32) then (if x3 = (0 : Int32) then (nar .boolean (f4_80_s0 j1 x0 x1 x2 x3)) else (nar .boolean (f4_80_s0a j1 x0 x1 x2 x3))) else (if x3 = (0 : Int32) then (nar .boolean (f4_80_s0b j1 x0 x1 x2 x3)) else (nar .boolean (f4_80_s0c j1 x0 x1 x2 x3))))
set_option maxRecDepth 65536 in
set_option maxHeartbeats 40000000 in
theorem rm4 (l : Launch) (Z : State) (a0 : Array Value) (hw : ∀ d ∈ tables_1, d.before a0 Z = true) (ws : List Jvm.Cond) (o0 : Addr) (j1 : Int64) (x0 : Int64) (x1 : Int32) (x2 : Int64) (x3 : Int32) (h0 : Heap) (n0 : Nat) (F_o0_low : Fld Z h0 o0 "com/example/palimpsest/palimpsest/sql/KeyRange" "low" "J" (.long x0)) (F_o0_lowInclusive : Fld Z h0 o0 "com/example/palimpsest/palimpsest/sql/KeyRange" "lowInclusive" "Z" (.int x1)) (F_o0_high : Fld Z h0 o0 "com/example/palimpsest/palimpsest/sql/KeyRange" "high" "J" (.long x2)) (F_o0_highInclusive : Fld Z h0 o0 "com/example/palimpsest/palimpsest/sql/KeyRange" "highInclusive" "Z" (.int x3)) :
    MetFree l (⟨"com/example/palimpsest/palimpsest/sql/KeyRange", "contains", "(J)Z"⟩ : MethodName) (head1 (Jvm.Cond.code (⟨"com/example/palimpsest/palimpsest/sql/KeyRange", "contains", "(J)Z"⟩ : MethodName) prog_74_method_8_code 5 (some .boolean) :: ws) ({ frames := 0, cells := 0, slots := 0, locals := 0 } : Room)) (fun a U => a = #[(.ref o0), (.long j1)] ∧ Z.Warmed39 U.vm ∧ U.heap = h0) (fun _ _ _ _ _ => True) (fun _ U o U' => ∃ v L, o = .returned v ∧ QR (some (.int (F_f4 j1 x0 x1 x2 x3))) h0 n0 v U'.heap L ∧ FrameEnd U o U' L ({ frames := 0, cells := 0, slots := 0, locals := 0 } : Room).cells ({ frames := 0, cells := 0, slots := 0, locals := 0 } : Room).slots) := by
  refine MetFree.of_bodySF (plainFor_of_name pn_1) hisR ?_
  intro p e s m args below meth c s₁ Bd hml0 hP hK
  obtain ⟨rfl, hZ, hh⟩ := hP
  have hx := Bd.exec
  have hby := Bd.bytes
  have hml : c.maxLocals = 5 := hml0
  have hown : s.vm.findClass "com/example/palimpsest/palimpsest/sql/KeyRange" = some m.cls := findClass_of_methodNamed Bd.named
  have hnm := (name_of_methodNamed Bd.named Bd.method).1
  have hret := Bd.returns
  have hlk : meth.locks = false := BodyLoose.notSynchronized Bd
  have X0 : Stand p l e ({ frames := 0, cells := 0, slots := 0, locals := 0 } : Room) s m #[(.ref o0), (.long j1)] below meth c s₁ [] 0 0 := Stand.of_body Bd
  have e0 : s₁.heap = h0 := by rw [← hh, Bd.state]; rfl
  have N0 := Fr.nil n0
  show Outs p e below s (QR (some (.int (F_f4 j1 x0 x1 x2 x3))) h0 n0) _ _ _
  refine Outs.of (U' := s₁.setTop (mkF m 0 #[.val (.ref o0), .val (.long j1), .second, .unset, .unset] [])) (fun t k => castTop (ef_4 m o0 j1) k) ?_
  refine Outs.of (U' := s₁.setTop (mkF m 1 #[.val (.ref o0), .val (.long j1), .second, .unset, .unset] [(.ref o0)])) (fun t k => ?_) ?_
  · refine XS.aloadN X0.here hx rfl (hb hby d4_0) rfl rfl ?_
    show Steps p.tables e below (s₁.setTop (mkF m 1 #[.val (.ref o0), .val (.long j1), .second, .unset, .unset] [(.ref o0)])) _
    exact k
  obtain ⟨T1, X1, e1, st1⟩ := getF X0 hx hZ hown (host := "") (Or.inl (hw _ (List.mem_of_getElem? (i := 14) rfl))) Via.refl e0 F_o0_lowInclusive (g := (mkF m 1 #[.val (.ref o0), .val (.long j1), .second, .unset, .unset] [(.ref o0)])) rfl rfl (hb hby d4_1)
  refine Outs.of st1 ?_
  show Outs p e below s _ _ _ (T1.setTop (mkF m 4 #[.val (.ref o0), .val (.long j1), .second, .unset, .unset] [(.int x1)]))
  by_cases hc4 : x1 = (0 : Int32)
  · refine Outs.of (U' := T1.setTop (mkF m 24 #[.val (.ref o0), .val (.long j1), .second, .unset, .unset] [])) (fun t k => ?_) ?_
    · refine XS.ifYes X1.here hx rfl (pc0 := 4) (pc' := 24) rfl (hb hby d4_4) rfl ((if0 _ _).trans (teq hc4).1) (by decide) (by decide) ?_
      show Steps p.tables e below (T1.setTop (mkF m 24 #[.val (.ref o0), .val (.long j1), .second, .unset, .unset] [])) _
      exact k
    refine Outs.of (U' := T1.setTop (mkF m 26 #[.val (.ref o0), .val (.long j1), .second, .unset, .unset] [(.ref o0), (.long j1)])) (fun t k => ?_) ?_
    · refine XS.lloadN X1.here hx rfl (hb hby d4_24) rfl ?_
      show Steps p.tables e below (T1.setTop (mkF m 25 #[.val (.ref o0), .val (.long j1), .second, .unset, .unset] [(.long j1)])) _
      refine XS.aloadN X1.here hx rfl (hb hby d4_25) rfl rfl ?_
      show Steps p.tables e below (T1.setTop (mkF m 26 #[.val (.ref o0), .val (.long j1), .second, .unset, .unset] [(.ref o0), (.long j1)])) _
      exact k
    obtain ⟨T2, X2, e2, st2⟩ := getF X1 hx hZ hown (host := "") (Or.inl (hw _ (List.mem_of_getElem? (i := 12) rfl))) Via.refl e1 F_o0_low (g := (mkF m 26 #[.val (.ref o0), .val (.long j1), .second, .unset, .unset] [(.ref o0), (.long j1)])) rfl rfl (hb hby d4_26)
    refine Outs.of st2 ?_
    show Outs p e below s _ _ _ (T2.setTop (mkF m 29 #[.val (.ref o0), .val (.long j1), .second, .unset, .unset] [(.long x0), (.long j1)]))
    refine Outs.of (U' := T2.setTop (mkF m 38 #[.val (.ref o0), .val (.long j1), .second, .unset, .unset] [(.int (f4_30_s0 j1 x0 x1 x2 x3))])) (fun t k => ?_) ?_
    · refine XS.lcmp X2.here hx rfl (hb hby d4_29) rfl ?_
      show Steps p.tables e below (T2.setTop (mkF m 30 #[.val (.ref o0), .val (.long j1), .second, .unset, .unset] [(.int (lcmpW j1 x0))])) _
      by_cases hc30 : x0 < j1
      · refine XS.ifNo X2.here hx rfl (hb hby d4_30) rfl ((if0 _ _).trans (tlt ((lw_gt _ _).mpr hc30)).2.2.2) ?_
        show Steps p.tables e below (T2.setTop (mkF m 33 #[.val (.ref o0), .val (.long j1), .second, .unset, .unset] [])) _
        refine XS.iconst X2.here hx rfl (hb hby d4_33) ?_
        show Steps p.tables e below (T2.setTop (mkF m 34 #[.val (.ref o0), .val (.long j1), .second, .unset, .unset] [(.int (1 : Int32))])) _
        refine XS.goto X2.here hx rfl (pc0 := 34) (pc' := 38) rfl (hb hby d4_34) (by decide) (by decide) ?_
        show Steps p.tables e below (T2.setTop (mkF m 38 #[.val (.ref o0), .val (.long j1), .second, .unset, .unset] [(.int (1 : Int32))])) _
        rw [show (f4_30_s0 j1 x0 x1 x2 x3) = (1 : Int32) from (if_pos hc30)] at k
        exact k
      · refine XS.ifYes X2.here hx rfl (pc0 := 30) (pc' := 37) rfl (hb hby d4_30) rfl ((if0 _ _).trans (flt (fun q_ => hc30 ((lw_gt _ _).mp q_))).2.2.2) (by decide) (by decide) ?_
        show Steps p.tables e below (T2.setTop (mkF m 37 #[.val (.ref o0), .val (.long j1), .second, .unset, .unset] [])) _
        refine XS.iconst X2.here hx rfl (hb hby d4_37) ?_
        show Steps p.tables e below (T2.setTop (mkF m 38 #[.val (.ref o0), .val (.long j1), .second, .unset, .unset] [(.int (0 : Int32))])) _
        rw [show (f4_30_s0 j1 x0 x1 x2 x3) = (0 : Int32) from (if_neg hc30)] at k
        exact k
    refine Outs.of (U' := T2.setTop (mkF m 40 #[.val (.ref o0), .val (.long j1), .second, .val (.int (f4_30_s0 j1 x0 x1 x2 x3)), .unset] [(.ref o0)])) (fun t k => ?_) ?_
    · refine XS.istoreN X2.here hx rfl (hb hby d4_38) rfl (l' := #[.val (.ref o0), .val (.long j1), .second, .val (.int (f4_30_s0 j1 x0 x1 x2 x3)), .unset]) rfl ?_
      show Steps p.tables e below (T2.setTop (mkF m 39 #[.val (.ref o0), .val (.long j1), .second, .val (.int (f4_30_s0 j1 x0 x1 x2 x3)), .unset] [])) _
      refine XS.aloadN X2.here hx rfl (hb hby d4_39) rfl rfl ?_
      show Steps p.tables e below (T2.setTop (mkF m 40 #[.val (.ref o0), .val (.long j1), .second, .val (.int (f4_30_s0 j1 x0 x1 x2 x3)), .unset] [(.ref o0)])) _
      exact k
    obtain ⟨T3, X3, e3, st3⟩ := getF X2 hx hZ hown (host := "") (Or.inl (hw _ (List.mem_of_getElem? (i := 18) rfl))) Via.refl e2 F_o0_highInclusive (g := (mkF m 40 #[.val (.ref o0), .val (.long j1), .second, .val (.int (f4_30_s0 j1 x0 x1 x2 x3)), .unset] [(.ref o0)])) rfl rfl (hb hby d4_40)
    refine Outs.of st3 ?_
    show Outs p e below s _ _ _ (T3.setTop (mkF m 43 #[.val (.ref o0), .val (.long j1), .second, .val (.int (f4_30_s0 j1 x0 x1 x2 x3)), .unset] [(.int x3)]))
    by_cases hc43 : x3 = (0 : Int32)
    · refine Outs.of (U' := T3.setTop (mkF m 63 #[.val (.ref o0), .val (.long j1), .second, .val (.int (f4_30_s0 j1 x0 x1 x2 x3)), .unset] [])) (fun t k => ?_) ?_
      · refine XS.ifYes X3.here hx rfl (pc0 := 43) (pc' := 63) rfl (hb hby d4_43) rfl ((if0 _ _).trans (teq hc43).1) (by decide) (by decide) ?_
        show Steps p.tables e below (T3.setTop (mkF m 63 #[.val (.ref o0), .val (.long j1), .second, .val (.int (f4_30_s0 j1 x0 x1 x2 x3)), .unset] [])) _
        exact k
      refine Outs.of (U' := T3.setTop (mkF m 65 #[.val (.ref o0), .val (.long j1), .second, .val (.int (f4_30_s0 j1 x0 x1 x2 x3)), .unset] [(.ref o0), (.long j1)])) (fun t k => ?_) ?_
      · refine XS.lloadN X3.here hx rfl (hb hby d4_63) rfl ?_
        show Steps p.tables e below (T3.setTop (mkF m 64 #[.val (.ref o0), .val (.long j1), .second, .val (.int (f4_30_s0 j1 x0 x1 x2 x3)), .unset] [(.long j1)])) _
        refine XS.aloadN X3.here hx rfl (hb hby d4_64) rfl rfl ?_
        show Steps p.tables e below (T3.setTop (mkF m 65 #[.val (.ref o0), .val (.long j1), .second, .val (.int (f4_30_s0 j1 x0 x1 x2 x3)), .unset] [(.ref o0), (.long j1)])) _
        exact k
      obtain ⟨T4, X4, e4, st4⟩ := getF X3 hx hZ hown (host := "") (Or.inl (hw _ (List.mem_of_getElem? (i := 16) rfl))) Via.refl e3 F_o0_high (g := (mkF m 65 #[.val (.ref o0), .val (.long j1), .second, .val (.int (f4_30_s0 j1 x0 x1 x2 x3)), .unset] [(.ref o0), (.long j1)])) rfl rfl (hb hby d4_65)
      refine Outs.of st4 ?_
      show Outs p e below s _ _ _ (T4.setTop (mkF m 68 #[.val (.ref o0), .val (.long j1), .second, .val (.int (f4_30_s0 j1 x0 x1 x2 x3)), .unset] [(.long x2), (.long j1)]))
      refine Outs.of (U' := T4.setTop (mkF m 77 #[.val (.ref o0), .val (.long j1), .second, .val (.int (f4_30_s0 j1 x0 x1 x2 x3)), .unset] [(.int (f4_69_s0 j1 x0 x1 x2 x3))])) (fun t k => ?_) ?_
      · refine XS.lcmp X4.here hx rfl (hb hby d4_68) rfl ?_
        show Steps p.tables e below (T4.setTop (mkF m 69 #[.val (.ref o0), .val (.long j1), .second, .val (.int (f4_30_s0 j1 x0 x1 x2 x3)), .unset] [(.int (lcmpW j1 x2))])) _
        by_cases hc69 : j1 < x2
        · refine XS.ifNo X4.here hx rfl (hb hby d4_69) rfl ((if0 _ _).trans (tlt ((lw_lt _ _).mpr hc69)).2.1) ?_
          show Steps p.tables e below (T4.setTop (mkF m 72 #[.val (.ref o0), .val (.long j1), .second, .val (.int (f4_30_s0 j1 x0 x1 x2 x3)), .unset] [])) _
          refine XS.iconst X4.here hx rfl (hb hby d4_72) ?_
          show Steps p.tables e below (T4.setTop (mkF m 73 #[.val (.ref o0), .val (.long j1), .second, .val (.int (f4_30_s0 j1 x0 x1 x2 x3)), .unset] [(.int (1 : Int32))])) _
          refine XS.goto X4.here hx rfl (pc0 := 73) (pc' := 77) rfl (hb hby d4_73) (by decide) (by decide) ?_
          show Steps p.tables e below (T4.setTop (mkF m 77 #[.val (.ref o0), .val (.long j1), .second, .val (.int (f4_30_s0 j1 x0 x1 x2 x3)), .unset] [(.int (1 : Int32))])) _
          rw [show (f4_69_s0 j1 x0 x1 x2 x3) = (1 : Int32) from (if_pos hc69)] at k
          exact k
        · refine XS.ifYes X4.here hx rfl (pc0 := 69) (pc' := 76) rfl (hb hby d4_69) rfl ((if0 _ _).trans (flt (fun q_ => hc69 ((lw_lt _ _).mp q_))).2.1) (by decide) (by decide) ?_
          show Steps p.tables e below (T4.setTop (mkF m 76 #[.val (.ref o0), .val (.long j1), .second, .val (.int (f4_30_s0 j1 x0 x1 x2 x3)), .unset] [])) _
          refine XS.iconst X4.here hx rfl (hb hby d4_76) ?_
          show Steps p.tables e below (T4.setTop (mkF m 77 #[.val (.ref o0), .val (.long j1), .second, .val (.int (f4_30_s0 j1 x0 x1 x2 x3)), .unset] [(.int (0 : Int32))])) _
          rw [show (f4_69_s0 j1 x0 x1 x2 x3) = (0 : Int32) from (if_neg hc69)] at k
          exact k
      refine Outs.of (U' := T4.setTop (mkF m 93 #[.val (.ref o0), .val (.long j1), .second, .val (.int (f4_30_s0 j1 x0 x1 x2 x3)), .val (.int (f4_69_s0 j1 x0 x1 x2 x3))] [(.int (f4_80_s0 j1 x0 x1 x2 x3))])) (fun t k => ?_) ?_
      · refine XS.istore X4.here hx rfl (hb hby d4_77) rfl (l' := #[.val (.ref o0), .val (.long j1), .second, .val (.int (f4_30_s0 j1 x0 x1 x2 x3)), .val (.int (f4_69_s0 j1 x0 x1 x2 x3))]) rfl ?_
        show Steps p.tables e below (T4.setTop (mkF m 79 #[.val (.ref o0), .val (.long j1), .second, .val (.int (f4_30_s0 j1 x0 x1 x2 x3)), .val (.int (f4_69_s0 j1 x0 x1 x2 x3))] [])) _
        refine XS.iloadN X4.here hx rfl (hb hby d4_79) rfl ?_
        show Steps p.tables e below (T4.setTop (mkF m 80 #[.val (.ref o0), .val (.long j1), .second, .val (.int (f4_30_s0 j1 x0 x1 x2 x3)), .val (.int (f4_69_s0 j1 x0 x1 x2 x3))] [(.int (f4_30_s0 j1 x0 x1 x2 x3))])) _
        by_cases hc80 : (f4_30_s0 j1 x0 x1 x2 x3) = (0 : Int32)
        · refine XS.ifYes X4.here hx rfl (pc0 := 80) (pc' := 92) rfl (hb hby d4_80) rfl ((if0 _ _).trans (teq hc80).1) (by decide) (by decide) ?_
          show Steps p.tables e below (T4.setTop (mkF m 92 #[.val (.ref o0), .val (.long j1), .second, .val (.int (f4_30_s0 j1 x0 x1 x2 x3)), .val (.int (f4_69_s0 j1 x0 x1 x2 x3))] [])) _
          refine XS.iconst X4.here hx rfl (hb hby d4_92) ?_
          show Steps p.tables e below (T4.setTop (mkF m 93 #[.val (.ref o0), .val (.long j1), .second, .val (.int (f4_30_s0 j1 x0 x1 x2 x3)), .val (.int (f4_69_s0 j1 x0 x1 x2 x3))] [(.int (0 : Int32))])) _
          rw [show (f4_80_s0 j1 x0 x1 x2 x3) = (0 : Int32) from (if_pos hc80)] at k
          exact k
        · refine XS.ifNo X4.here hx rfl (hb hby d4_80) rfl ((if0 _ _).trans (feq hc80).1) ?_
          show Steps p.tables e below (T4.setTop (mkF m 83 #[.val (.ref o0), .val (.long j1), .second, .val (.int (f4_30_s0 j1 x0 x1 x2 x3)), .val (.int (f4_69_s0 j1 x0 x1 x2 x3))] [])) _
          refine XS.iload X4.here hx rfl (hb hby d4_83) rfl ?_
          show Steps p.tables e below (T4.setTop (mkF m 85 #[.val (.ref o0), .val (.long j1), .second, .val (.int (f4_30_s0 j1 x0 x1 x2 x3)), .val (.int (f4_69_s0 j1 x0 x1 x2 x3))] [(.int (f4_69_s0 j1 x0 x1 x2 x3))])) _
          by_cases hc85 : (f4_69_s0 j1 x0 x1 x2 x3) = (0 : Int32)
          · refine XS.ifYes X4.here hx rfl (pc0 := 85) (pc' := 92) rfl (hb hby d4_85) rfl ((if0 _ _).trans (teq hc85).1) (by decide) (by decide) ?_
            show Steps p.tables e below (T4.setTop (mkF m 92 #[.val (.ref o0), .val (.long j1), .second, .val (.int (f4_30_s0 j1 x0 x1 x2 x3)), .val (.int (f4_69_s0 j1 x0 x1 x2 x3))] [])) _
            refine XS.iconst X4.here hx rfl (hb hby d4_92) ?_
            show Steps p.tables e below (T4.setTop (mkF m 93 #[.val (.ref o0), .val (.long j1), .second, .val (.int (f4_30_s0 j1 x0 x1 x2 x3)), .val (.int (f4_69_s0 j1 x0 x1 x2 x3))] [(.int (0 : Int32))])) _
            rw [show (f4_80_s0 j1 x0 x1 x2 x3) = (0 : Int32) from ((if_neg hc80).trans (if_pos hc85))] at k
            exact k
          · refine XS.ifNo X4.here hx rfl (hb hby d4_85) rfl ((if0 _ _).trans (feq hc85).1) ?_
            show Steps p.tables e below (T4.setTop (mkF m 88 #[.val (.ref o0), .val (.long j1), .second, .val (.int (f4_30_s0 j1 x0 x1 x2 x3)), .val (.int (f4_69_s0 j1 x0 x1 x2 x3))] [])) _
            refine XS.iconst X4.here hx rfl (hb hby d4_88) ?_
            show Steps p.tables e below (T4.setTop (mkF m 89 #[.val (.ref o0), .val (.long j1), .second, .val (.int (f4_30_s0 j1 x0 x1 x2 x3)), .val (.int (f4_69_s0 j1 x0 x1 x2 x3))] [(.int (1 : Int32))])) _
            refine XS.goto X4.here hx rfl (pc0 := 89) (pc' := 93) rfl (hb hby d4_89) (by decide) (by decide) ?_
            show Steps p.tables e below (T4.setTop (mkF m 93 #[.val (.ref o0), .val (.long j1), .second, .val (.int (f4_30_s0 j1 x0 x1 x2 x3)), .val (.int (f4_69_s0 j1 x0 x1 x2 x3))] [(.int (1 : Int32))])) _
            rw [show (f4_80_s0 j1 x0 x1 x2 x3) = (1 : Int32) from ((if_neg hc80).trans (if_neg hc85))] at k
            exact k
      exact Outs.retN (t := .boolean) (z := (f4_80_s0 j1 x0 x1 x2 x3)) X4 hx hret (by simp) (hb hby d4_93) hlk (by decide) (by decide) e4 ⟨congrArg (fun z_ => some (Value.int z_)) (show (F_f4 j1 x0 x1 x2 x3) = (nar .boolean (f4_80_s0 j1 x0 x1 x2 x3)) from ((if_pos hc4).trans (if_pos hc43))).symm, N0, rfl⟩
    · refine Outs.of (U' := T3.setTop (mkF m 46 #[.val (.ref o0), .val (.long j1), .second, .val (.int (f4_30_s0 j1 x0 x1 x2 x3)), .unset] [])) (fun t k => ?_) ?_
      · refine XS.ifNo X3.here hx rfl (hb hby d4_43) rfl ((if0 _ _).trans (feq hc43).1) ?_
        show Steps p.tables e below (T3.setTop (mkF m 46 #[.val (.ref o0), .val (.long j1), .second, .val (.int (f4_30_s0 j1 x0 x1 x2 x3)), .unset] [])) _
        exact k
      refine Outs.of (U' := T3.setTop (mkF m 48 #[.val (.ref o0), .val (.long j1), .second, .val (.int (f4_30_s0 j1 x0 x1 x2 x3)), .unset] [(.ref o0), (.long j1)])) (fun t k => ?_) ?_
      · refine XS.lloadN X3.here hx rfl (hb hby d4_46) rfl ?_
        show Steps p.tables e below (T3.setTop (mkF m 47 #[.val (.ref o0), .val (.long j1), .second, .val (.int (f4_30_s0 j1 x0 x1 x2 x3)), .unset] [(.long j1)])) _
        refine XS.aloadN X3.here hx rfl (hb hby d4_47) rfl rfl ?_
        show Steps p.tables e below (T3.setTop (mkF m 48 #[.val (.ref o0), .val (.long j1), .second, .val (.int (f4_30_s0 j1 x0 x1 x2 x3)), .unset] [(.ref o0), (.long j1)])) _
        exact k
      obtain ⟨T5, X5, e5, st5⟩ := getF X3 hx hZ hown (host := "") (Or.inl (hw _ (List.mem_of_getElem? (i := 16) rfl))) Via.refl e3 F_o0_high (g := (mkF m 48 #[.val (.ref o0), .val (.long j1), .second, .val (.int (f4_30_s0 j1 x0 x1 x2 x3)), .unset] [(.ref o0), (.long j1)])) rfl rfl (hb hby d4_48)
      refine Outs.of st5 ?_
      show Outs p e below s _ _ _ (T5.setTop (mkF m 51 #[.val (.ref o0), .val (.long j1), .second, .val (.int (f4_30_s0 j1 x0 x1 x2 x3)), .unset] [(.long x2), (.long j1)]))
      refine Outs.of (U' := T5.setTop (mkF m 77 #[.val (.ref o0), .val (.long j1), .second, .val (.int (f4_30_s0 j1 x0 x1 x2 x3)), .unset] [(.int (f4_52_s0 j1 x0 x1 x2 x3))])) (fun t k => ?_) ?_
      · refine XS.lcmp X5.here hx rfl (hb hby d4_51) rfl ?_
        show Steps p.tables e below (T5.setTop (mkF m 52 #[.val (.ref o0), .val (.long j1), .second, .val (.int (f4_30_s0 j1 x0 x1 x2 x3)), .unset] [(.int (lcmpW j1 x2))])) _
        by_cases hc52 : x2 < j1
        · refine XS.ifYes X5.here hx rfl (pc0 := 52) (pc' := 59) rfl (hb hby d4_52) rfl ((if0 _ _).trans (tlt ((lw_gt _ _).mpr hc52)).2.2.1) (by decide) (by decide) ?_
          show Steps p.tables e below (T5.setTop (mkF m 59 #[.val (.ref o0), .val (.long j1), .second, .val (.int (f4_30_s0 j1 x0 x1 x2 x3)), .unset] [])) _
          refine XS.iconst X5.here hx rfl (hb hby d4_59) ?_
          show Steps p.tables e below (T5.setTop (mkF m 60 #[.val (.ref o0), .val (.long j1), .second, .val (.int (f4_30_s0 j1 x0 x1 x2 x3)), .unset] [(.int (0 : Int32))])) _
          refine XS.goto X5.here hx rfl (pc0 := 60) (pc' := 77) rfl (hb hby d4_60) (by decide) (by decide) ?_
          show Steps p.tables e below (T5.setTop (mkF m 77 #[.val (.ref o0), .val (.long j1), .second, .val (.int (f4_30_s0 j1 x0 x1 x2 x3)), .unset] [(.int (0 : Int32))])) _
          rw [show (f4_52_s0 j1 x0 x1 x2 x3) = (0 : Int32) from (if_pos hc52)] at k
          exact k
        · refine XS.ifNo X5.here hx rfl (hb hby d4_52) rfl ((if0 _ _).trans (flt (fun q_ => hc52 ((lw_gt _ _).mp q_))).2.2.1) ?_
          show Steps p.tables e below (T5.setTop (mkF m 55 #[.val (.ref o0), .val (.long j1), .second, .val (.int (f4_30_s0 j1 x0 x1 x2 x3)), .unset] [])) _
          refine XS.iconst X5.here hx rfl (hb hby d4_55) ?_
          show Steps p.tables e below (T5.setTop (mkF m 56 #[.val (.ref o0), .val (.long j1), .second, .val (.int (f4_30_s0 j1 x0 x1 x2 x3)), .unset] [(.int (1 : Int32))])) _
          refine XS.goto X5.here hx rfl (pc0 := 56) (pc' := 77) rfl (hb hby d4_56) (by decide) (by decide) ?_
          show Steps p.tables e below (T5.setTop (mkF m 77 #[.val (.ref o0), .val (.long j1), .second, .val (.int (f4_30_s0 j1 x0 x1 x2 x3)), .unset] [(.int (1 : Int32))])) _
          rw [show (f4_52_s0 j1 x0 x1 x2 x3) = (1 : Int32) from (if_neg hc52)] at k
          exact k
      refine Outs.of (U' := T5.setTop (mkF m 93 #[.val (.ref o0), .val (.long j1), .second, .val (.int (f4_30_s0 j1 x0 x1 x2 x3)), .val (.int (f4_52_s0 j1 x0 x1 x2 x3))] [(.int (f4_80_s0a j1 x0 x1 x2 x3))])) (fun t k => ?_) ?_
      · refine XS.istore X5.here hx rfl (hb hby d4_77) rfl (l' := #[.val (.ref o0), .val (.long j1), .second, .val (.int (f4_30_s0 j1 x0 x1 x2 x3)), .val (.int (f4_52_s0 j1 x0 x1 x2 x3))]) rfl ?_
        show Steps p.tables e below (T5.setTop (mkF m 79 #[.val (.ref o0), .val (.long j1), .second, .val (.int (f4_30_s0 j1 x0 x1 x2 x3)), .val (.int (f4_52_s0 j1 x0 x1 x2 x3))] [])) _
        refine XS.iloadN X5.here hx rfl (hb hby d4_79) rfl ?_
        show Steps p.tables e below (T5.setTop (mkF m 80 #[.val (.ref o0), .val (.long j1), .second, .val (.int (f4_30_s0 j1 x0 x1 x2 x3)), .val (.int (f4_52_s0 j1 x0 x1 x2 x3))] [(.int (f4_30_s0 j1 x0 x1 x2 x3))])) _
        by_cases hc80 : (f4_30_s0 j1 x0 x1 x2 x3) = (0 : Int32)
        · refine XS.ifYes X5.here hx rfl (pc0 := 80) (pc' := 92) rfl (hb hby d4_80) rfl ((if0 _ _).trans (teq hc80).1) (by decide) (by decide) ?_
          show Steps p.tables e below (T5.setTop (mkF m 92 #[.val (.ref o0), .val (.long j1), .second, .val (.int (f4_30_s0 j1 x0 x1 x2 x3)), .val (.int (f4_52_s0 j1 x0 x1 x2 x3))] [])) _
          refine XS.iconst X5.here hx rfl (hb hby d4_92) ?_
          show Steps p.tables e below (T5.setTop (mkF m 93 #[.val (.ref o0), .val (.long j1), .second, .val (.int (f4_30_s0 j1 x0 x1 x2 x3)), .val (.int (f4_52_s0 j1 x0 x1 x2 x3))] [(.int (0 : Int32))])) _
          rw [show (f4_80_s0a j1 x0 x1 x2 x3) = (0 : Int32) from (if_pos hc80)] at k
          exact k
        · refine XS.ifNo X5.here hx rfl (hb hby d4_80) rfl ((if0 _ _).trans (feq hc80).1) ?_
          show Steps p.tables e below (T5.setTop (mkF m 83 #[.val (.ref o0), .val (.long j1), .second, .val (.int (f4_30_s0 j1 x0 x1 x2 x3)), .val (.int (f4_52_s0 j1 x0 x1 x2 x3))] [])) _
          refine XS.iload X5.here hx rfl (hb hby d4_83) rfl ?_
          show Steps p.tables e below (T5.setTop (mkF m 85 #[.val (.ref o0), .val (.long j1), .second, .val (.int (f4_30_s0 j1 x0 x1 x2 x3)), .val (.int (f4_52_s0 j1 x0 x1 x2 x3))] [(.int (f4_52_s0 j1 x0 x1 x2 x3))])) _
          by_cases hc85 : (f4_52_s0 j1 x0 x1 x2 x3) = (0 : Int32)
          · refine XS.ifYes X5.here hx rfl (pc0 := 85) (pc' := 92) rfl (hb hby d4_85) rfl ((if0 _ _).trans (teq hc85).1) (by decide) (by decide) ?_
            show Steps p.tables e below (T5.setTop (mkF m 92 #[.val (.ref o0), .val (.long j1), .second, .val (.int (f4_30_s0 j1 x0 x1 x2 x3)), .val (.int (f4_52_s0 j1 x0 x1 x2 x3))] [])) _
            refine XS.iconst X5.here hx rfl (hb hby d4_92) ?_
            show Steps p.tables e below (T5.setTop (mkF m 93 #[.val (.ref o0), .val (.long j1), .second, .val (.int (f4_30_s0 j1 x0 x1 x2 x3)), .val (.int (f4_52_s0 j1 x0 x1 x2 x3))] [(.int (0 : Int32))])) _
            rw [show (f4_80_s0a j1 x0 x1 x2 x3) = (0 : Int32) from ((if_neg hc80).trans (if_pos hc85))] at k
            exact k
          · refine XS.ifNo X5.here hx rfl (hb hby d4_85) rfl ((if0 _ _).trans (feq hc85).1) ?_
            show Steps p.tables e below (T5.setTop (mkF m 88 #[.val (.ref o0), .val (.long j1), .second, .val (.int (f4_30_s0 j1 x0 x1 x2 x3)), .val (.int (f4_52_s0 j1 x0 x1 x2 x3))] [])) _
            refine XS.iconst X5.here hx rfl (hb hby d4_88) ?_
            show Steps p.tables e below (T5.setTop (mkF m 89 #[.val (.ref o0), .val (.long j1), .second, .val (.int (f4_30_s0 j1 x0 x1 x2 x3)), .val (.int (f4_52_s0 j1 x0 x1 x2 x3))] [(.int (1 : Int32))])) _
            refine XS.goto X5.here hx rfl (pc0 := 89) (pc' := 93) rfl (hb hby d4_89) (by decide) (by decide) ?_
            show Steps p.tables e below (T5.setTop (mkF m 93 #[.val (.ref o0), .val (.long j1), .second, .val (.int (f4_30_s0 j1 x0 x1 x2 x3)), .val (.int (f4_52_s0 j1 x0 x1 x2 x3))] [(.int (1 : Int32))])) _
            rw [show (f4_80_s0a j1 x0 x1 x2 x3) = (1 : Int32) from ((if_neg hc80).trans (if_neg hc85))] at k
            exact k
      exact Outs.retN (t := .boolean) (z := (f4_80_s0a j1 x0 x1 x2 x3)) X5 hx hret (by simp) (hb hby d4_93) hlk (by decide) (by decide) e5 ⟨congrArg (fun z_ => some (Value.int z_)) (show (F_f4 j1 x0 x1 x2 x3) = (nar .boolean (f4_80_s0a j1 x0 x1 x2 x3)) from ((if_pos hc4).trans (if_neg hc43))).symm, N0, rfl⟩
  · refine Outs.of (U' := T1.setTop (mkF m 7 #[.val (.ref o0), .val (.long j1), .second, .unset, .unset] [])) (fun t k => ?_) ?_
    · refine XS.ifNo X1.here hx rfl (hb hby d4_4) rfl ((if0 _ _).trans (feq hc4).1) ?_
      show Steps p.tables e below (T1.setTop (mkF m 7 #[.val (.ref o0), .val (.long j1), .second, .unset, .unset] [])) _
      exact k
    refine Outs.of (U' := T1.setTop (mkF m 9 #[.val (.ref o0), .val (.long j1), .second, .unset, .unset] [(.ref o0), (.long j1)])) (fun t k => ?_) ?_
    · refine XS.lloadN X1.here hx rfl (hb hby d4_7) rfl ?_
      show Steps p.tables e below (T1.setTop (mkF m 8 #[.val (.ref o0), .val (.long j1), .second, .unset, .unset] [(.long j1)])) _
      refine XS.aloadN X1.here hx rfl (hb hby d4_8) rfl rfl ?_
      show Steps p.tables e below (T1.setTop (mkF m 9 #[.val (.ref o0), .val (.long j1), .second, .unset, .unset] [(.ref o0), (.long j1)])) _
      exact k
    obtain ⟨T6, X6, e6, st6⟩ := getF X1 hx hZ hown (host := "") (Or.inl (hw _ (List.mem_of_getElem? (i := 12) rfl))) Via.refl e1 F_o0_low (g := (mkF m 9 #[.val (.ref o0), .val (.long j1), .second, .unset, .unset] [(.ref o0), (.long j1)])) rfl rfl (hb hby d4_9)
    refine Outs.of st6 ?_
    show Outs p e below s _ _ _ (T6.setTop (mkF m 12 #[.val (.ref o0), .val (.long j1), .second, .unset, .unset] [(.long x0), (.long j1)]))
    refine Outs.of (U' := T6.setTop (mkF m 38 #[.val (.ref o0), .val (.long j1), .second, .unset, .unset] [(.int (f4_13_s0 j1 x0 x1 x2 x3))])) (fun t k => ?_) ?_
    · refine XS.lcmp X6.here hx rfl (hb hby d4_12) rfl ?_
      show Steps p.tables e below (T6.setTop (mkF m 13 #[.val (.ref o0), .val (.long j1), .second, .unset, .unset] [(.int (lcmpW j1 x0))])) _
      by_cases hc13 : j1 < x0
      · refine XS.ifYes X6.here hx rfl (pc0 := 13) (pc' := 20) rfl (hb hby d4_13) rfl ((if0 _ _).trans (tlt ((lw_lt _ _).mpr hc13)).1) (by decide) (by decide) ?_
        show Steps p.tables e below (T6.setTop (mkF m 20 #[.val (.ref o0), .val (.long j1), .second, .unset, .unset] [])) _
        refine XS.iconst X6.here hx rfl (hb hby d4_20) ?_
        show Steps p.tables e below (T6.setTop (mkF m 21 #[.val (.ref o0), .val (.long j1), .second, .unset, .unset] [(.int (0 : Int32))])) _
        refine XS.goto X6.here hx rfl (pc0 := 21) (pc' := 38) rfl (hb hby d4_21) (by decide) (by decide) ?_
        show Steps p.tables e below (T6.setTop (mkF m 38 #[.val (.ref o0), .val (.long j1), .second, .unset, .unset] [(.int (0 : Int32))])) _
        rw [show (f4_13_s0 j1 x0 x1 x2 x3) = (0 : Int32) from (if_pos hc13)] at k
        exact k
      · refine XS.ifNo X6.here hx rfl (hb hby d4_13) rfl ((if0 _ _).trans (flt (fun q_ => hc13 ((lw_lt _ _).mp q_))).1) ?_
        show Steps p.tables e below (T6.setTop (mkF m 16 #[.val (.ref o0), .val (.long j1), .second, .unset, .unset] [])) _
        refine XS.iconst X6.here hx rfl (hb hby d4_16) ?_
        show Steps p.tables e below (T6.setTop (mkF m 17 #[.val (.ref o0), .val (.long j1), .second, .unset, .unset] [(.int (1 : Int32))])) _
        refine XS.goto X6.here hx rfl (pc0 := 17) (pc' := 38) rfl (hb hby d4_17) (by decide) (by decide) ?_
        show Steps p.tables e below (T6.setTop (mkF m 38 #[.val (.ref o0), .val (.long j1), .second, .unset, .unset] [(.int (1 : Int32))])) _
        rw [show (f4_13_s0 j1 x0 x1 x2 x3) = (1 : Int32) from (if_neg hc13)] at k
        exact k
    refine Outs.of (U' := T6.setTop (mkF m 40 #[.val (.ref o0), .val (.long j1), .second, .val (.int (f4_13_s0 j1 x0 x1 x2 x3)), .unset] [(.ref o0)])) (fun t k => ?_) ?_
    · refine XS.istoreN X6.here hx rfl (hb hby d4_38) rfl (l' := #[.val (.ref o0), .val (.long j1), .second, .val (.int (f4_13_s0 j1 x0 x1 x2 x3)), .unset]) rfl ?_
      show Steps p.tables e below (T6.setTop (mkF m 39 #[.val (.ref o0), .val (.long j1), .second, .val (.int (f4_13_s0 j1 x0 x1 x2 x3)), .unset] [])) _
      refine XS.aloadN X6.here hx rfl (hb hby d4_39) rfl rfl ?_
      show Steps p.tables e below (T6.setTop (mkF m 40 #[.val (.ref o0), .val (.long j1), .second, .val (.int (f4_13_s0 j1 x0 x1 x2 x3)), .unset] [(.ref o0)])) _
      exact k
    obtain ⟨T7, X7, e7, st7⟩ := getF X6 hx hZ hown (host := "") (Or.inl (hw _ (List.mem_of_getElem? (i := 18) rfl))) Via.refl e6 F_o0_highInclusive (g := (mkF m 40 #[.val (.ref o0), .val (.long j1), .second, .val (.int (f4_13_s0 j1 x0 x1 x2 x3)), .unset] [(.ref o0)])) rfl rfl (hb hby d4_40)
    refine Outs.of st7 ?_
    show Outs p e below s _ _ _ (T7.setTop (mkF m 43 #[.val (.ref o0), .val (.long j1), .second, .val (.int (f4_13_s0 j1 x0 x1 x2 x3)), .unset] [(.int x3)]))
    by_cases hc43 : x3 = (0 : Int32)
    · refine Outs.of (U' := T7.setTop (mkF m 63 #[.val (.ref o0), .val (.long j1), .second, .val (.int (f4_13_s0 j1 x0 x1 x2 x3)), .unset] [])) (fun t k => ?_) ?_
      · refine XS.ifYes X7.here hx rfl (pc0 := 43) (pc' := 63) rfl (hb hby d4_43) rfl ((if0 _ _).trans (teq hc43).1) (by decide) (by decide) ?_
        show Steps p.tables e below (T7.setTop (mkF m 63 #[.val (.ref o0), .val (.long j1), .second, .val (.int (f4_13_s0 j1 x0 x1 x2 x3)), .unset] [])) _
        exact k
      refine Outs.of (U' := T7.setTop (mkF m 65 #[.val (.ref o0), .val (.long j1), .second, .val (.int (f4_13_s0 j1 x0 x1 x2 x3)), .unset] [(.ref o0), (.long j1)])) (fun t k => ?_) ?_
      · refine XS.lloadN X7.here hx rfl (hb hby d4_63) rfl ?_
        show Steps p.tables e below (T7.setTop (mkF m 64 #[.val (.ref o0), .val (.long j1), .second, .val (.int (f4_13_s0 j1 x0 x1 x2 x3)), .unset] [(.long j1)])) _
        refine XS.aloadN X7.here hx rfl (hb hby d4_64) rfl rfl ?_
        show Steps p.tables e below (T7.setTop (mkF m 65 #[.val (.ref o0), .val (.long j1), .second, .val (.int (f4_13_s0 j1 x0 x1 x2 x3)), .unset] [(.ref o0), (.long j1)])) _
        exact k
      obtain ⟨T8, X8, e8, st8⟩ := getF X7 hx hZ hown (host := "") (Or.inl (hw _ (List.mem_of_getElem? (i := 16) rfl))) Via.refl e7 F_o0_high (g := (mkF m 65 #[.val (.ref o0), .val (.long j1), .second, .val (.int (f4_13_s0 j1 x0 x1 x2 x3)), .unset] [(.ref o0), (.long j1)])) rfl rfl (hb hby d4_65)
      refine Outs.of st8 ?_
      show Outs p e below s _ _ _ (T8.setTop (mkF m 68 #[.val (.ref o0), .val (.long j1), .second, .val (.int (f4_13_s0 j1 x0 x1 x2 x3)), .unset] [(.long x2), (.long j1)]))
      refine Outs.of (U' := T8.setTop (mkF m 77 #[.val (.ref o0), .val (.long j1), .second, .val (.int (f4_13_s0 j1 x0 x1 x2 x3)), .unset] [(.int (f4_69_s0 j1 x0 x1 x2 x3))])) (fun t k => ?_) ?_
      · refine XS.lcmp X8.here hx rfl (hb hby d4_68) rfl ?_
        show Steps p.tables e below (T8.setTop (mkF m 69 #[.val (.ref o0), .val (.long j1), .second, .val (.int (f4_13_s0 j1 x0 x1 x2 x3)), .unset] [(.int (lcmpW j1 x2))])) _
        by_cases hc69 : j1 < x2
        · refine XS.ifNo X8.here hx rfl (hb hby d4_69) rfl ((if0 _ _).trans (tlt ((lw_lt _ _).mpr hc69)).2.1) ?_
          show Steps p.tables e below (T8.setTop (mkF m 72 #[.val (.ref o0), .val (.long j1), .second, .val (.int (f4_13_s0 j1 x0 x1 x2 x3)), .unset] [])) _
          refine XS.iconst X8.here hx rfl (hb hby d4_72) ?_
          show Steps p.tables e below (T8.setTop (mkF m 73 #[.val (.ref o0), .val (.long j1), .second, .val (.int (f4_13_s0 j1 x0 x1 x2 x3)), .unset] [(.int (1 : Int32))])) _
          refine XS.goto X8.here hx rfl (pc0 := 73) (pc' := 77) rfl (hb hby d4_73) (by decide) (by decide) ?_
          show Steps p.tables e below (T8.setTop (mkF m 77 #[.val (.ref o0), .val (.long j1), .second, .val (.int (f4_13_s0 j1 x0 x1 x2 x3)), .unset] [(.int (1 : Int32))])) _
          rw [show (f4_69_s0 j1 x0 x1 x2 x3) = (1 : Int32) from (if_pos hc69)] at k
          exact k
        · refine XS.ifYes X8.here hx rfl (pc0 := 69) (pc' := 76) rfl (hb hby d4_69) rfl ((if0 _ _).trans (flt (fun q_ => hc69 ((lw_lt _ _).mp q_))).2.1) (by decide) (by decide) ?_
          show Steps p.tables e below (T8.setTop (mkF m 76 #[.val (.ref o0), .val (.long j1), .second, .val (.int (f4_13_s0 j1 x0 x1 x2 x3)), .unset] [])) _
          refine XS.iconst X8.here hx rfl (hb hby d4_76) ?_
          show Steps p.tables e below (T8.setTop (mkF m 77 #[.val (.ref o0), .val (.long j1), .second, .val (.int (f4_13_s0 j1 x0 x1 x2 x3)), .unset] [(.int (0 : Int32))])) _
          rw [show (f4_69_s0 j1 x0 x1 x2 x3) = (0 : Int32) from (if_neg hc69)] at k
          exact k
      refine Outs.of (U' := T8.setTop (mkF m 93 #[.val (.ref o0), .val (.long j1), .second, .val (.int (f4_13_s0 j1 x0 x1 x2 x3)), .val (.int (f4_69_s0 j1 x0 x1 x2 x3))] [(.int (f4_80_s0b j1 x0 x1 x2 x3))])) (fun t k => ?_) ?_
      · refine XS.istore X8.here hx rfl (hb hby d4_77) rfl (l' := #[.val (.ref o0), .val (.long j1), .second, .val (.int (f4_13_s0 j1 x0 x1 x2 x3)), .val (.int (f4_69_s0 j1 x0 x1 x2 x3))]) rfl ?_
        show Steps p.tables e below (T8.setTop (mkF m 79 #[.val (.ref o0), .val (.long j1), .second, .val (.int (f4_13_s0 j1 x0 x1 x2 x3)), .val (.int (f4_69_s0 j1 x0 x1 x2 x3))] [])) _
        refine XS.iloadN X8.here hx rfl (hb hby d4_79) rfl ?_
        show Steps p.tables e below (T8.setTop (mkF m 80 #[.val (.ref o0), .val (.long j1), .second, .val (.int (f4_13_s0 j1 x0 x1 x2 x3)), .val (.int (f4_69_s0 j1 x0 x1 x2 x3))] [(.int (f4_13_s0 j1 x0 x1 x2 x3))])) _
        by_cases hc80 : (f4_13_s0 j1 x0 x1 x2 x3) = (0 : Int32)
        · refine XS.ifYes X8.here hx rfl (pc0 := 80) (pc' := 92) rfl (hb hby d4_80) rfl ((if0 _ _).trans (teq hc80).1) (by decide) (by decide) ?_
          show Steps p.tables e below (T8.setTop (mkF m 92 #[.val (.ref o0), .val (.long j1), .second, .val (.int (f4_13_s0 j1 x0 x1 x2 x3)), .val (.int (f4_69_s0 j1 x0 x1 x2 x3))] [])) _
          refine XS.iconst X8.here hx rfl (hb hby d4_92) ?_
          show Steps p.tables e below (T8.setTop (mkF m 93 #[.val (.ref o0), .val (.long j1), .second, .val (.int (f4_13_s0 j1 x0 x1 x2 x3)), .val (.int (f4_69_s0 j1 x0 x1 x2 x3))] [(.int (0 : Int32))])) _
          rw [show (f4_80_s0b j1 x0 x1 x2 x3) = (0 : Int32) from (if_pos hc80)] at k
          exact k
        · refine XS.ifNo X8.here hx rfl (hb hby d4_80) rfl ((if0 _ _).trans (feq hc80).1) ?_
          show Steps p.tables e below (T8.setTop (mkF m 83 #[.val (.ref o0), .val (.long j1), .second, .val (.int (f4_13_s0 j1 x0 x1 x2 x3)), .val (.int (f4_69_s0 j1 x0 x1 x2 x3))] [])) _
          refine XS.iload X8.here hx rfl (hb hby d4_83) rfl ?_
          show Steps p.tables e below (T8.setTop (mkF m 85 #[.val (.ref o0), .val (.long j1), .second, .val (.int (f4_13_s0 j1 x0 x1 x2 x3)), .val (.int (f4_69_s0 j1 x0 x1 x2 x3))] [(.int (f4_69_s0 j1 x0 x1 x2 x3))])) _
          by_cases hc85 : (f4_69_s0 j1 x0 x1 x2 x3) = (0 : Int32)
          · refine XS.ifYes X8.here hx rfl (pc0 := 85) (pc' := 92) rfl (hb hby d4_85) rfl ((if0 _ _).trans (teq hc85).1) (by decide) (by decide) ?_
            show Steps p.tables e below (T8.setTop (mkF m 92 #[.val (.ref o0), .val (.long j1), .second, .val (.int (f4_13_s0 j1 x0 x1 x2 x3)), .val (.int (f4_69_s0 j1 x0 x1 x2 x3))] [])) _
            refine XS.iconst X8.here hx rfl (hb hby d4_92) ?_
            show Steps p.tables e below (T8.setTop (mkF m 93 #[.val (.ref o0), .val (.long j1), .second, .val (.int (f4_13_s0 j1 x0 x1 x2 x3)), .val (.int (f4_69_s0 j1 x0 x1 x2 x3))] [(.int (0 : Int32))])) _
            rw [show (f4_80_s0b j1 x0 x1 x2 x3) = (0 : Int32) from ((if_neg hc80).trans (if_pos hc85))] at k
            exact k
          · refine XS.ifNo X8.here hx rfl (hb hby d4_85) rfl ((if0 _ _).trans (feq hc85).1) ?_
            show Steps p.tables e below (T8.setTop (mkF m 88 #[.val (.ref o0), .val (.long j1), .second, .val (.int (f4_13_s0 j1 x0 x1 x2 x3)), .val (.int (f4_69_s0 j1 x0 x1 x2 x3))] [])) _
            refine XS.iconst X8.here hx rfl (hb hby d4_88) ?_
            show Steps p.tables e below (T8.setTop (mkF m 89 #[.val (.ref o0), .val (.long j1), .second, .val (.int (f4_13_s0 j1 x0 x1 x2 x3)), .val (.int (f4_69_s0 j1 x0 x1 x2 x3))] [(.int (1 : Int32))])) _
            refine XS.goto X8.here hx rfl (pc0 := 89) (pc' := 93) rfl (hb hby d4_89) (by decide) (by decide) ?_
            show Steps p.tables e below (T8.setTop (mkF m 93 #[.val (.ref o0), .val (.long j1), .second, .val (.int (f4_13_s0 j1 x0 x1 x2 x3)), .val (.int (f4_69_s0 j1 x0 x1 x2 x3))] [(.int (1 : Int32))])) _
            rw [show (f4_80_s0b j1 x0 x1 x2 x3) = (1 : Int32) from ((if_neg hc80).trans (if_neg hc85))] at k
            exact k
      exact Outs.retN (t := .boolean) (z := (f4_80_s0b j1 x0 x1 x2 x3)) X8 hx hret (by simp) (hb hby d4_93) hlk (by decide) (by decide) e8 ⟨congrArg (fun z_ => some (Value.int z_)) (show (F_f4 j1 x0 x1 x2 x3) = (nar .boolean (f4_80_s0b j1 x0 x1 x2 x3)) from ((if_neg hc4).trans (if_pos hc43))).symm, N0, rfl⟩
    · refine Outs.of (U' := T7.setTop (mkF m 46 #[.val (.ref o0), .val (.long j1), .second, .val (.int (f4_13_s0 j1 x0 x1 x2 x3)), .unset] [])) (fun t k => ?_) ?_
      · refine XS.ifNo X7.here hx rfl (hb hby d4_43) rfl ((if0 _ _).trans (feq hc43).1) ?_
        show Steps p.tables e below (T7.setTop (mkF m 46 #[.val (.ref o0), .val (.long j1), .second, .val (.int (f4_13_s0 j1 x0 x1 x2 x3)), .unset] [])) _
        exact k
      refine Outs.of (U' := T7.setTop (mkF m 48 #[.val (.ref o0), .val (.long j1), .second, .val (.int (f4_13_s0 j1 x0 x1 x2 x3)), .unset] [(.ref o0), (.long j1)])) (fun t k => ?_) ?_
      · refine XS.lloadN X7.here hx rfl (hb hby d4_46) rfl ?_
        show Steps p.tables e below (T7.setTop (mkF m 47 #[.val (.ref o0), .val (.long j1), .second, .val (.int (f4_13_s0 j1 x0 x1 x2 x3)), .unset] [(.long j1)])) _
        refine XS.aloadN X7.here hx rfl (hb hby d4_47) rfl rfl ?_
        show Steps p.tables e below (T7.setTop (mkF m 48 #[.val (.ref o0), .val (.long j1), .second, .val (.int (f4_13_s0 j1 x0 x1 x2 x3)), .unset] [(.ref o0), (.long j1)])) _
        exact k
      obtain ⟨T9, X9, e9, st9⟩ := getF X7 hx hZ hown (host := "") (Or.inl (hw _ (List.mem_of_getElem? (i := 16) rfl))) Via.refl e7 F_o0_high (g := (mkF m 48 #[.val (.ref o0), .val (.long j1), .second, .val (.int (f4_13_s0 j1 x0 x1 x2 x3)), .unset] [(.ref o0), (.long j1)])) rfl rfl (hb hby d4_48)
      refine Outs.of st9 ?_
      show Outs p e below s _ _ _ (T9.setTop (mkF m 51 #[.val (.ref o0), .val (.long j1), .second, .val (.int (f4_13_s0 j1 x0 x1 x2 x3)), .unset] [(.long x2), (.long j1)]))
      refine Outs.of (U' := T9.setTop (mkF m 77 #[.val (.ref o0), .val (.long j1), .second, .val (.int (f4_13_s0 j1 x0 x1 x2 x3)), .unset] [(.int (f4_52_s0 j1 x0 x1 x2 x3))])) (fun t k => ?_) ?_
      · refine XS.lcmp X9.here hx rfl (hb hby d4_51) rfl ?_
        show Steps p.tables e below (T9.setTop (mkF m 52 #[.val (.ref o0), .val (.long j1), .second, .val (.int (f4_13_s0 j1 x0 x1 x2 x3)), .unset] [(.int (lcmpW j1 x2))])) _
        by_cases hc52 : x2 < j1
        · refine XS.ifYes X9.here hx rfl (pc0 := 52) (pc' := 59) rfl (hb hby d4_52) rfl ((if0 _ _).trans (tlt ((lw_gt _ _).mpr hc52)).2.2.1) (by decide) (by decide) ?_
          show Steps p.tables e below (T9.setTop (mkF m 59 #[.val (.ref o0), .val (.long j1), .second, .val (.int (f4_13_s0 j1 x0 x1 x2 x3)), .unset] [])) _
          refine XS.iconst X9.here hx rfl (hb hby d4_59) ?_
          show Steps p.tables e below (T9.setTop (mkF m 60 #[.val (.ref o0), .val (.long j1), .second, .val (.int (f4_13_s0 j1 x0 x1 x2 x3)), .unset] [(.int (0 : Int32))])) _
          refine XS.goto X9.here hx rfl (pc0 := 60) (pc' := 77) rfl (hb hby d4_60) (by decide) (by decide) ?_
          show Steps p.tables e below (T9.setTop (mkF m 77 #[.val (.ref o0), .val (.long j1), .second, .val (.int (f4_13_s0 j1 x0 x1 x2 x3)), .unset] [(.int (0 : Int32))])) _
          rw [show (f4_52_s0 j1 x0 x1 x2 x3) = (0 : Int32) from (if_pos hc52)] at k
          exact k
        · refine XS.ifNo X9.here hx rfl (hb hby d4_52) rfl ((if0 _ _).trans (flt (fun q_ => hc52 ((lw_gt _ _).mp q_))).2.2.1) ?_
          show Steps p.tables e below (T9.setTop (mkF m 55 #[.val (.ref o0), .val (.long j1), .second, .val (.int (f4_13_s0 j1 x0 x1 x2 x3)), .unset] [])) _
          refine XS.iconst X9.here hx rfl (hb hby d4_55) ?_
          show Steps p.tables e below (T9.setTop (mkF m 56 #[.val (.ref o0), .val (.long j1), .second, .val (.int (f4_13_s0 j1 x0 x1 x2 x3)), .unset] [(.int (1 : Int32))])) _
          refine XS.goto X9.here hx rfl (pc0 := 56) (pc' := 77) rfl (hb hby d4_56) (by decide) (by decide) ?_
          show Steps p.tables e below (T9.setTop (mkF m 77 #[.val (.ref o0), .val (.long j1), .second, .val (.int (f4_13_s0 j1 x0 x1 x2 x3)), .unset] [(.int (1 : Int32))])) _
          rw [show (f4_52_s0 j1 x0 x1 x2 x3) = (1 : Int32) from (if_neg hc52)] at k
          exact k
      refine Outs.of (U' := T9.setTop (mkF m 93 #[.val (.ref o0), .val (.long j1), .second, .val (.int (f4_13_s0 j1 x0 x1 x2 x3)), .val (.int (f4_52_s0 j1 x0 x1 x2 x3))] [(.int (f4_80_s0c j1 x0 x1 x2 x3))])) (fun t k => ?_) ?_
      · refine XS.istore X9.here hx rfl (hb hby d4_77) rfl (l' := #[.val (.ref o0), .val (.long j1), .second, .val (.int (f4_13_s0 j1 x0 x1 x2 x3)), .val (.int (f4_52_s0 j1 x0 x1 x2 x3))]) rfl ?_
        show Steps p.tables e below (T9.setTop (mkF m 79 #[.val (.ref o0), .val (.long j1), .second, .val (.int (f4_13_s0 j1 x0 x1 x2 x3)), .val (.int (f4_52_s0 j1 x0 x1 x2 x3))] [])) _
        refine XS.iloadN X9.here hx rfl (hb hby d4_79) rfl ?_
        show Steps p.tables e below (T9.setTop (mkF m 80 #[.val (.ref o0), .val (.long j1), .second, .val (.int (f4_13_s0 j1 x0 x1 x2 x3)), .val (.int (f4_52_s0 j1 x0 x1 x2 x3))] [(.int (f4_13_s0 j1 x0 x1 x2 x3))])) _
        by_cases hc80 : (f4_13_s0 j1 x0 x1 x2 x3) = (0 : Int32)
        · refine XS.ifYes X9.here hx rfl (pc0 := 80) (pc' := 92) rfl (hb hby d4_80) rfl ((if0 _ _).trans (teq hc80).1) (by decide) (by decide) ?_
          show Steps p.tables e below (T9.setTop (mkF m 92 #[.val (.ref o0), .val (.long j1), .second, .val (.int (f4_13_s0 j1 x0 x1 x2 x3)), .val (.int (f4_52_s0 j1 x0 x1 x2 x3))] [])) _
          refine XS.iconst X9.here hx rfl (hb hby d4_92) ?_
          show Steps p.tables e below (T9.setTop (mkF m 93 #[.val (.ref o0), .val (.long j1), .second, .val (.int (f4_13_s0 j1 x0 x1 x2 x3)), .val (.int (f4_52_s0 j1 x0 x1 x2 x3))] [(.int (0 : Int32))])) _
          rw [show (f4_80_s0c j1 x0 x1 x2 x3) = (0 : Int32) from (if_pos hc80)] at k
          exact k
        · refine XS.ifNo X9.here hx rfl (hb hby d4_80) rfl ((if0 _ _).trans (feq hc80).1) ?_
          show Steps p.tables e below (T9.setTop (mkF m 83 #[.val (.ref o0), .val (.long j1), .second, .val (.int (f4_13_s0 j1 x0 x1 x2 x3)), .val (.int (f4_52_s0 j1 x0 x1 x2 x3))] [])) _
          refine XS.iload X9.here hx rfl (hb hby d4_83) rfl ?_
          show Steps p.tables e below (T9.setTop (mkF m 85 #[.val (.ref o0), .val (.long j1), .second, .val (.int (f4_13_s0 j1 x0 x1 x2 x3)), .val (.int (f4_52_s0 j1 x0 x1 x2 x3))] [(.int (f4_52_s0 j1 x0 x1 x2 x3))])) _
          by_cases hc85 : (f4_52_s0 j1 x0 x1 x2 x3) = (0 : Int32)
          · refine XS.ifYes X9.here hx rfl (pc0 := 85) (pc' := 92) rfl (hb hby d4_85) rfl ((if0 _ _).trans (teq hc85).1) (by decide) (by decide) ?_
            show Steps p.tables e below (T9.setTop (mkF m 92 #[.val (.ref o0), .val (.long j1), .second, .val (.int (f4_13_s0 j1 x0 x1 x2 x3)), .val (.int (f4_52_s0 j1 x0 x1 x2 x3))] [])) _
            refine XS.iconst X9.here hx rfl (hb hby d4_92) ?_
            show Steps p.tables e below (T9.setTop (mkF m 93 #[.val (.ref o0), .val (.long j1), .second, .val (.int (f4_13_s0 j1 x0 x1 x2 x3)), .val (.int (f4_52_s0 j1 x0 x1 x2 x3))] [(.int (0 : Int32))])) _
            rw [show (f4_80_s0c j1 x0 x1 x2 x3) = (0 : Int32) from ((if_neg hc80).trans (if_pos hc85))] at k
            exact k
          · refine XS.ifNo X9.here hx rfl (hb hby d4_85) rfl ((if0 _ _).trans (feq hc85).1) ?_
            show Steps p.tables e below (T9.setTop (mkF m 88 #[.val (.ref o0), .val (.long j1), .second, .val (.int (f4_13_s0 j1 x0 x1 x2 x3)), .val (.int (f4_52_s0 j1 x0 x1 x2 x3))] [])) _
            refine XS.iconst X9.here hx rfl (hb hby d4_88) ?_
            show Steps p.tables e below (T9.setTop (mkF m 89 #[.val (.ref o0), .val (.long j1), .second, .val (.int (f4_13_s0 j1 x0 x1 x2 x3)), .val (.int (f4_52_s0 j1 x0 x1 x2 x3))] [(.int (1 : Int32))])) _
            refine XS.goto X9.here hx rfl (pc0 := 89) (pc' := 93) rfl (hb hby d4_89) (by decide) (by decide) ?_
            show Steps p.tables e below (T9.setTop (mkF m 93 #[.val (.ref o0), .val (.long j1), .second, .val (.int (f4_13_s0 j1 x0 x1 x2 x3)), .val (.int (f4_52_s0 j1 x0 x1 x2 x3))] [(.int (1 : Int32))])) _
            rw [show (f4_80_s0c j1 x0 x1 x2 x3) = (1 : Int32) from ((if_neg hc80).trans (if_neg hc85))] at k
            exact k
      exact Outs.retN (t := .boolean) (z := (f4_80_s0c j1 x0 x1 x2 x3)) X9 hx hret (by simp) (hb hby d4_93) hlk (by decide) (by decide) e9 ⟨congrArg (fun z_ => some (Value.int z_)) (show (F_f4 j1 x0 x1 x2 x3) = (nar .boolean (f4_80_s0c j1 x0 x1 x2 x3)) from ((if_neg hc4).trans (if_neg hc43))).symm, N0, rfl⟩
def f0_4_s0 (j0 : Int64) (j1 : Int64) (i2 : Int32) : Int32 := (if (i2 &&& (1 : Int32)) = (0 : Int32) then (0 : Int32) else (1 : Int32))
def f0_18_s0 (j0 : Int64) (j1 : Int64) (i2 : Int32) : Int32 := (if (i2 &&& (2 : Int32)) = (0 : Int32) then (0 : Int32) else (1 : Int32))
def f0_v34 (j0 : Int64) (j1 : Int64) (i2 : Int32) : Int32 := (((i2.toUInt32 >>> ((2 : Int32) &&& 31).toUInt32).toInt32) &&& (3 : Int32))
def f0_42_l8 (j0 : Int64) (j1 : Int64) (i2 : Int32) : Int64 := (if (f0_v34 j0 j1 i2) = (1 : Int32) then j0 else (if (f0_v34 j0 j1 i2) = (2 : Int32) then (j0 + (1 : Int64)) else (if (f0_v34 j0 j1 i2) = (3 : Int32) then (j0 - (1 : Int64)) else j1)))
def f0_v86 (j0 : Int64) (j1 : Int64) (i2 : Int32) : Int32 := (F_f1 j0 (f0_4_s0 j0 j1 i2) (f0_42_l8 j0 j1 i2) (f0_18_s0 j0 j1 i2))
def f0_90_s0 (j0 : Int64) (j1 : Int64) (i2 : Int32) : Int32 := (if (f0_4_s0 j0 j1 i2) = (0 : Int32) then (1 : Int32) else (0 : Int32))
def f0_102_s0 (j0 : Int64) (j1 : Int64) (i2 : Int32) : Int32 := (if (f0_18_s0 j0 j1 i2) = (0 : Int32) then (-1 : Int32) else (0 : Int32))
def f0_116_l13 (j0 : Int64) (j1 : Int64) (i2 : Int32) : Int32 := (if j0 < (f0_42_l8 j0 j1 i2) then (0 : Int32) else (if (f0_42_l8 j0 j1 i2) < j0 then (1 : Int32) else (if (f0_102_s0 j0 j1 i2) < (f0_90_s0 j0 j1 i2) then (1 : Int32) else (0 : Int32))))
theorem own_tri (a b : Int64) : (a < b ∧ ¬ b < a ∧ ¬ a = b ∧ ¬ b = a) ∨ a = b ∨ (b < a ∧ ¬ a < b ∧ ¬ a = b ∧ ¬ b = a) := by
  rw [Int64.lt_iff_toInt_lt, Int64.lt_iff_toInt_lt, ← Int64.toInt_inj, ← Int64.toInt_inj]
  omega
theorem own_irr (a : Int64) : ¬ a < a := by
  rw [Int64.lt_iff_toInt_lt]; omega
theorem own_bit0 (j0 j1 : Int64) (i2 : Int32) : f0_4_s0 j0 j1 i2 = 0 ∨ f0_4_s0 j0 j1 i2 = 1 := by unfold f0_4_s0; split <;> simp
theorem own_bit1 (j0 j1 : Int64) (i2 : Int32) : f0_18_s0 j0 j1 i2 = 0 ∨ f0_18_s0 j0 j1 i2 = 1 := by unfold f0_18_s0; split <;> simp
theorem own_contains (k a b : Int64) (li hi : Int32) (hl : li = 0 ∨ li = 1) (hh : hi = 0 ∨ hi = 1) :
    F_f4 k a (nar .boolean li) b (nar .boolean hi) = (if k < a then (0 : Int32) else (if b < k then (0 : Int32) else (if k = a then (if li = (0 : Int32) then (0 : Int32) else (if k = b then (if hi = (0 : Int32) then (0 : Int32) else (1 : Int32)) else (1 : Int32))) else (if k = b then (if hi = (0 : Int32) then (0 : Int32) else (1 : Int32)) else (1 : Int32))))) := by
  have n0 : nar .boolean 0 = 0 := rfl
  have n1 : nar .boolean 1 = 1 := rfl
  have z : ¬ ((1 : Int32) = 0) := by decide
  have ia := own_irr a
  have ib := own_irr b
  unfold F_f4 f4_80_s0 f4_80_s0a f4_80_s0b f4_80_s0c f4_30_s0 f4_69_s0 f4_52_s0 f4_13_s0
  rcases hl with rfl | rfl <;> rcases hh with rfl | rfl <;> rcases own_tri k a with ⟨p1, p2, p3, p4⟩ | rfl | ⟨p1, p2, p3, p4⟩ <;> rcases own_tri k b with ⟨q1, q2, q3, q4⟩ | rfl | ⟨q1, q2, q3, q4⟩ <;> simp [n0, n1, *]
theorem own_empty (a b : Int64) (li hi : Int32) (hl : li = 0 ∨ li = 1) (hh : hi = 0 ∨ hi = 1) :
    F_f1 a li b hi = (if b < a then (1 : Int32) else if a = b then (if li = 1 ∧ hi = 1 then 0 else 1) else 0) := by
  have n0 : nar .boolean 0 = 0 := rfl
  have n1 : nar .boolean 1 = 1 := rfl
  have ia := own_irr a
  unfold F_f1 f1_3_s0
  rcases hl with rfl | rfl <;> rcases hh with rfl | rfl <;> rcases own_tri a b with ⟨p1, p2, p3, p4⟩ | rfl | ⟨p1, p2, p3, p4⟩ <;> simp [n0, n1, *]
theorem law_156 (j0 j1 : Int64) (i2 : Int32) : f0_v86 j0 j1 i2 = f0_116_l13 j0 j1 i2 := by
  have hl := own_bit0 j0 j1 i2
  have hh := own_bit1 j0 j1 i2
  unfold f0_v86 f0_116_l13 f0_102_s0 f0_90_s0
  rw [own_empty _ _ _ _ hl hh]
  generalize f0_4_s0 j0 j1 i2 = li at *
  generalize f0_18_s0 j0 j1 i2 = hi at *
  generalize f0_42_l8 j0 j1 i2 = b at *
  have ia := own_irr j0
  have t1 : (-1 : Int32) < 0 := by decide
  have t2 : (-1 : Int32) < 1 := by decide
  have t3 : (0 : Int32) < 1 := by decide
  have t4 : ¬ (0 : Int32) < 0 := by decide
  rcases hl with rfl | rfl <;> rcases hh with rfl | rfl <;> rcases own_tri j0 b with ⟨p1, p2, p3, p4⟩ | rfl | ⟨p1, p2, p3, p4⟩ <;> simp [*]
theorem law_188 (j0 j1 : Int64) (i2 : Int32) (h : ¬ f0_v86 j0 j1 i2 = 0) : F_f4 j0 j0 (nar .boolean (f0_4_s0 j0 j1 i2)) (f0_42_l8 j0 j1 i2) (nar .boolean (f0_18_s0 j0 j1 i2)) = 0 := by
  have hl := own_bit0 j0 j1 i2
  have hh := own_bit1 j0 j1 i2
  unfold f0_v86 at h
  rw [own_empty _ _ _ _ hl hh] at h
  rw [own_contains _ _ _ _ _ hl hh]
  generalize f0_4_s0 j0 j1 i2 = li at *
  generalize f0_18_s0 j0 j1 i2 = hi at *
  generalize f0_42_l8 j0 j1 i2 = b at *
  have ia := own_irr j0
  rcases hl with rfl | rfl <;> rcases hh with rfl | rfl <;> rcases own_tri j0 b with ⟨p1, p2, p3, p4⟩ | rfl | ⟨p1, p2, p3, p4⟩ <;> simp_all
theorem law_198 (j0 j1 : Int64) (i2 : Int32) (h : ¬ f0_v86 j0 j1 i2 = 0) : F_f4 (f0_42_l8 j0 j1 i2) j0 (nar .boolean (f0_4_s0 j0 j1 i2)) (f0_42_l8 j0 j1 i2) (nar .boolean (f0_18_s0 j0 j1 i2)) = 0 := by
  have hl := own_bit0 j0 j1 i2
  have hh := own_bit1 j0 j1 i2
  unfold f0_v86 at h
  rw [own_empty _ _ _ _ hl hh] at h
  rw [own_contains _ _ _ _ _ hl hh]
  generalize f0_4_s0 j0 j1 i2 = li at *
  generalize f0_18_s0 j0 j1 i2 = hi at *
  generalize f0_42_l8 j0 j1 i2 = b at *
  have ia := own_irr b
  rcases hl with rfl | rfl <;> rcases hh with rfl | rfl <;> rcases own_tri j0 b with ⟨p1, p2, p3, p4⟩ | rfl | ⟨p1, p2, p3, p4⟩ <;> simp_all
theorem law_219 (j0 j1 : Int64) (i2 : Int32) (h : f0_v86 j0 j1 i2 = 0) (h1 : ¬ f0_4_s0 j0 j1 i2 = 0) (h2 : ¬ f0_18_s0 j0 j1 i2 = 0) : ¬ F_f4 j0 j0 (nar .boolean (f0_4_s0 j0 j1 i2)) (f0_42_l8 j0 j1 i2) (nar .boolean (f0_18_s0 j0 j1 i2)) = 0 := by
  have hl := own_bit0 j0 j1 i2
  have hh := own_bit1 j0 j1 i2
  unfold f0_v86 at h
  rw [own_empty _ _ _ _ hl hh] at h
  rw [own_contains _ _ _ _ _ hl hh]
  generalize f0_4_s0 j0 j1 i2 = li at *
  generalize f0_18_s0 j0 j1 i2 = hi at *
  generalize f0_42_l8 j0 j1 i2 = b at *
  have ia := own_irr j0
  rcases hl with rfl | rfl <;> rcases hh with rfl | rfl <;> rcases own_tri j0 b with ⟨p1, p2, p3, p4⟩ | rfl | ⟨p1, p2, p3, p4⟩ <;> simp_all
theorem law_229 (j0 j1 : Int64) (i2 : Int32) (h : f0_v86 j0 j1 i2 = 0) (h1 : ¬ f0_4_s0 j0 j1 i2 = 0) (h2 : ¬ f0_18_s0 j0 j1 i2 = 0) : ¬ F_f4 (f0_42_l8 j0 j1 i2) j0 (nar .boolean (f0_4_s0 j0 j1 i2)) (f0_42_l8 j0 j1 i2) (nar .boolean (f0_18_s0 j0 j1 i2)) = 0 := by
  have hl := own_bit0 j0 j1 i2
  have hh := own_bit1 j0 j1 i2
  unfold f0_v86 at h
  rw [own_empty _ _ _ _ hl hh] at h
  rw [own_contains _ _ _ _ _ hl hh]
  generalize f0_4_s0 j0 j1 i2 = li at *
  generalize f0_18_s0 j0 j1 i2 = hi at *
  generalize f0_42_l8 j0 j1 i2 = b at *
  have ia := own_irr b
  rcases hl with rfl | rfl <;> rcases hh with rfl | rfl <;> rcases own_tri j0 b with ⟨p1, p2, p3, p4⟩ | rfl | ⟨p1, p2, p3, p4⟩ <;> simp_all
theorem ef_0 (m : MethodId) (x0 : Int64) (x1 : Int64) (x2 : Int32) : entryFrame m #[(.long x0), (.long x1), (.int x2)] maxLocals = mkF m 0 #[.val (.long x0), .second, .val (.long x1), .second, .val (.int x2), .unset, .unset, .unset, .unset, .unset, .unset, .unset, .unset, .unset, .unset] [] := by first | (simp [entryFrame, mkF, argsToLocals, Value.category, maxLocals]; done) | rfl
theorem pd_0 : parseMethodDescriptor "(JZJZ)Z" = some ⟨[.long, .boolean, .long, .boolean], some .boolean⟩ := by decide +kernel
theorem pd_1 : parseMethodDescriptor "(JZJZ)V" = some ⟨[.long, .boolean, .long, .boolean], none⟩ := by decide +kernel
theorem pd_3 : parseMethodDescriptor "(J)Z" = some ⟨[.long], some .boolean⟩ := by decide +kernel
theorem pn_0 : plainName "com/example/palimpsest/palimpsest/sql/KeyRangeIsEmptyPinLaw" = true := by first | (simp [plainName, overriddenIn]; done) | decide +kernel
set_option maxRecDepth 65536 in
set_option maxHeartbeats 40000000 in
theorem rm0 (l : Launch) (Z : State) (a0 : Array Value) (hw : ∀ d ∈ tables_1, d.before a0 Z = true) (ws : List Jvm.Cond) (j0 : Int64) (j1 : Int64) (i2 : Int32)  (h0 : Heap) (n0 : Nat) (Z0 : n0 ≤ h0.size) :
    MetFree l x (head1 (Jvm.Cond.code x code maxLocals ret :: ws) room_1) (fun a U => a = #[(.long j0), (.long j1), (.int i2)] ∧ Z.Warmed39 U.vm ∧ U.heap = h0) (fun _ _ _ _ _ => True) (fun _ U o U' => ∃ v L, o = .returned v ∧ QL n0 v U'.heap L ∧ FrameEnd U o U' L room_1.cells room_1.slots) := by
  refine MetFree.of_bodySF (plainFor_of_name pn_0) hisR ?_
  intro p e s m args below meth c s₁ Bd hml0 hP hK
  obtain ⟨rfl, hZ, hh⟩ := hP
  have hx := Bd.exec
  have hby := Bd.bytes
  have hml : c.maxLocals = 15 := hml0
  have hown : s.vm.findClass "com/example/palimpsest/palimpsest/sql/KeyRangeIsEmptyPinLaw" = some m.cls := findClass_of_methodNamed Bd.named
  have hnm := (name_of_methodNamed Bd.named Bd.method).1
  have hret := Bd.returns
  have hlk : meth.locks = false := BodyLoose.notSynchronized Bd
  have X0 : Stand p l e room_1 s m #[(.long j0), (.long j1), (.int i2)] below meth c s₁ [] 0 0 := Stand.of_body Bd
  have e0 : s₁.heap = h0 := by rw [← hh, Bd.state]; rfl
  have N0 := Fr.nil n0
  show Outs p e below s (QL n0) _ _ _
  refine Outs.of (U' := s₁.setTop (mkF m 0 #[.val (.long j0), .second, .val (.long j1), .second, .val (.int i2), .unset, .unset, .unset, .unset, .unset, .unset, .unset, .unset, .unset, .unset] [])) (fun t k => castTop (ef_0 m j0 j1 i2) k) ?_
  refine Outs.of (U' := s₁.setTop (mkF m 12 #[.val (.long j0), .second, .val (.long j1), .second, .val (.int i2), .unset, .unset, .unset, .unset, .unset, .unset, .unset, .unset, .unset, .unset] [(.int (f0_4_s0 j0 j1 i2))])) (fun t k => ?_) ?_
  · refine XS.iload X0.here hx rfl (hb hby at_0) rfl ?_
    show Steps p.tables e below (s₁.setTop (mkF m 2 #[.val (.long j0), .second, .val (.long j1), .second, .val (.int i2), .unset, .unset, .unset, .unset, .unset, .unset, .unset, .unset, .unset, .unset] [(.int i2)])) _
    refine XS.iconst X0.here hx rfl (hb hby at_2) ?_
    show Steps p.tables e below (s₁.setTop (mkF m 3 #[.val (.long j0), .second, .val (.long j1), .second, .val (.int i2), .unset, .unset, .unset, .unset, .unset, .unset, .unset, .unset, .unset, .unset] [(.int (1 : Int32)), (.int i2)])) _
    refine XS.iand X0.here hx rfl (hb hby at_3) rfl ?_
    show Steps p.tables e below (s₁.setTop (mkF m 4 #[.val (.long j0), .second, .val (.long j1), .second, .val (.int i2), .unset, .unset, .unset, .unset, .unset, .unset, .unset, .unset, .unset, .unset] [(.int (i2 &&& (1 : Int32)))])) _
    by_cases hc4 : (i2 &&& (1 : Int32)) = (0 : Int32)
    · refine XS.ifYes X0.here hx rfl (pc0 := 4) (pc' := 11) rfl (hb hby at_4) rfl ((if0 _ _).trans (teq hc4).1) (by decide) (by decide) ?_
      show Steps p.tables e below (s₁.setTop (mkF m 11 #[.val (.long j0), .second, .val (.long j1), .second, .val (.int i2), .unset, .unset, .unset, .unset, .unset, .unset, .unset, .unset, .unset, .unset] [])) _
      refine XS.iconst X0.here hx rfl (hb hby at_11) ?_
      show Steps p.tables e below (s₁.setTop (mkF m 12 #[.val (.long j0), .second, .val (.long j1), .second, .val (.int i2), .unset, .unset, .unset, .unset, .unset, .unset, .unset, .unset, .unset, .unset] [(.int (0 : Int32))])) _
      rw [show (f0_4_s0 j0 j1 i2) = (0 : Int32) from (if_pos hc4)] at k
      exact k
    · refine XS.ifNo X0.here hx rfl (hb hby at_4) rfl ((if0 _ _).trans (feq hc4).1) ?_
      show Steps p.tables e below (s₁.setTop (mkF m 7 #[.val (.long j0), .second, .val (.long j1), .second, .val (.int i2), .unset, .unset, .unset, .unset, .unset, .unset, .unset, .unset, .unset, .unset] [])) _
      refine XS.iconst X0.here hx rfl (hb hby at_7) ?_
      show Steps p.tables e below (s₁.setTop (mkF m 8 #[.val (.long j0), .second, .val (.long j1), .second, .val (.int i2), .unset, .unset, .unset, .unset, .unset, .unset, .unset, .unset, .unset, .unset] [(.int (1 : Int32))])) _
      refine XS.goto X0.here hx rfl (pc0 := 8) (pc' := 12) rfl (hb hby at_8) (by decide) (by decide) ?_
      show Steps p.tables e below (s₁.setTop (mkF m 12 #[.val (.long j0), .second, .val (.long j1), .second, .val (.int i2), .unset, .unset, .unset, .unset, .unset, .unset, .unset, .unset, .unset, .unset] [(.int (1 : Int32))])) _
      rw [show (f0_4_s0 j0 j1 i2) = (1 : Int32) from (if_neg hc4)] at k
      exact k
  refine Outs.of (U' := s₁.setTop (mkF m 26 #[.val (.long j0), .second, .val (.long j1), .second, .val (.int i2), .val (.int (f0_4_s0 j0 j1 i2)), .unset, .unset, .unset, .unset, .unset, .unset, .unset, .unset, .unset] [(.int (f0_18_s0 j0 j1 i2))])) (fun t k => ?_) ?_
  · refine XS.istore X0.here hx rfl (hb hby at_12) rfl (l' := #[.val (.long j0), .second, .val (.long j1), .second, .val (.int i2), .val (.int (f0_4_s0 j0 j1 i2)), .unset, .unset, .unset, .unset, .unset, .unset, .unset, .unset, .unset]) rfl ?_
    show Steps p.tables e below (s₁.setTop (mkF m 14 #[.val (.long j0), .second, .val (.long j1), .second, .val (.int i2), .val (.int (f0_4_s0 j0 j1 i2)), .unset, .unset, .unset, .unset, .unset, .unset, .unset, .unset, .unset] [])) _
    refine XS.iload X0.here hx rfl (hb hby at_14) rfl ?_
    show Steps p.tables e below (s₁.setTop (mkF m 16 #[.val (.long j0), .second, .val (.long j1), .second, .val (.int i2), .val (.int (f0_4_s0 j0 j1 i2)), .unset, .unset, .unset, .unset, .unset, .unset, .unset, .unset, .unset] [(.int i2)])) _
    refine XS.iconst X0.here hx rfl (hb hby at_16) ?_
    show Steps p.tables e below (s₁.setTop (mkF m 17 #[.val (.long j0), .second, .val (.long j1), .second, .val (.int i2), .val (.int (f0_4_s0 j0 j1 i2)), .unset, .unset, .unset, .unset, .unset, .unset, .unset, .unset, .unset] [(.int (2 : Int32)), (.int i2)])) _
    refine XS.iand X0.here hx rfl (hb hby at_17) rfl ?_
    show Steps p.tables e below (s₁.setTop (mkF m 18 #[.val (.long j0), .second, .val (.long j1), .second, .val (.int i2), .val (.int (f0_4_s0 j0 j1 i2)), .unset, .unset, .unset, .unset, .unset, .unset, .unset, .unset, .unset] [(.int (i2 &&& (2 : Int32)))])) _
    by_cases hc18 : (i2 &&& (2 : Int32)) = (0 : Int32)
    · refine XS.ifYes X0.here hx rfl (pc0 := 18) (pc' := 25) rfl (hb hby at_18) rfl ((if0 _ _).trans (teq hc18).1) (by decide) (by decide) ?_
      show Steps p.tables e below (s₁.setTop (mkF m 25 #[.val (.long j0), .second, .val (.long j1), .second, .val (.int i2), .val (.int (f0_4_s0 j0 j1 i2)), .unset, .unset, .unset, .unset, .unset, .unset, .unset, .unset, .unset] [])) _
      refine XS.iconst X0.here hx rfl (hb hby at_25) ?_
      show Steps p.tables e below (s₁.setTop (mkF m 26 #[.val (.long j0), .second, .val (.long j1), .second, .val (.int i2), .val (.int (f0_4_s0 j0 j1 i2)), .unset, .unset, .unset, .unset, .unset, .unset, .unset, .unset, .unset] [(.int (0 : Int32))])) _
      rw [show (f0_18_s0 j0 j1 i2) = (0 : Int32) from (if_pos hc18)] at k
      exact k
    · refine XS.ifNo X0.here hx rfl (hb hby at_18) rfl ((if0 _ _).trans (feq hc18).1) ?_
      show Steps p.tables e below (s₁.setTop (mkF m 21 #[.val (.long j0), .second, .val (.long j1), .second, .val (.int i2), .val (.int (f0_4_s0 j0 j1 i2)), .unset, .unset, .unset, .unset, .unset, .unset, .unset, .unset, .unset] [])) _
      refine XS.iconst X0.here hx rfl (hb hby at_21) ?_
      show Steps p.tables e below (s₁.setTop (mkF m 22 #[.val (.long j0), .second, .val (.long j1), .second, .val (.int i2), .val (.int (f0_4_s0 j0 j1 i2)), .unset, .unset, .unset, .unset, .unset, .unset, .unset, .unset, .unset] [(.int (1 : Int32))])) _
      refine XS.goto X0.here hx rfl (pc0 := 22) (pc' := 26) rfl (hb hby at_22) (by decide) (by decide) ?_
      show Steps p.tables e below (s₁.setTop (mkF m 26 #[.val (.long j0), .second, .val (.long j1), .second, .val (.int i2), .val (.int (f0_4_s0 j0 j1 i2)), .unset, .unset, .unset, .unset, .unset, .unset, .unset, .unset, .unset] [(.int (1 : Int32))])) _
      rw [show (f0_18_s0 j0 j1 i2) = (1 : Int32) from (if_neg hc18)] at k
      exact k
  refine Outs.of (U' := s₁.setTop (mkF m 76 #[.val (.long j0), .second, .val (.long j1), .second, .val (.int i2), .val (.int (f0_4_s0 j0 j1 i2)), .val (.int (f0_18_s0 j0 j1 i2)), .val (.int (f0_v34 j0 j1 i2)), .val (.long (f0_42_l8 j0 j1 i2)), .second, .unset, .unset, .unset, .unset, .unset] [])) (fun t k => ?_) ?_
  · refine XS.istore X0.here hx rfl (hb hby at_26) rfl (l' := #[.val (.long j0), .second, .val (.long j1), .second, .val (.int i2), .val (.int (f0_4_s0 j0 j1 i2)), .val (.int (f0_18_s0 j0 j1 i2)), .unset, .unset, .unset, .unset, .unset, .unset, .unset, .unset]) rfl ?_
    show Steps p.tables e below (s₁.setTop (mkF m 28 #[.val (.long j0), .second, .val (.long j1), .second, .val (.int i2), .val (.int (f0_4_s0 j0 j1 i2)), .val (.int (f0_18_s0 j0 j1 i2)), .unset, .unset, .unset, .unset, .unset, .unset, .unset, .unset] [])) _
    refine XS.iload X0.here hx rfl (hb hby at_28) rfl ?_
    show Steps p.tables e below (s₁.setTop (mkF m 30 #[.val (.long j0), .second, .val (.long j1), .second, .val (.int i2), .val (.int (f0_4_s0 j0 j1 i2)), .val (.int (f0_18_s0 j0 j1 i2)), .unset, .unset, .unset, .unset, .unset, .unset, .unset, .unset] [(.int i2)])) _
    refine XS.iconst X0.here hx rfl (hb hby at_30) ?_
    show Steps p.tables e below (s₁.setTop (mkF m 31 #[.val (.long j0), .second, .val (.long j1), .second, .val (.int i2), .val (.int (f0_4_s0 j0 j1 i2)), .val (.int (f0_18_s0 j0 j1 i2)), .unset, .unset, .unset, .unset, .unset, .unset, .unset, .unset] [(.int (2 : Int32)), (.int i2)])) _
    refine XS.iushr X0.here hx rfl (hb hby at_31) rfl ?_
    show Steps p.tables e below (s₁.setTop (mkF m 32 #[.val (.long j0), .second, .val (.long j1), .second, .val (.int i2), .val (.int (f0_4_s0 j0 j1 i2)), .val (.int (f0_18_s0 j0 j1 i2)), .unset, .unset, .unset, .unset, .unset, .unset, .unset, .unset] [(.int ((i2.toUInt32 >>> ((2 : Int32) &&& 31).toUInt32).toInt32))])) _
    refine XS.iconst X0.here hx rfl (hb hby at_32) ?_
    show Steps p.tables e below (s₁.setTop (mkF m 33 #[.val (.long j0), .second, .val (.long j1), .second, .val (.int i2), .val (.int (f0_4_s0 j0 j1 i2)), .val (.int (f0_18_s0 j0 j1 i2)), .unset, .unset, .unset, .unset, .unset, .unset, .unset, .unset] [(.int (3 : Int32)), (.int ((i2.toUInt32 >>> ((2 : Int32) &&& 31).toUInt32).toInt32))])) _
    refine XS.iand X0.here hx rfl (hb hby at_33) rfl ?_
    show Steps p.tables e below (s₁.setTop (mkF m 34 #[.val (.long j0), .second, .val (.long j1), .second, .val (.int i2), .val (.int (f0_4_s0 j0 j1 i2)), .val (.int (f0_18_s0 j0 j1 i2)), .unset, .unset, .unset, .unset, .unset, .unset, .unset, .unset] [(.int (((i2.toUInt32 >>> ((2 : Int32) &&& 31).toUInt32).toInt32) &&& (3 : Int32)))])) _
    refine XS.istore X0.here hx rfl (hb hby at_34) rfl (l' := #[.val (.long j0), .second, .val (.long j1), .second, .val (.int i2), .val (.int (f0_4_s0 j0 j1 i2)), .val (.int (f0_18_s0 j0 j1 i2)), .val (.int (f0_v34 j0 j1 i2)), .unset, .unset, .unset, .unset, .unset, .unset, .unset]) rfl ?_
    show Steps p.tables e below (s₁.setTop (mkF m 36 #[.val (.long j0), .second, .val (.long j1), .second, .val (.int i2), .val (.int (f0_4_s0 j0 j1 i2)), .val (.int (f0_18_s0 j0 j1 i2)), .val (.int (f0_v34 j0 j1 i2)), .unset, .unset, .unset, .unset, .unset, .unset, .unset] [])) _
    refine XS.lloadN X0.here hx rfl (hb hby at_36) rfl ?_
    show Steps p.tables e below (s₁.setTop (mkF m 37 #[.val (.long j0), .second, .val (.long j1), .second, .val (.int i2), .val (.int (f0_4_s0 j0 j1 i2)), .val (.int (f0_18_s0 j0 j1 i2)), .val (.int (f0_v34 j0 j1 i2)), .unset, .unset, .unset, .unset, .unset, .unset, .unset] [(.long j1)])) _
    refine XS.lstore X0.here hx rfl (hb hby at_37) rfl (l' := #[.val (.long j0), .second, .val (.long j1), .second, .val (.int i2), .val (.int (f0_4_s0 j0 j1 i2)), .val (.int (f0_18_s0 j0 j1 i2)), .val (.int (f0_v34 j0 j1 i2)), .val (.long j1), .second, .unset, .unset, .unset, .unset, .unset]) rfl ?_
    show Steps p.tables e below (s₁.setTop (mkF m 39 #[.val (.long j0), .second, .val (.long j1), .second, .val (.int i2), .val (.int (f0_4_s0 j0 j1 i2)), .val (.int (f0_18_s0 j0 j1 i2)), .val (.int (f0_v34 j0 j1 i2)), .val (.long j1), .second, .unset, .unset, .unset, .unset, .unset] [])) _
    refine XS.iload X0.here hx rfl (hb hby at_39) rfl ?_
    show Steps p.tables e below (s₁.setTop (mkF m 41 #[.val (.long j0), .second, .val (.long j1), .second, .val (.int i2), .val (.int (f0_4_s0 j0 j1 i2)), .val (.int (f0_18_s0 j0 j1 i2)), .val (.int (f0_v34 j0 j1 i2)), .val (.long j1), .second, .unset, .unset, .unset, .unset, .unset] [(.int (f0_v34 j0 j1 i2))])) _
    refine XS.iconst X0.here hx rfl (hb hby at_41) ?_
    show Steps p.tables e below (s₁.setTop (mkF m 42 #[.val (.long j0), .second, .val (.long j1), .second, .val (.int i2), .val (.int (f0_4_s0 j0 j1 i2)), .val (.int (f0_18_s0 j0 j1 i2)), .val (.int (f0_v34 j0 j1 i2)), .val (.long j1), .second, .unset, .unset, .unset, .unset, .unset] [(.int (1 : Int32)), (.int (f0_v34 j0 j1 i2))])) _
    by_cases hc42 : (f0_v34 j0 j1 i2) = (1 : Int32)
    · refine XS.icmpNo X0.here hx rfl (hb hby at_42) rfl (teq hc42).2 ?_
      show Steps p.tables e below (s₁.setTop (mkF m 45 #[.val (.long j0), .second, .val (.long j1), .second, .val (.int i2), .val (.int (f0_4_s0 j0 j1 i2)), .val (.int (f0_18_s0 j0 j1 i2)), .val (.int (f0_v34 j0 j1 i2)), .val (.long j1), .second, .unset, .unset, .unset, .unset, .unset] [])) _
      refine XS.lloadN X0.here hx rfl (hb hby at_45) rfl ?_
      show Steps p.tables e below (s₁.setTop (mkF m 46 #[.val (.long j0), .second, .val (.long j1), .second, .val (.int i2), .val (.int (f0_4_s0 j0 j1 i2)), .val (.int (f0_18_s0 j0 j1 i2)), .val (.int (f0_v34 j0 j1 i2)), .val (.long j1), .second, .unset, .unset, .unset, .unset, .unset] [(.long j0)])) _
      refine XS.lstore X0.here hx rfl (hb hby at_46) rfl (l' := #[.val (.long j0), .second, .val (.long j1), .second, .val (.int i2), .val (.int (f0_4_s0 j0 j1 i2)), .val (.int (f0_18_s0 j0 j1 i2)), .val (.int (f0_v34 j0 j1 i2)), .val (.long j0), .second, .unset, .unset, .unset, .unset, .unset]) rfl ?_
      show Steps p.tables e below (s₁.setTop (mkF m 48 #[.val (.long j0), .second, .val (.long j1), .second, .val (.int i2), .val (.int (f0_4_s0 j0 j1 i2)), .val (.int (f0_18_s0 j0 j1 i2)), .val (.int (f0_v34 j0 j1 i2)), .val (.long j0), .second, .unset, .unset, .unset, .unset, .unset] [])) _
      refine XS.goto X0.here hx rfl (pc0 := 48) (pc' := 76) rfl (hb hby at_48) (by decide) (by decide) ?_
      show Steps p.tables e below (s₁.setTop (mkF m 76 #[.val (.long j0), .second, .val (.long j1), .second, .val (.int i2), .val (.int (f0_4_s0 j0 j1 i2)), .val (.int (f0_18_s0 j0 j1 i2)), .val (.int (f0_v34 j0 j1 i2)), .val (.long j0), .second, .unset, .unset, .unset, .unset, .unset] [])) _
      rw [show (f0_42_l8 j0 j1 i2) = j0 from (if_pos hc42)] at k
      exact k
    · refine XS.icmpYes X0.here hx rfl (pc0 := 42) (pc' := 51) rfl (hb hby at_42) rfl (feq hc42).2 (by decide) (by decide) ?_
      show Steps p.tables e below (s₁.setTop (mkF m 51 #[.val (.long j0), .second, .val (.long j1), .second, .val (.int i2), .val (.int (f0_4_s0 j0 j1 i2)), .val (.int (f0_18_s0 j0 j1 i2)), .val (.int (f0_v34 j0 j1 i2)), .val (.long j1), .second, .unset, .unset, .unset, .unset, .unset] [])) _
      refine XS.iload X0.here hx rfl (hb hby at_51) rfl ?_
      show Steps p.tables e below (s₁.setTop (mkF m 53 #[.val (.long j0), .second, .val (.long j1), .second, .val (.int i2), .val (.int (f0_4_s0 j0 j1 i2)), .val (.int (f0_18_s0 j0 j1 i2)), .val (.int (f0_v34 j0 j1 i2)), .val (.long j1), .second, .unset, .unset, .unset, .unset, .unset] [(.int (f0_v34 j0 j1 i2))])) _
      refine XS.iconst X0.here hx rfl (hb hby at_53) ?_
      show Steps p.tables e below (s₁.setTop (mkF m 54 #[.val (.long j0), .second, .val (.long j1), .second, .val (.int i2), .val (.int (f0_4_s0 j0 j1 i2)), .val (.int (f0_18_s0 j0 j1 i2)), .val (.int (f0_v34 j0 j1 i2)), .val (.long j1), .second, .unset, .unset, .unset, .unset, .unset] [(.int (2 : Int32)), (.int (f0_v34 j0 j1 i2))])) _
      by_cases hc54 : (f0_v34 j0 j1 i2) = (2 : Int32)
      · refine XS.icmpNo X0.here hx rfl (hb hby at_54) rfl (teq hc54).2 ?_
        show Steps p.tables e below (s₁.setTop (mkF m 57 #[.val (.long j0), .second, .val (.long j1), .second, .val (.int i2), .val (.int (f0_4_s0 j0 j1 i2)), .val (.int (f0_18_s0 j0 j1 i2)), .val (.int (f0_v34 j0 j1 i2)), .val (.long j1), .second, .unset, .unset, .unset, .unset, .unset] [])) _
        refine XS.lloadN X0.here hx rfl (hb hby at_57) rfl ?_
        show Steps p.tables e below (s₁.setTop (mkF m 58 #[.val (.long j0), .second, .val (.long j1), .second, .val (.int i2), .val (.int (f0_4_s0 j0 j1 i2)), .val (.int (f0_18_s0 j0 j1 i2)), .val (.int (f0_v34 j0 j1 i2)), .val (.long j1), .second, .unset, .unset, .unset, .unset, .unset] [(.long j0)])) _
        refine XS.lconst X0.here hx rfl (hb hby at_58) ?_
        show Steps p.tables e below (s₁.setTop (mkF m 59 #[.val (.long j0), .second, .val (.long j1), .second, .val (.int i2), .val (.int (f0_4_s0 j0 j1 i2)), .val (.int (f0_18_s0 j0 j1 i2)), .val (.int (f0_v34 j0 j1 i2)), .val (.long j1), .second, .unset, .unset, .unset, .unset, .unset] [(.long (1 : Int64)), (.long j0)])) _
        refine XS.ladd X0.here hx rfl (hb hby at_59) rfl ?_
        show Steps p.tables e below (s₁.setTop (mkF m 60 #[.val (.long j0), .second, .val (.long j1), .second, .val (.int i2), .val (.int (f0_4_s0 j0 j1 i2)), .val (.int (f0_18_s0 j0 j1 i2)), .val (.int (f0_v34 j0 j1 i2)), .val (.long j1), .second, .unset, .unset, .unset, .unset, .unset] [(.long (j0 + (1 : Int64)))])) _
        refine XS.lstore X0.here hx rfl (hb hby at_60) rfl (l' := #[.val (.long j0), .second, .val (.long j1), .second, .val (.int i2), .val (.int (f0_4_s0 j0 j1 i2)), .val (.int (f0_18_s0 j0 j1 i2)), .val (.int (f0_v34 j0 j1 i2)), .val (.long (j0 + (1 : Int64))), .second, .unset, .unset, .unset, .unset, .unset]) rfl ?_
        show Steps p.tables e below (s₁.setTop (mkF m 62 #[.val (.long j0), .second, .val (.long j1), .second, .val (.int i2), .val (.int (f0_4_s0 j0 j1 i2)), .val (.int (f0_18_s0 j0 j1 i2)), .val (.int (f0_v34 j0 j1 i2)), .val (.long (j0 + (1 : Int64))), .second, .unset, .unset, .unset, .unset, .unset] [])) _
        refine XS.goto X0.here hx rfl (pc0 := 62) (pc' := 76) rfl (hb hby at_62) (by decide) (by decide) ?_
        show Steps p.tables e below (s₁.setTop (mkF m 76 #[.val (.long j0), .second, .val (.long j1), .second, .val (.int i2), .val (.int (f0_4_s0 j0 j1 i2)), .val (.int (f0_18_s0 j0 j1 i2)), .val (.int (f0_v34 j0 j1 i2)), .val (.long (j0 + (1 : Int64))), .second, .unset, .unset, .unset, .unset, .unset] [])) _
        rw [show (f0_42_l8 j0 j1 i2) = (j0 + (1 : Int64)) from ((if_neg hc42).trans (if_pos hc54))] at k
        exact k
      · refine XS.icmpYes X0.here hx rfl (pc0 := 54) (pc' := 65) rfl (hb hby at_54) rfl (feq hc54).2 (by decide) (by decide) ?_
        show Steps p.tables e below (s₁.setTop (mkF m 65 #[.val (.long j0), .second, .val (.long j1), .second, .val (.int i2), .val (.int (f0_4_s0 j0 j1 i2)), .val (.int (f0_18_s0 j0 j1 i2)), .val (.int (f0_v34 j0 j1 i2)), .val (.long j1), .second, .unset, .unset, .unset, .unset, .unset] [])) _
        refine XS.iload X0.here hx rfl (hb hby at_65) rfl ?_
        show Steps p.tables e below (s₁.setTop (mkF m 67 #[.val (.long j0), .second, .val (.long j1), .second, .val (.int i2), .val (.int (f0_4_s0 j0 j1 i2)), .val (.int (f0_18_s0 j0 j1 i2)), .val (.int (f0_v34 j0 j1 i2)), .val (.long j1), .second, .unset, .unset, .unset, .unset, .unset] [(.int (f0_v34 j0 j1 i2))])) _
        refine XS.iconst X0.here hx rfl (hb hby at_67) ?_
        show Steps p.tables e below (s₁.setTop (mkF m 68 #[.val (.long j0), .second, .val (.long j1), .second, .val (.int i2), .val (.int (f0_4_s0 j0 j1 i2)), .val (.int (f0_18_s0 j0 j1 i2)), .val (.int (f0_v34 j0 j1 i2)), .val (.long j1), .second, .unset, .unset, .unset, .unset, .unset] [(.int (3 : Int32)), (.int (f0_v34 j0 j1 i2))])) _
        by_cases hc68 : (f0_v34 j0 j1 i2) = (3 : Int32)
        · refine XS.icmpNo X0.here hx rfl (hb hby at_68) rfl (teq hc68).2 ?_
          show Steps p.tables e below (s₁.setTop (mkF m 71 #[.val (.long j0), .second, .val (.long j1), .second, .val (.int i2), .val (.int (f0_4_s0 j0 j1 i2)), .val (.int (f0_18_s0 j0 j1 i2)), .val (.int (f0_v34 j0 j1 i2)), .val (.long j1), .second, .unset, .unset, .unset, .unset, .unset] [])) _
          refine XS.lloadN X0.here hx rfl (hb hby at_71) rfl ?_
          show Steps p.tables e below (s₁.setTop (mkF m 72 #[.val (.long j0), .second, .val (.long j1), .second, .val (.int i2), .val (.int (f0_4_s0 j0 j1 i2)), .val (.int (f0_18_s0 j0 j1 i2)), .val (.int (f0_v34 j0 j1 i2)), .val (.long j1), .second, .unset, .unset, .unset, .unset, .unset] [(.long j0)])) _
          refine XS.lconst X0.here hx rfl (hb hby at_72) ?_
          show Steps p.tables e below (s₁.setTop (mkF m 73 #[.val (.long j0), .second, .val (.long j1), .second, .val (.int i2), .val (.int (f0_4_s0 j0 j1 i2)), .val (.int (f0_18_s0 j0 j1 i2)), .val (.int (f0_v34 j0 j1 i2)), .val (.long j1), .second, .unset, .unset, .unset, .unset, .unset] [(.long (1 : Int64)), (.long j0)])) _
          refine XS.lsub X0.here hx rfl (hb hby at_73) rfl ?_
          show Steps p.tables e below (s₁.setTop (mkF m 74 #[.val (.long j0), .second, .val (.long j1), .second, .val (.int i2), .val (.int (f0_4_s0 j0 j1 i2)), .val (.int (f0_18_s0 j0 j1 i2)), .val (.int (f0_v34 j0 j1 i2)), .val (.long j1), .second, .unset, .unset, .unset, .unset, .unset] [(.long (j0 - (1 : Int64)))])) _
          refine XS.lstore X0.here hx rfl (hb hby at_74) rfl (l' := #[.val (.long j0), .second, .val (.long j1), .second, .val (.int i2), .val (.int (f0_4_s0 j0 j1 i2)), .val (.int (f0_18_s0 j0 j1 i2)), .val (.int (f0_v34 j0 j1 i2)), .val (.long (j0 - (1 : Int64))), .second, .unset, .unset, .unset, .unset, .unset]) rfl ?_
          show Steps p.tables e below (s₁.setTop (mkF m 76 #[.val (.long j0), .second, .val (.long j1), .second, .val (.int i2), .val (.int (f0_4_s0 j0 j1 i2)), .val (.int (f0_18_s0 j0 j1 i2)), .val (.int (f0_v34 j0 j1 i2)), .val (.long (j0 - (1 : Int64))), .second, .unset, .unset, .unset, .unset, .unset] [])) _
          rw [show (f0_42_l8 j0 j1 i2) = (j0 - (1 : Int64)) from ((if_neg hc42).trans ((if_neg hc54).trans (if_pos hc68)))] at k
          exact k
        · refine XS.icmpYes X0.here hx rfl (pc0 := 68) (pc' := 76) rfl (hb hby at_68) rfl (feq hc68).2 (by decide) (by decide) ?_
          show Steps p.tables e below (s₁.setTop (mkF m 76 #[.val (.long j0), .second, .val (.long j1), .second, .val (.int i2), .val (.int (f0_4_s0 j0 j1 i2)), .val (.int (f0_18_s0 j0 j1 i2)), .val (.int (f0_v34 j0 j1 i2)), .val (.long j1), .second, .unset, .unset, .unset, .unset, .unset] [])) _
          rw [show (f0_42_l8 j0 j1 i2) = j1 from ((if_neg hc42).trans ((if_neg hc54).trans (if_neg hc68)))] at k
          exact k
  refine Outs.of (U' := s₁.setTop (mkF m 83 #[.val (.long j0), .second, .val (.long j1), .second, .val (.int i2), .val (.int (f0_4_s0 j0 j1 i2)), .val (.int (f0_18_s0 j0 j1 i2)), .val (.int (f0_v34 j0 j1 i2)), .val (.long (f0_42_l8 j0 j1 i2)), .second, .unset, .unset, .unset, .unset, .unset] [(.int (f0_18_s0 j0 j1 i2)), (.long (f0_42_l8 j0 j1 i2)), (.int (f0_4_s0 j0 j1 i2)), (.long j0)])) (fun t k => ?_) ?_
  · refine XS.lloadN X0.here hx rfl (hb hby at_76) rfl ?_
    show Steps p.tables e below (s₁.setTop (mkF m 77 #[.val (.long j0), .second, .val (.long j1), .second, .val (.int i2), .val (.int (f0_4_s0 j0 j1 i2)), .val (.int (f0_18_s0 j0 j1 i2)), .val (.int (f0_v34 j0 j1 i2)), .val (.long (f0_42_l8 j0 j1 i2)), .second, .unset, .unset, .unset, .unset, .unset] [(.long j0)])) _
    refine XS.iload X0.here hx rfl (hb hby at_77) rfl ?_
    show Steps p.tables e below (s₁.setTop (mkF m 79 #[.val (.long j0), .second, .val (.long j1), .second, .val (.int i2), .val (.int (f0_4_s0 j0 j1 i2)), .val (.int (f0_18_s0 j0 j1 i2)), .val (.int (f0_v34 j0 j1 i2)), .val (.long (f0_42_l8 j0 j1 i2)), .second, .unset, .unset, .unset, .unset, .unset] [(.int (f0_4_s0 j0 j1 i2)), (.long j0)])) _
    refine XS.lload X0.here hx rfl (hb hby at_79) rfl ?_
    show Steps p.tables e below (s₁.setTop (mkF m 81 #[.val (.long j0), .second, .val (.long j1), .second, .val (.int i2), .val (.int (f0_4_s0 j0 j1 i2)), .val (.int (f0_18_s0 j0 j1 i2)), .val (.int (f0_v34 j0 j1 i2)), .val (.long (f0_42_l8 j0 j1 i2)), .second, .unset, .unset, .unset, .unset, .unset] [(.long (f0_42_l8 j0 j1 i2)), (.int (f0_4_s0 j0 j1 i2)), (.long j0)])) _
    refine XS.iload X0.here hx rfl (hb hby at_81) rfl ?_
    show Steps p.tables e below (s₁.setTop (mkF m 83 #[.val (.long j0), .second, .val (.long j1), .second, .val (.int i2), .val (.int (f0_4_s0 j0 j1 i2)), .val (.int (f0_18_s0 j0 j1 i2)), .val (.int (f0_v34 j0 j1 i2)), .val (.long (f0_42_l8 j0 j1 i2)), .second, .unset, .unset, .unset, .unset, .unset] [(.int (f0_18_s0 j0 j1 i2)), (.long (f0_42_l8 j0 j1 i2)), (.int (f0_4_s0 j0 j1 i2)), (.long j0)])) _
    exact k
  obtain ⟨_, _, ⟨T1, L1, k1, n1⟩, -, X1, ⟨Lc1, hQ1, l1, y1, z1⟩, st1⟩ := Jvm.LawKit.callS X0 hx (y := (⟨"com/example/palimpsest/palimpsest/sql/KeyRange", "isEmpty", "(JZJZ)Z"⟩ : MethodName)) hown (mvT hZ (hw _ (List.mem_of_getElem? (i := 0) rfl))) (mvT hZ (hw _ (List.mem_of_getElem? (i := 1) rfl))) (mvT hZ (hw _ (List.mem_of_getElem? (i := 2) rfl))) (mvT hZ (hw _ (List.mem_of_getElem? (i := 3) rfl))) (by decide) (backOf (W := 0) (rm1 l Z a0 hw [] j0 (f0_4_s0 j0 j1 i2) (f0_42_l8 j0 j1 i2) (f0_18_s0 j0 j1 i2) h0 n0 ) hZ (hw _ (List.mem_of_getElem? (i := 3) rfl)) (hw _ (List.mem_of_getElem? (i := 2) rfl)) (by decide) (by decide)) (g := (mkF m 83 #[.val (.long j0), .second, .val (.long j1), .second, .val (.int i2), .val (.int (f0_4_s0 j0 j1 i2)), .val (.int (f0_18_s0 j0 j1 i2)), .val (.int (f0_v34 j0 j1 i2)), .val (.long (f0_42_l8 j0 j1 i2)), .second, .unset, .unset, .unset, .unset, .unset] [(.int (f0_18_s0 j0 j1 i2)), (.long (f0_42_l8 j0 j1 i2)), (.int (f0_4_s0 j0 j1 i2)), (.long j0)])) rfl (by rw [hml]; rfl) (argsL := [(.long j0), (.int (f0_4_s0 j0 j1 i2)), (.long (f0_42_l8 j0 j1 i2)), (.int (f0_18_s0 j0 j1 i2))]) (rest := []) (lenOf pd_0 rfl) rfl (by show 2 * 0 + _ ≤ _; exact Nat.le_of_eq rfl) (hb hby at_83) (fun _ _ => ⟨rfl, e0, (by decide : 0 + 0 ≤ _), (by decide : 0 + 0 ≤ _)⟩)
  dsimp only [Pt.U, Pt.locs, Pt.cells, Pt.slots] at X1 l1 y1 z1 st1 hQ1
  subst l1 y1 z1
  obtain ⟨rfl, N1q, e1⟩ := hQ1
  have N1 := Fr.app N0 N1q
  refine Outs.of st1 ?_
  show Outs p e below s _ _ _ (T1.setTop (mkF m 86 #[.val (.long j0), .second, .val (.long j1), .second, .val (.int i2), .val (.int (f0_4_s0 j0 j1 i2)), .val (.int (f0_18_s0 j0 j1 i2)), .val (.int (f0_v34 j0 j1 i2)), .val (.long (f0_42_l8 j0 j1 i2)), .second, .unset, .unset, .unset, .unset, .unset] [(.int (F_f1 j0 (f0_4_s0 j0 j1 i2) (f0_42_l8 j0 j1 i2) (f0_18_s0 j0 j1 i2)))]))
  refine Outs.of (U' := T1.setTop (mkF m 98 #[.val (.long j0), .second, .val (.long j1), .second, .val (.int i2), .val (.int (f0_4_s0 j0 j1 i2)), .val (.int (f0_18_s0 j0 j1 i2)), .val (.int (f0_v34 j0 j1 i2)), .val (.long (f0_42_l8 j0 j1 i2)), .second, .val (.int (f0_v86 j0 j1 i2)), .unset, .unset, .unset, .unset] [(.int (f0_90_s0 j0 j1 i2))])) (fun t k => ?_) ?_
  · refine XS.istore X1.here hx rfl (hb hby at_86) rfl (l' := #[.val (.long j0), .second, .val (.long j1), .second, .val (.int i2), .val (.int (f0_4_s0 j0 j1 i2)), .val (.int (f0_18_s0 j0 j1 i2)), .val (.int (f0_v34 j0 j1 i2)), .val (.long (f0_42_l8 j0 j1 i2)), .second, .val (.int (f0_v86 j0 j1 i2)), .unset, .unset, .unset, .unset]) rfl ?_
    show Steps p.tables e below (T1.setTop (mkF m 88 #[.val (.long j0), .second, .val (.long j1), .second, .val (.int i2), .val (.int (f0_4_s0 j0 j1 i2)), .val (.int (f0_18_s0 j0 j1 i2)), .val (.int (f0_v34 j0 j1 i2)), .val (.long (f0_42_l8 j0 j1 i2)), .second, .val (.int (f0_v86 j0 j1 i2)), .unset, .unset, .unset, .unset] [])) _
    refine XS.iload X1.here hx rfl (hb hby at_88) rfl ?_
    show Steps p.tables e below (T1.setTop (mkF m 90 #[.val (.long j0), .second, .val (.long j1), .second, .val (.int i2), .val (.int (f0_4_s0 j0 j1 i2)), .val (.int (f0_18_s0 j0 j1 i2)), .val (.int (f0_v34 j0 j1 i2)), .val (.long (f0_42_l8 j0 j1 i2)), .second, .val (.int (f0_v86 j0 j1 i2)), .unset, .unset, .unset, .unset] [(.int (f0_4_s0 j0 j1 i2))])) _
    by_cases hc90 : (f0_4_s0 j0 j1 i2) = (0 : Int32)
    · refine XS.ifYes X1.here hx rfl (pc0 := 90) (pc' := 97) rfl (hb hby at_90) rfl ((if0 _ _).trans (teq hc90).1) (by decide) (by decide) ?_
      show Steps p.tables e below (T1.setTop (mkF m 97 #[.val (.long j0), .second, .val (.long j1), .second, .val (.int i2), .val (.int (f0_4_s0 j0 j1 i2)), .val (.int (f0_18_s0 j0 j1 i2)), .val (.int (f0_v34 j0 j1 i2)), .val (.long (f0_42_l8 j0 j1 i2)), .second, .val (.int (f0_v86 j0 j1 i2)), .unset, .unset, .unset, .unset] [])) _
      refine XS.iconst X1.here hx rfl (hb hby at_97) ?_
      show Steps p.tables e below (T1.setTop (mkF m 98 #[.val (.long j0), .second, .val (.long j1), .second, .val (.int i2), .val (.int (f0_4_s0 j0 j1 i2)), .val (.int (f0_18_s0 j0 j1 i2)), .val (.int (f0_v34 j0 j1 i2)), .val (.long (f0_42_l8 j0 j1 i2)), .second, .val (.int (f0_v86 j0 j1 i2)), .unset, .unset, .unset, .unset] [(.int (1 : Int32))])) _
      rw [show (f0_90_s0 j0 j1 i2) = (1 : Int32) from (if_pos hc90)] at k
      exact k
    · refine XS.ifNo X1.here hx rfl (hb hby at_90) rfl ((if0 _ _).trans (feq hc90).1) ?_
      show Steps p.tables e below (T1.setTop (mkF m 93 #[.val (.long j0), .second, .val (.long j1), .second, .val (.int i2), .val (.int (f0_4_s0 j0 j1 i2)), .val (.int (f0_18_s0 j0 j1 i2)), .val (.int (f0_v34 j0 j1 i2)), .val (.long (f0_42_l8 j0 j1 i2)), .second, .val (.int (f0_v86 j0 j1 i2)), .unset, .unset, .unset, .unset] [])) _
      refine XS.iconst X1.here hx rfl (hb hby at_93) ?_
      show Steps p.tables e below (T1.setTop (mkF m 94 #[.val (.long j0), .second, .val (.long j1), .second, .val (.int i2), .val (.int (f0_4_s0 j0 j1 i2)), .val (.int (f0_18_s0 j0 j1 i2)), .val (.int (f0_v34 j0 j1 i2)), .val (.long (f0_42_l8 j0 j1 i2)), .second, .val (.int (f0_v86 j0 j1 i2)), .unset, .unset, .unset, .unset] [(.int (0 : Int32))])) _
      refine XS.goto X1.here hx rfl (pc0 := 94) (pc' := 98) rfl (hb hby at_94) (by decide) (by decide) ?_
      show Steps p.tables e below (T1.setTop (mkF m 98 #[.val (.long j0), .second, .val (.long j1), .second, .val (.int i2), .val (.int (f0_4_s0 j0 j1 i2)), .val (.int (f0_18_s0 j0 j1 i2)), .val (.int (f0_v34 j0 j1 i2)), .val (.long (f0_42_l8 j0 j1 i2)), .second, .val (.int (f0_v86 j0 j1 i2)), .unset, .unset, .unset, .unset] [(.int (0 : Int32))])) _
      rw [show (f0_90_s0 j0 j1 i2) = (0 : Int32) from (if_neg hc90)] at k
      exact k
  refine Outs.of (U' := T1.setTop (mkF m 110 #[.val (.long j0), .second, .val (.long j1), .second, .val (.int i2), .val (.int (f0_4_s0 j0 j1 i2)), .val (.int (f0_18_s0 j0 j1 i2)), .val (.int (f0_v34 j0 j1 i2)), .val (.long (f0_42_l8 j0 j1 i2)), .second, .val (.int (f0_v86 j0 j1 i2)), .val (.int (f0_90_s0 j0 j1 i2)), .unset, .unset, .unset] [(.int (f0_102_s0 j0 j1 i2))])) (fun t k => ?_) ?_
  · refine XS.istore X1.here hx rfl (hb hby at_98) rfl (l' := #[.val (.long j0), .second, .val (.long j1), .second, .val (.int i2), .val (.int (f0_4_s0 j0 j1 i2)), .val (.int (f0_18_s0 j0 j1 i2)), .val (.int (f0_v34 j0 j1 i2)), .val (.long (f0_42_l8 j0 j1 i2)), .second, .val (.int (f0_v86 j0 j1 i2)), .val (.int (f0_90_s0 j0 j1 i2)), .unset, .unset, .unset]) rfl ?_
    show Steps p.tables e below (T1.setTop (mkF m 100 #[.val (.long j0), .second, .val (.long j1), .second, .val (.int i2), .val (.int (f0_4_s0 j0 j1 i2)), .val (.int (f0_18_s0 j0 j1 i2)), .val (.int (f0_v34 j0 j1 i2)), .val (.long (f0_42_l8 j0 j1 i2)), .second, .val (.int (f0_v86 j0 j1 i2)), .val (.int (f0_90_s0 j0 j1 i2)), .unset, .unset, .unset] [])) _
    refine XS.iload X1.here hx rfl (hb hby at_100) rfl ?_
    show Steps p.tables e below (T1.setTop (mkF m 102 #[.val (.long j0), .second, .val (.long j1), .second, .val (.int i2), .val (.int (f0_4_s0 j0 j1 i2)), .val (.int (f0_18_s0 j0 j1 i2)), .val (.int (f0_v34 j0 j1 i2)), .val (.long (f0_42_l8 j0 j1 i2)), .second, .val (.int (f0_v86 j0 j1 i2)), .val (.int (f0_90_s0 j0 j1 i2)), .unset, .unset, .unset] [(.int (f0_18_s0 j0 j1 i2))])) _
    by_cases hc102 : (f0_18_s0 j0 j1 i2) = (0 : Int32)
    · refine XS.ifYes X1.here hx rfl (pc0 := 102) (pc' := 109) rfl (hb hby at_102) rfl ((if0 _ _).trans (teq hc102).1) (by decide) (by decide) ?_
      show Steps p.tables e below (T1.setTop (mkF m 109 #[.val (.long j0), .second, .val (.long j1), .second, .val (.int i2), .val (.int (f0_4_s0 j0 j1 i2)), .val (.int (f0_18_s0 j0 j1 i2)), .val (.int (f0_v34 j0 j1 i2)), .val (.long (f0_42_l8 j0 j1 i2)), .second, .val (.int (f0_v86 j0 j1 i2)), .val (.int (f0_90_s0 j0 j1 i2)), .unset, .unset, .unset] [])) _
      refine XS.iconst X1.here hx rfl (hb hby at_109) ?_
      show Steps p.tables e below (T1.setTop (mkF m 110 #[.val (.long j0), .second, .val (.long j1), .second, .val (.int i2), .val (.int (f0_4_s0 j0 j1 i2)), .val (.int (f0_18_s0 j0 j1 i2)), .val (.int (f0_v34 j0 j1 i2)), .val (.long (f0_42_l8 j0 j1 i2)), .second, .val (.int (f0_v86 j0 j1 i2)), .val (.int (f0_90_s0 j0 j1 i2)), .unset, .unset, .unset] [(.int (-1 : Int32))])) _
      rw [show (f0_102_s0 j0 j1 i2) = (-1 : Int32) from (if_pos hc102)] at k
      exact k
    · refine XS.ifNo X1.here hx rfl (hb hby at_102) rfl ((if0 _ _).trans (feq hc102).1) ?_
      show Steps p.tables e below (T1.setTop (mkF m 105 #[.val (.long j0), .second, .val (.long j1), .second, .val (.int i2), .val (.int (f0_4_s0 j0 j1 i2)), .val (.int (f0_18_s0 j0 j1 i2)), .val (.int (f0_v34 j0 j1 i2)), .val (.long (f0_42_l8 j0 j1 i2)), .second, .val (.int (f0_v86 j0 j1 i2)), .val (.int (f0_90_s0 j0 j1 i2)), .unset, .unset, .unset] [])) _
      refine XS.iconst X1.here hx rfl (hb hby at_105) ?_
      show Steps p.tables e below (T1.setTop (mkF m 106 #[.val (.long j0), .second, .val (.long j1), .second, .val (.int i2), .val (.int (f0_4_s0 j0 j1 i2)), .val (.int (f0_18_s0 j0 j1 i2)), .val (.int (f0_v34 j0 j1 i2)), .val (.long (f0_42_l8 j0 j1 i2)), .second, .val (.int (f0_v86 j0 j1 i2)), .val (.int (f0_90_s0 j0 j1 i2)), .unset, .unset, .unset] [(.int (0 : Int32))])) _
      refine XS.goto X1.here hx rfl (pc0 := 106) (pc' := 110) rfl (hb hby at_106) (by decide) (by decide) ?_
      show Steps p.tables e below (T1.setTop (mkF m 110 #[.val (.long j0), .second, .val (.long j1), .second, .val (.int i2), .val (.int (f0_4_s0 j0 j1 i2)), .val (.int (f0_18_s0 j0 j1 i2)), .val (.int (f0_v34 j0 j1 i2)), .val (.long (f0_42_l8 j0 j1 i2)), .second, .val (.int (f0_v86 j0 j1 i2)), .val (.int (f0_90_s0 j0 j1 i2)), .unset, .unset, .unset] [(.int (0 : Int32))])) _
      rw [show (f0_102_s0 j0 j1 i2) = (0 : Int32) from (if_neg hc102)] at k
      exact k
  refine Outs.of (U' := T1.setTop (mkF m 152 #[.val (.long j0), .second, .val (.long j1), .second, .val (.int i2), .val (.int (f0_4_s0 j0 j1 i2)), .val (.int (f0_18_s0 j0 j1 i2)), .val (.int (f0_v34 j0 j1 i2)), .val (.long (f0_42_l8 j0 j1 i2)), .second, .val (.int (f0_v86 j0 j1 i2)), .val (.int (f0_90_s0 j0 j1 i2)), .val (.int (f0_102_s0 j0 j1 i2)), .val (.int (f0_116_l13 j0 j1 i2)), .unset] [])) (fun t k => ?_) ?_
  · refine XS.istore X1.here hx rfl (hb hby at_110) rfl (l' := #[.val (.long j0), .second, .val (.long j1), .second, .val (.int i2), .val (.int (f0_4_s0 j0 j1 i2)), .val (.int (f0_18_s0 j0 j1 i2)), .val (.int (f0_v34 j0 j1 i2)), .val (.long (f0_42_l8 j0 j1 i2)), .second, .val (.int (f0_v86 j0 j1 i2)), .val (.int (f0_90_s0 j0 j1 i2)), .val (.int (f0_102_s0 j0 j1 i2)), .unset, .unset]) rfl ?_
    show Steps p.tables e below (T1.setTop (mkF m 112 #[.val (.long j0), .second, .val (.long j1), .second, .val (.int i2), .val (.int (f0_4_s0 j0 j1 i2)), .val (.int (f0_18_s0 j0 j1 i2)), .val (.int (f0_v34 j0 j1 i2)), .val (.long (f0_42_l8 j0 j1 i2)), .second, .val (.int (f0_v86 j0 j1 i2)), .val (.int (f0_90_s0 j0 j1 i2)), .val (.int (f0_102_s0 j0 j1 i2)), .unset, .unset] [])) _
    refine XS.lloadN X1.here hx rfl (hb hby at_112) rfl ?_
    show Steps p.tables e below (T1.setTop (mkF m 113 #[.val (.long j0), .second, .val (.long j1), .second, .val (.int i2), .val (.int (f0_4_s0 j0 j1 i2)), .val (.int (f0_18_s0 j0 j1 i2)), .val (.int (f0_v34 j0 j1 i2)), .val (.long (f0_42_l8 j0 j1 i2)), .second, .val (.int (f0_v86 j0 j1 i2)), .val (.int (f0_90_s0 j0 j1 i2)), .val (.int (f0_102_s0 j0 j1 i2)), .unset, .unset] [(.long j0)])) _
    refine XS.lload X1.here hx rfl (hb hby at_113) rfl ?_
    show Steps p.tables e below (T1.setTop (mkF m 115 #[.val (.long j0), .second, .val (.long j1), .second, .val (.int i2), .val (.int (f0_4_s0 j0 j1 i2)), .val (.int (f0_18_s0 j0 j1 i2)), .val (.int (f0_v34 j0 j1 i2)), .val (.long (f0_42_l8 j0 j1 i2)), .second, .val (.int (f0_v86 j0 j1 i2)), .val (.int (f0_90_s0 j0 j1 i2)), .val (.int (f0_102_s0 j0 j1 i2)), .unset, .unset] [(.long (f0_42_l8 j0 j1 i2)), (.long j0)])) _
    refine XS.lcmp X1.here hx rfl (hb hby at_115) rfl ?_
    show Steps p.tables e below (T1.setTop (mkF m 116 #[.val (.long j0), .second, .val (.long j1), .second, .val (.int i2), .val (.int (f0_4_s0 j0 j1 i2)), .val (.int (f0_18_s0 j0 j1 i2)), .val (.int (f0_v34 j0 j1 i2)), .val (.long (f0_42_l8 j0 j1 i2)), .second, .val (.int (f0_v86 j0 j1 i2)), .val (.int (f0_90_s0 j0 j1 i2)), .val (.int (f0_102_s0 j0 j1 i2)), .unset, .unset] [(.int (lcmpW j0 (f0_42_l8 j0 j1 i2)))])) _
    by_cases hc116 : j0 < (f0_42_l8 j0 j1 i2)
    · refine XS.ifNo X1.here hx rfl (hb hby at_116) rfl ((if0 _ _).trans (tlt ((lw_lt _ _).mpr hc116)).2.1) ?_
      show Steps p.tables e below (T1.setTop (mkF m 119 #[.val (.long j0), .second, .val (.long j1), .second, .val (.int i2), .val (.int (f0_4_s0 j0 j1 i2)), .val (.int (f0_18_s0 j0 j1 i2)), .val (.int (f0_v34 j0 j1 i2)), .val (.long (f0_42_l8 j0 j1 i2)), .second, .val (.int (f0_v86 j0 j1 i2)), .val (.int (f0_90_s0 j0 j1 i2)), .val (.int (f0_102_s0 j0 j1 i2)), .unset, .unset] [])) _
      refine XS.iconst X1.here hx rfl (hb hby at_119) ?_
      show Steps p.tables e below (T1.setTop (mkF m 120 #[.val (.long j0), .second, .val (.long j1), .second, .val (.int i2), .val (.int (f0_4_s0 j0 j1 i2)), .val (.int (f0_18_s0 j0 j1 i2)), .val (.int (f0_v34 j0 j1 i2)), .val (.long (f0_42_l8 j0 j1 i2)), .second, .val (.int (f0_v86 j0 j1 i2)), .val (.int (f0_90_s0 j0 j1 i2)), .val (.int (f0_102_s0 j0 j1 i2)), .unset, .unset] [(.int (0 : Int32))])) _
      refine XS.istore X1.here hx rfl (hb hby at_120) rfl (l' := #[.val (.long j0), .second, .val (.long j1), .second, .val (.int i2), .val (.int (f0_4_s0 j0 j1 i2)), .val (.int (f0_18_s0 j0 j1 i2)), .val (.int (f0_v34 j0 j1 i2)), .val (.long (f0_42_l8 j0 j1 i2)), .second, .val (.int (f0_v86 j0 j1 i2)), .val (.int (f0_90_s0 j0 j1 i2)), .val (.int (f0_102_s0 j0 j1 i2)), .val (.int (0 : Int32)), .unset]) rfl ?_
      show Steps p.tables e below (T1.setTop (mkF m 122 #[.val (.long j0), .second, .val (.long j1), .second, .val (.int i2), .val (.int (f0_4_s0 j0 j1 i2)), .val (.int (f0_18_s0 j0 j1 i2)), .val (.int (f0_v34 j0 j1 i2)), .val (.long (f0_42_l8 j0 j1 i2)), .second, .val (.int (f0_v86 j0 j1 i2)), .val (.int (f0_90_s0 j0 j1 i2)), .val (.int (f0_102_s0 j0 j1 i2)), .val (.int (0 : Int32)), .unset] [])) _
      refine XS.goto X1.here hx rfl (pc0 := 122) (pc' := 152) rfl (hb hby at_122) (by decide) (by decide) ?_
      show Steps p.tables e below (T1.setTop (mkF m 152 #[.val (.long j0), .second, .val (.long j1), .second, .val (.int i2), .val (.int (f0_4_s0 j0 j1 i2)), .val (.int (f0_18_s0 j0 j1 i2)), .val (.int (f0_v34 j0 j1 i2)), .val (.long (f0_42_l8 j0 j1 i2)), .second, .val (.int (f0_v86 j0 j1 i2)), .val (.int (f0_90_s0 j0 j1 i2)), .val (.int (f0_102_s0 j0 j1 i2)), .val (.int (0 : Int32)), .unset] [])) _
      rw [show (f0_116_l13 j0 j1 i2) = (0 : Int32) from (if_pos hc116)] at k
      exact k
    · refine XS.ifYes X1.here hx rfl (pc0 := 116) (pc' := 125) rfl (hb hby at_116) rfl ((if0 _ _).trans (flt (fun q_ => hc116 ((lw_lt _ _).mp q_))).2.1) (by decide) (by decide) ?_
      show Steps p.tables e below (T1.setTop (mkF m 125 #[.val (.long j0), .second, .val (.long j1), .second, .val (.int i2), .val (.int (f0_4_s0 j0 j1 i2)), .val (.int (f0_18_s0 j0 j1 i2)), .val (.int (f0_v34 j0 j1 i2)), .val (.long (f0_42_l8 j0 j1 i2)), .second, .val (.int (f0_v86 j0 j1 i2)), .val (.int (f0_90_s0 j0 j1 i2)), .val (.int (f0_102_s0 j0 j1 i2)), .unset, .unset] [])) _
      refine XS.lloadN X1.here hx rfl (hb hby at_125) rfl ?_
      show Steps p.tables e below (T1.setTop (mkF m 126 #[.val (.long j0), .second, .val (.long j1), .second, .val (.int i2), .val (.int (f0_4_s0 j0 j1 i2)), .val (.int (f0_18_s0 j0 j1 i2)), .val (.int (f0_v34 j0 j1 i2)), .val (.long (f0_42_l8 j0 j1 i2)), .second, .val (.int (f0_v86 j0 j1 i2)), .val (.int (f0_90_s0 j0 j1 i2)), .val (.int (f0_102_s0 j0 j1 i2)), .unset, .unset] [(.long j0)])) _
      refine XS.lload X1.here hx rfl (hb hby at_126) rfl ?_
      show Steps p.tables e below (T1.setTop (mkF m 128 #[.val (.long j0), .second, .val (.long j1), .second, .val (.int i2), .val (.int (f0_4_s0 j0 j1 i2)), .val (.int (f0_18_s0 j0 j1 i2)), .val (.int (f0_v34 j0 j1 i2)), .val (.long (f0_42_l8 j0 j1 i2)), .second, .val (.int (f0_v86 j0 j1 i2)), .val (.int (f0_90_s0 j0 j1 i2)), .val (.int (f0_102_s0 j0 j1 i2)), .unset, .unset] [(.long (f0_42_l8 j0 j1 i2)), (.long j0)])) _
      refine XS.lcmp X1.here hx rfl (hb hby at_128) rfl ?_
      show Steps p.tables e below (T1.setTop (mkF m 129 #[.val (.long j0), .second, .val (.long j1), .second, .val (.int i2), .val (.int (f0_4_s0 j0 j1 i2)), .val (.int (f0_18_s0 j0 j1 i2)), .val (.int (f0_v34 j0 j1 i2)), .val (.long (f0_42_l8 j0 j1 i2)), .second, .val (.int (f0_v86 j0 j1 i2)), .val (.int (f0_90_s0 j0 j1 i2)), .val (.int (f0_102_s0 j0 j1 i2)), .unset, .unset] [(.int (lcmpW j0 (f0_42_l8 j0 j1 i2)))])) _
      by_cases hc129 : (f0_42_l8 j0 j1 i2) < j0
      · refine XS.ifNo X1.here hx rfl (hb hby at_129) rfl ((if0 _ _).trans (tlt ((lw_gt _ _).mpr hc129)).2.2.2) ?_
        show Steps p.tables e below (T1.setTop (mkF m 132 #[.val (.long j0), .second, .val (.long j1), .second, .val (.int i2), .val (.int (f0_4_s0 j0 j1 i2)), .val (.int (f0_18_s0 j0 j1 i2)), .val (.int (f0_v34 j0 j1 i2)), .val (.long (f0_42_l8 j0 j1 i2)), .second, .val (.int (f0_v86 j0 j1 i2)), .val (.int (f0_90_s0 j0 j1 i2)), .val (.int (f0_102_s0 j0 j1 i2)), .unset, .unset] [])) _
        refine XS.iconst X1.here hx rfl (hb hby at_132) ?_
        show Steps p.tables e below (T1.setTop (mkF m 133 #[.val (.long j0), .second, .val (.long j1), .second, .val (.int i2), .val (.int (f0_4_s0 j0 j1 i2)), .val (.int (f0_18_s0 j0 j1 i2)), .val (.int (f0_v34 j0 j1 i2)), .val (.long (f0_42_l8 j0 j1 i2)), .second, .val (.int (f0_v86 j0 j1 i2)), .val (.int (f0_90_s0 j0 j1 i2)), .val (.int (f0_102_s0 j0 j1 i2)), .unset, .unset] [(.int (1 : Int32))])) _
        refine XS.istore X1.here hx rfl (hb hby at_133) rfl (l' := #[.val (.long j0), .second, .val (.long j1), .second, .val (.int i2), .val (.int (f0_4_s0 j0 j1 i2)), .val (.int (f0_18_s0 j0 j1 i2)), .val (.int (f0_v34 j0 j1 i2)), .val (.long (f0_42_l8 j0 j1 i2)), .second, .val (.int (f0_v86 j0 j1 i2)), .val (.int (f0_90_s0 j0 j1 i2)), .val (.int (f0_102_s0 j0 j1 i2)), .val (.int (1 : Int32)), .unset]) rfl ?_
        show Steps p.tables e below (T1.setTop (mkF m 135 #[.val (.long j0), .second, .val (.long j1), .second, .val (.int i2), .val (.int (f0_4_s0 j0 j1 i2)), .val (.int (f0_18_s0 j0 j1 i2)), .val (.int (f0_v34 j0 j1 i2)), .val (.long (f0_42_l8 j0 j1 i2)), .second, .val (.int (f0_v86 j0 j1 i2)), .val (.int (f0_90_s0 j0 j1 i2)), .val (.int (f0_102_s0 j0 j1 i2)), .val (.int (1 : Int32)), .unset] [])) _
        refine XS.goto X1.here hx rfl (pc0 := 135) (pc' := 152) rfl (hb hby at_135) (by decide) (by decide) ?_
        show Steps p.tables e below (T1.setTop (mkF m 152 #[.val (.long j0), .second, .val (.long j1), .second, .val (.int i2), .val (.int (f0_4_s0 j0 j1 i2)), .val (.int (f0_18_s0 j0 j1 i2)), .val (.int (f0_v34 j0 j1 i2)), .val (.long (f0_42_l8 j0 j1 i2)), .second, .val (.int (f0_v86 j0 j1 i2)), .val (.int (f0_90_s0 j0 j1 i2)), .val (.int (f0_102_s0 j0 j1 i2)), .val (.int (1 : Int32)), .unset] [])) _
        rw [show (f0_116_l13 j0 j1 i2) = (1 : Int32) from ((if_neg hc116).trans (if_pos hc129))] at k
        exact k
      · refine XS.ifYes X1.here hx rfl (pc0 := 129) (pc' := 138) rfl (hb hby at_129) rfl ((if0 _ _).trans (flt (fun q_ => hc129 ((lw_gt _ _).mp q_))).2.2.2) (by decide) (by decide) ?_
        show Steps p.tables e below (T1.setTop (mkF m 138 #[.val (.long j0), .second, .val (.long j1), .second, .val (.int i2), .val (.int (f0_4_s0 j0 j1 i2)), .val (.int (f0_18_s0 j0 j1 i2)), .val (.int (f0_v34 j0 j1 i2)), .val (.long (f0_42_l8 j0 j1 i2)), .second, .val (.int (f0_v86 j0 j1 i2)), .val (.int (f0_90_s0 j0 j1 i2)), .val (.int (f0_102_s0 j0 j1 i2)), .unset, .unset] [])) _
        refine XS.iload X1.here hx rfl (hb hby at_138) rfl ?_
        show Steps p.tables e below (T1.setTop (mkF m 140 #[.val (.long j0), .second, .val (.long j1), .second, .val (.int i2), .val (.int (f0_4_s0 j0 j1 i2)), .val (.int (f0_18_s0 j0 j1 i2)), .val (.int (f0_v34 j0 j1 i2)), .val (.long (f0_42_l8 j0 j1 i2)), .second, .val (.int (f0_v86 j0 j1 i2)), .val (.int (f0_90_s0 j0 j1 i2)), .val (.int (f0_102_s0 j0 j1 i2)), .unset, .unset] [(.int (f0_90_s0 j0 j1 i2))])) _
        refine XS.iload X1.here hx rfl (hb hby at_140) rfl ?_
        show Steps p.tables e below (T1.setTop (mkF m 142 #[.val (.long j0), .second, .val (.long j1), .second, .val (.int i2), .val (.int (f0_4_s0 j0 j1 i2)), .val (.int (f0_18_s0 j0 j1 i2)), .val (.int (f0_v34 j0 j1 i2)), .val (.long (f0_42_l8 j0 j1 i2)), .second, .val (.int (f0_v86 j0 j1 i2)), .val (.int (f0_90_s0 j0 j1 i2)), .val (.int (f0_102_s0 j0 j1 i2)), .unset, .unset] [(.int (f0_102_s0 j0 j1 i2)), (.int (f0_90_s0 j0 j1 i2))])) _
        by_cases hc142 : (f0_102_s0 j0 j1 i2) < (f0_90_s0 j0 j1 i2)
        · refine XS.icmpNo X1.here hx rfl (hb hby at_142) rfl (tlt hc142).2.2.2 ?_
          show Steps p.tables e below (T1.setTop (mkF m 145 #[.val (.long j0), .second, .val (.long j1), .second, .val (.int i2), .val (.int (f0_4_s0 j0 j1 i2)), .val (.int (f0_18_s0 j0 j1 i2)), .val (.int (f0_v34 j0 j1 i2)), .val (.long (f0_42_l8 j0 j1 i2)), .second, .val (.int (f0_v86 j0 j1 i2)), .val (.int (f0_90_s0 j0 j1 i2)), .val (.int (f0_102_s0 j0 j1 i2)), .unset, .unset] [])) _
          refine XS.iconst X1.here hx rfl (hb hby at_145) ?_
          show Steps p.tables e below (T1.setTop (mkF m 146 #[.val (.long j0), .second, .val (.long j1), .second, .val (.int i2), .val (.int (f0_4_s0 j0 j1 i2)), .val (.int (f0_18_s0 j0 j1 i2)), .val (.int (f0_v34 j0 j1 i2)), .val (.long (f0_42_l8 j0 j1 i2)), .second, .val (.int (f0_v86 j0 j1 i2)), .val (.int (f0_90_s0 j0 j1 i2)), .val (.int (f0_102_s0 j0 j1 i2)), .unset, .unset] [(.int (1 : Int32))])) _
          refine XS.goto X1.here hx rfl (pc0 := 146) (pc' := 150) rfl (hb hby at_146) (by decide) (by decide) ?_
          show Steps p.tables e below (T1.setTop (mkF m 150 #[.val (.long j0), .second, .val (.long j1), .second, .val (.int i2), .val (.int (f0_4_s0 j0 j1 i2)), .val (.int (f0_18_s0 j0 j1 i2)), .val (.int (f0_v34 j0 j1 i2)), .val (.long (f0_42_l8 j0 j1 i2)), .second, .val (.int (f0_v86 j0 j1 i2)), .val (.int (f0_90_s0 j0 j1 i2)), .val (.int (f0_102_s0 j0 j1 i2)), .unset, .unset] [(.int (1 : Int32))])) _
          refine XS.istore X1.here hx rfl (hb hby at_150) rfl (l' := #[.val (.long j0), .second, .val (.long j1), .second, .val (.int i2), .val (.int (f0_4_s0 j0 j1 i2)), .val (.int (f0_18_s0 j0 j1 i2)), .val (.int (f0_v34 j0 j1 i2)), .val (.long (f0_42_l8 j0 j1 i2)), .second, .val (.int (f0_v86 j0 j1 i2)), .val (.int (f0_90_s0 j0 j1 i2)), .val (.int (f0_102_s0 j0 j1 i2)), .val (.int (1 : Int32)), .unset]) rfl ?_
          show Steps p.tables e below (T1.setTop (mkF m 152 #[.val (.long j0), .second, .val (.long j1), .second, .val (.int i2), .val (.int (f0_4_s0 j0 j1 i2)), .val (.int (f0_18_s0 j0 j1 i2)), .val (.int (f0_v34 j0 j1 i2)), .val (.long (f0_42_l8 j0 j1 i2)), .second, .val (.int (f0_v86 j0 j1 i2)), .val (.int (f0_90_s0 j0 j1 i2)), .val (.int (f0_102_s0 j0 j1 i2)), .val (.int (1 : Int32)), .unset] [])) _
          rw [show (f0_116_l13 j0 j1 i2) = (1 : Int32) from ((if_neg hc116).trans ((if_neg hc129).trans (if_pos hc142)))] at k
          exact k
        · refine XS.icmpYes X1.here hx rfl (pc0 := 142) (pc' := 149) rfl (hb hby at_142) rfl (flt hc142).2.2.2 (by decide) (by decide) ?_
          show Steps p.tables e below (T1.setTop (mkF m 149 #[.val (.long j0), .second, .val (.long j1), .second, .val (.int i2), .val (.int (f0_4_s0 j0 j1 i2)), .val (.int (f0_18_s0 j0 j1 i2)), .val (.int (f0_v34 j0 j1 i2)), .val (.long (f0_42_l8 j0 j1 i2)), .second, .val (.int (f0_v86 j0 j1 i2)), .val (.int (f0_90_s0 j0 j1 i2)), .val (.int (f0_102_s0 j0 j1 i2)), .unset, .unset] [])) _
          refine XS.iconst X1.here hx rfl (hb hby at_149) ?_
          show Steps p.tables e below (T1.setTop (mkF m 150 #[.val (.long j0), .second, .val (.long j1), .second, .val (.int i2), .val (.int (f0_4_s0 j0 j1 i2)), .val (.int (f0_18_s0 j0 j1 i2)), .val (.int (f0_v34 j0 j1 i2)), .val (.long (f0_42_l8 j0 j1 i2)), .second, .val (.int (f0_v86 j0 j1 i2)), .val (.int (f0_90_s0 j0 j1 i2)), .val (.int (f0_102_s0 j0 j1 i2)), .unset, .unset] [(.int (0 : Int32))])) _
          refine XS.istore X1.here hx rfl (hb hby at_150) rfl (l' := #[.val (.long j0), .second, .val (.long j1), .second, .val (.int i2), .val (.int (f0_4_s0 j0 j1 i2)), .val (.int (f0_18_s0 j0 j1 i2)), .val (.int (f0_v34 j0 j1 i2)), .val (.long (f0_42_l8 j0 j1 i2)), .second, .val (.int (f0_v86 j0 j1 i2)), .val (.int (f0_90_s0 j0 j1 i2)), .val (.int (f0_102_s0 j0 j1 i2)), .val (.int (0 : Int32)), .unset]) rfl ?_
          show Steps p.tables e below (T1.setTop (mkF m 152 #[.val (.long j0), .second, .val (.long j1), .second, .val (.int i2), .val (.int (f0_4_s0 j0 j1 i2)), .val (.int (f0_18_s0 j0 j1 i2)), .val (.int (f0_v34 j0 j1 i2)), .val (.long (f0_42_l8 j0 j1 i2)), .second, .val (.int (f0_v86 j0 j1 i2)), .val (.int (f0_90_s0 j0 j1 i2)), .val (.int (f0_102_s0 j0 j1 i2)), .val (.int (0 : Int32)), .unset] [])) _
          rw [show (f0_116_l13 j0 j1 i2) = (0 : Int32) from ((if_neg hc116).trans ((if_neg hc129).trans (if_neg hc142)))] at k
          exact k
  refine Outs.of (U' := T1.setTop (mkF m 161 #[.val (.long j0), .second, .val (.long j1), .second, .val (.int i2), .val (.int (f0_4_s0 j0 j1 i2)), .val (.int (f0_18_s0 j0 j1 i2)), .val (.int (f0_v34 j0 j1 i2)), .val (.long (f0_42_l8 j0 j1 i2)), .second, .val (.int (f0_v86 j0 j1 i2)), .val (.int (f0_90_s0 j0 j1 i2)), .val (.int (f0_102_s0 j0 j1 i2)), .val (.int (f0_116_l13 j0 j1 i2)), .unset] [])) (fun t k => ?_) ?_
  · refine XS.iload X1.here hx rfl (hb hby at_152) rfl ?_
    show Steps p.tables e below (T1.setTop (mkF m 154 #[.val (.long j0), .second, .val (.long j1), .second, .val (.int i2), .val (.int (f0_4_s0 j0 j1 i2)), .val (.int (f0_18_s0 j0 j1 i2)), .val (.int (f0_v34 j0 j1 i2)), .val (.long (f0_42_l8 j0 j1 i2)), .second, .val (.int (f0_v86 j0 j1 i2)), .val (.int (f0_90_s0 j0 j1 i2)), .val (.int (f0_102_s0 j0 j1 i2)), .val (.int (f0_116_l13 j0 j1 i2)), .unset] [(.int (f0_v86 j0 j1 i2))])) _
    refine XS.iload X1.here hx rfl (hb hby at_154) rfl ?_
    show Steps p.tables e below (T1.setTop (mkF m 156 #[.val (.long j0), .second, .val (.long j1), .second, .val (.int i2), .val (.int (f0_4_s0 j0 j1 i2)), .val (.int (f0_18_s0 j0 j1 i2)), .val (.int (f0_v34 j0 j1 i2)), .val (.long (f0_42_l8 j0 j1 i2)), .second, .val (.int (f0_v86 j0 j1 i2)), .val (.int (f0_90_s0 j0 j1 i2)), .val (.int (f0_102_s0 j0 j1 i2)), .val (.int (f0_116_l13 j0 j1 i2)), .unset] [(.int (f0_116_l13 j0 j1 i2)), (.int (f0_v86 j0 j1 i2))])) _
    refine XS.icmpYes X1.here hx rfl (pc0 := 156) (pc' := 161) rfl (hb hby at_156) rfl (teq (law_156 j0 j1 i2)).1 (by decide) (by decide) ?_
    show Steps p.tables e below (T1.setTop (mkF m 161 #[.val (.long j0), .second, .val (.long j1), .second, .val (.int i2), .val (.int (f0_4_s0 j0 j1 i2)), .val (.int (f0_18_s0 j0 j1 i2)), .val (.int (f0_v34 j0 j1 i2)), .val (.long (f0_42_l8 j0 j1 i2)), .second, .val (.int (f0_v86 j0 j1 i2)), .val (.int (f0_90_s0 j0 j1 i2)), .val (.int (f0_102_s0 j0 j1 i2)), .val (.int (f0_116_l13 j0 j1 i2)), .unset] [])) _
    exact k
  obtain ⟨T2, h2, X2, e2, E2, A2, D2, -, st2⟩ := newO X1 hx hZ hown (hw _ (List.mem_of_getElem? (i := 4) rfl)) (hw _ (List.mem_of_getElem? (i := 5) rfl)) (hw _ (List.mem_of_getElem? (i := 2) rfl)) e1 (g := (mkF m 161 #[.val (.long j0), .second, .val (.long j1), .second, .val (.int i2), .val (.int (f0_4_s0 j0 j1 i2)), .val (.int (f0_18_s0 j0 j1 i2)), .val (.int (f0_v34 j0 j1 i2)), .val (.long (f0_42_l8 j0 j1 i2)), .second, .val (.int (f0_v86 j0 j1 i2)), .val (.int (f0_90_s0 j0 j1 i2)), .val (.int (f0_102_s0 j0 j1 i2)), .val (.int (f0_116_l13 j0 j1 i2)), .unset] [])) rfl (hb hby at_161) (by decide) (by decide)
  obtain ⟨b2, g2⟩ : ∃ z, z = h0.size := ⟨_, rfl⟩
  rw [← g2] at A2 D2 st2
  have g_b2 : n0 ≤ b2 := Nat.le_trans Z0 (Nat.le_of_eq g2.symm)
  have F2_13 : Fld Z h2 b2 "com/example/palimpsest/palimpsest/sql/KeyRange" "low" "J" (.long (0 : Int64)) := D2 (Or.inr (hw _ (List.mem_of_getElem? (i := 13) rfl))) (ty := .long) (by decide)
  have F2_15 : Fld Z h2 b2 "com/example/palimpsest/palimpsest/sql/KeyRange" "lowInclusive" "Z" (.int (0 : Int32)) := D2 (Or.inr (hw _ (List.mem_of_getElem? (i := 15) rfl))) (ty := .boolean) (by decide)
  have F2_17 : Fld Z h2 b2 "com/example/palimpsest/palimpsest/sql/KeyRange" "high" "J" (.long (0 : Int64)) := D2 (Or.inr (hw _ (List.mem_of_getElem? (i := 17) rfl))) (ty := .long) (by decide)
  have F2_19 : Fld Z h2 b2 "com/example/palimpsest/palimpsest/sql/KeyRange" "highInclusive" "Z" (.int (0 : Int32)) := D2 (Or.inr (hw _ (List.mem_of_getElem? (i := 19) rfl))) (ty := .boolean) (by decide)
  refine Outs.of st2 ?_
  show Outs p e below s _ _ _ (T2.setTop (mkF m 164 #[.val (.long j0), .second, .val (.long j1), .second, .val (.int i2), .val (.int (f0_4_s0 j0 j1 i2)), .val (.int (f0_18_s0 j0 j1 i2)), .val (.int (f0_v34 j0 j1 i2)), .val (.long (f0_42_l8 j0 j1 i2)), .second, .val (.int (f0_v86 j0 j1 i2)), .val (.int (f0_90_s0 j0 j1 i2)), .val (.int (f0_102_s0 j0 j1 i2)), .val (.int (f0_116_l13 j0 j1 i2)), .unset] [(.ref b2)]))
  refine Outs.of (U' := T2.setTop (mkF m 172 #[.val (.long j0), .second, .val (.long j1), .second, .val (.int i2), .val (.int (f0_4_s0 j0 j1 i2)), .val (.int (f0_18_s0 j0 j1 i2)), .val (.int (f0_v34 j0 j1 i2)), .val (.long (f0_42_l8 j0 j1 i2)), .second, .val (.int (f0_v86 j0 j1 i2)), .val (.int (f0_90_s0 j0 j1 i2)), .val (.int (f0_102_s0 j0 j1 i2)), .val (.int (f0_116_l13 j0 j1 i2)), .unset] [(.int (f0_18_s0 j0 j1 i2)), (.long (f0_42_l8 j0 j1 i2)), (.int (f0_4_s0 j0 j1 i2)), (.long j0), (.ref b2), (.ref b2)])) (fun t k => ?_) ?_
  · refine XS.dup X2.here hx rfl (hb hby at_164) rfl rfl ?_
    show Steps p.tables e below (T2.setTop (mkF m 165 #[.val (.long j0), .second, .val (.long j1), .second, .val (.int i2), .val (.int (f0_4_s0 j0 j1 i2)), .val (.int (f0_18_s0 j0 j1 i2)), .val (.int (f0_v34 j0 j1 i2)), .val (.long (f0_42_l8 j0 j1 i2)), .second, .val (.int (f0_v86 j0 j1 i2)), .val (.int (f0_90_s0 j0 j1 i2)), .val (.int (f0_102_s0 j0 j1 i2)), .val (.int (f0_116_l13 j0 j1 i2)), .unset] [(.ref b2), (.ref b2)])) _
    refine XS.lloadN X2.here hx rfl (hb hby at_165) rfl ?_
    show Steps p.tables e below (T2.setTop (mkF m 166 #[.val (.long j0), .second, .val (.long j1), .second, .val (.int i2), .val (.int (f0_4_s0 j0 j1 i2)), .val (.int (f0_18_s0 j0 j1 i2)), .val (.int (f0_v34 j0 j1 i2)), .val (.long (f0_42_l8 j0 j1 i2)), .second, .val (.int (f0_v86 j0 j1 i2)), .val (.int (f0_90_s0 j0 j1 i2)), .val (.int (f0_102_s0 j0 j1 i2)), .val (.int (f0_116_l13 j0 j1 i2)), .unset] [(.long j0), (.ref b2), (.ref b2)])) _
    refine XS.iload X2.here hx rfl (hb hby at_166) rfl ?_
    show Steps p.tables e below (T2.setTop (mkF m 168 #[.val (.long j0), .second, .val (.long j1), .second, .val (.int i2), .val (.int (f0_4_s0 j0 j1 i2)), .val (.int (f0_18_s0 j0 j1 i2)), .val (.int (f0_v34 j0 j1 i2)), .val (.long (f0_42_l8 j0 j1 i2)), .second, .val (.int (f0_v86 j0 j1 i2)), .val (.int (f0_90_s0 j0 j1 i2)), .val (.int (f0_102_s0 j0 j1 i2)), .val (.int (f0_116_l13 j0 j1 i2)), .unset] [(.int (f0_4_s0 j0 j1 i2)), (.long j0), (.ref b2), (.ref b2)])) _
    refine XS.lload X2.here hx rfl (hb hby at_168) rfl ?_
    show Steps p.tables e below (T2.setTop (mkF m 170 #[.val (.long j0), .second, .val (.long j1), .second, .val (.int i2), .val (.int (f0_4_s0 j0 j1 i2)), .val (.int (f0_18_s0 j0 j1 i2)), .val (.int (f0_v34 j0 j1 i2)), .val (.long (f0_42_l8 j0 j1 i2)), .second, .val (.int (f0_v86 j0 j1 i2)), .val (.int (f0_90_s0 j0 j1 i2)), .val (.int (f0_102_s0 j0 j1 i2)), .val (.int (f0_116_l13 j0 j1 i2)), .unset] [(.long (f0_42_l8 j0 j1 i2)), (.int (f0_4_s0 j0 j1 i2)), (.long j0), (.ref b2), (.ref b2)])) _
    refine XS.iload X2.here hx rfl (hb hby at_170) rfl ?_
    show Steps p.tables e below (T2.setTop (mkF m 172 #[.val (.long j0), .second, .val (.long j1), .second, .val (.int i2), .val (.int (f0_4_s0 j0 j1 i2)), .val (.int (f0_18_s0 j0 j1 i2)), .val (.int (f0_v34 j0 j1 i2)), .val (.long (f0_42_l8 j0 j1 i2)), .second, .val (.int (f0_v86 j0 j1 i2)), .val (.int (f0_90_s0 j0 j1 i2)), .val (.int (f0_102_s0 j0 j1 i2)), .val (.int (f0_116_l13 j0 j1 i2)), .unset] [(.int (f0_18_s0 j0 j1 i2)), (.long (f0_42_l8 j0 j1 i2)), (.int (f0_4_s0 j0 j1 i2)), (.long j0), (.ref b2), (.ref b2)])) _
    exact k
  obtain ⟨_, _, ⟨T3, L3, k3, n3⟩, -, X3, ⟨Lc3, hQ3, l3, y3, z3⟩, st3⟩ := X2.specialBack hx (y := (⟨"com/example/palimpsest/palimpsest/sql/KeyRange", "<init>", "(JZJZ)V"⟩ : MethodName)) rfl hown (mvT hZ (hw _ (List.mem_of_getElem? (i := 6) rfl))) (mvT hZ (hw _ (List.mem_of_getElem? (i := 7) rfl))) (mvT hZ (hw _ (List.mem_of_getElem? (i := 8) rfl))) (by decide) (backOf (W := 1) (rm2 l Z a0 hw [] b2 j0 (f0_4_s0 j0 j1 i2) (f0_42_l8 j0 j1 i2) (f0_18_s0 j0 j1 i2) h2 n0 A2 g_b2 F2_13 F2_15 F2_17 F2_19) hZ (hw _ (List.mem_of_getElem? (i := 8) rfl)) (hw _ (List.mem_of_getElem? (i := 2) rfl)) (by decide) (by decide)) (g := (mkF m 172 #[.val (.long j0), .second, .val (.long j1), .second, .val (.int i2), .val (.int (f0_4_s0 j0 j1 i2)), .val (.int (f0_18_s0 j0 j1 i2)), .val (.int (f0_v34 j0 j1 i2)), .val (.long (f0_42_l8 j0 j1 i2)), .second, .val (.int (f0_v86 j0 j1 i2)), .val (.int (f0_90_s0 j0 j1 i2)), .val (.int (f0_102_s0 j0 j1 i2)), .val (.int (f0_116_l13 j0 j1 i2)), .unset] [(.int (f0_18_s0 j0 j1 i2)), (.long (f0_42_l8 j0 j1 i2)), (.int (f0_4_s0 j0 j1 i2)), (.long j0), (.ref b2), (.ref b2)])) rfl (by rw [hml]; rfl) (Steps.refl _) (a := b2) (argsL := [(.long j0), (.int (f0_4_s0 j0 j1 i2)), (.long (f0_42_l8 j0 j1 i2)), (.int (f0_18_s0 j0 j1 i2))]) (rest := [(.ref b2)]) (lenOf pd_1 rfl) rfl (by show 2 * 0 + _ ≤ _; exact Nat.le_of_eq rfl) (hb hby at_172) (fun _ _ => ⟨rfl, e2, (by decide : 1 + 0 ≤ _), (by decide : 4 + 0 ≤ _)⟩)
  dsimp only [Pt.U, Pt.locs, Pt.cells, Pt.slots] at X3 l3 y3 z3 st3 hQ3
  subst l3 y3 z3
  obtain ⟨rfl, N3q, K3, u3_0, u3_1, u3_2, u3_3, u3_4⟩ := hQ3
  have N3 := Fr.app N1 N3q
  refine Outs.to st3 ?_
  show Outs p e below s _ _ _ (T3.setTop (mkF m 175 #[.val (.long j0), .second, .val (.long j1), .second, .val (.int i2), .val (.int (f0_4_s0 j0 j1 i2)), .val (.int (f0_18_s0 j0 j1 i2)), .val (.int (f0_v34 j0 j1 i2)), .val (.long (f0_42_l8 j0 j1 i2)), .second, .val (.int (f0_v86 j0 j1 i2)), .val (.int (f0_90_s0 j0 j1 i2)), .val (.int (f0_102_s0 j0 j1 i2)), .val (.int (f0_116_l13 j0 j1 i2)), .unset] [(.ref b2)]))
  refine Outs.of (U' := T3.setTop (mkF m 179 #[.val (.long j0), .second, .val (.long j1), .second, .val (.int i2), .val (.int (f0_4_s0 j0 j1 i2)), .val (.int (f0_18_s0 j0 j1 i2)), .val (.int (f0_v34 j0 j1 i2)), .val (.long (f0_42_l8 j0 j1 i2)), .second, .val (.int (f0_v86 j0 j1 i2)), .val (.int (f0_90_s0 j0 j1 i2)), .val (.int (f0_102_s0 j0 j1 i2)), .val (.int (f0_116_l13 j0 j1 i2)), .val (.ref b2)] [(.int (f0_v86 j0 j1 i2))])) (fun t k => ?_) ?_
  · refine XS.astore X3.here hx rfl (hb hby at_175) rfl rfl (l' := #[.val (.long j0), .second, .val (.long j1), .second, .val (.int i2), .val (.int (f0_4_s0 j0 j1 i2)), .val (.int (f0_18_s0 j0 j1 i2)), .val (.int (f0_v34 j0 j1 i2)), .val (.long (f0_42_l8 j0 j1 i2)), .second, .val (.int (f0_v86 j0 j1 i2)), .val (.int (f0_90_s0 j0 j1 i2)), .val (.int (f0_102_s0 j0 j1 i2)), .val (.int (f0_116_l13 j0 j1 i2)), .val (.ref b2)]) rfl ?_
    show Steps p.tables e below (T3.setTop (mkF m 177 #[.val (.long j0), .second, .val (.long j1), .second, .val (.int i2), .val (.int (f0_4_s0 j0 j1 i2)), .val (.int (f0_18_s0 j0 j1 i2)), .val (.int (f0_v34 j0 j1 i2)), .val (.long (f0_42_l8 j0 j1 i2)), .second, .val (.int (f0_v86 j0 j1 i2)), .val (.int (f0_90_s0 j0 j1 i2)), .val (.int (f0_102_s0 j0 j1 i2)), .val (.int (f0_116_l13 j0 j1 i2)), .val (.ref b2)] [])) _
    refine XS.iload X3.here hx rfl (hb hby at_177) rfl ?_
    show Steps p.tables e below (T3.setTop (mkF m 179 #[.val (.long j0), .second, .val (.long j1), .second, .val (.int i2), .val (.int (f0_4_s0 j0 j1 i2)), .val (.int (f0_18_s0 j0 j1 i2)), .val (.int (f0_v34 j0 j1 i2)), .val (.long (f0_42_l8 j0 j1 i2)), .second, .val (.int (f0_v86 j0 j1 i2)), .val (.int (f0_90_s0 j0 j1 i2)), .val (.int (f0_102_s0 j0 j1 i2)), .val (.int (f0_116_l13 j0 j1 i2)), .val (.ref b2)] [(.int (f0_v86 j0 j1 i2))])) _
    exact k
  by_cases hc179 : (f0_v86 j0 j1 i2) = (0 : Int32)
  · refine Outs.of (U' := T3.setTop (mkF m 203 #[.val (.long j0), .second, .val (.long j1), .second, .val (.int i2), .val (.int (f0_4_s0 j0 j1 i2)), .val (.int (f0_18_s0 j0 j1 i2)), .val (.int (f0_v34 j0 j1 i2)), .val (.long (f0_42_l8 j0 j1 i2)), .second, .val (.int (f0_v86 j0 j1 i2)), .val (.int (f0_90_s0 j0 j1 i2)), .val (.int (f0_102_s0 j0 j1 i2)), .val (.int (f0_116_l13 j0 j1 i2)), .val (.ref b2)] [])) (fun t k => ?_) ?_
    · refine XS.ifYes X3.here hx rfl (pc0 := 179) (pc' := 203) rfl (hb hby at_179) rfl ((if0 _ _).trans (teq hc179).1) (by decide) (by decide) ?_
      show Steps p.tables e below (T3.setTop (mkF m 203 #[.val (.long j0), .second, .val (.long j1), .second, .val (.int i2), .val (.int (f0_4_s0 j0 j1 i2)), .val (.int (f0_18_s0 j0 j1 i2)), .val (.int (f0_v34 j0 j1 i2)), .val (.long (f0_42_l8 j0 j1 i2)), .second, .val (.int (f0_v86 j0 j1 i2)), .val (.int (f0_90_s0 j0 j1 i2)), .val (.int (f0_102_s0 j0 j1 i2)), .val (.int (f0_116_l13 j0 j1 i2)), .val (.ref b2)] [])) _
      exact k
    refine Outs.of (U' := T3.setTop (mkF m 205 #[.val (.long j0), .second, .val (.long j1), .second, .val (.int i2), .val (.int (f0_4_s0 j0 j1 i2)), .val (.int (f0_18_s0 j0 j1 i2)), .val (.int (f0_v34 j0 j1 i2)), .val (.long (f0_42_l8 j0 j1 i2)), .second, .val (.int (f0_v86 j0 j1 i2)), .val (.int (f0_90_s0 j0 j1 i2)), .val (.int (f0_102_s0 j0 j1 i2)), .val (.int (f0_116_l13 j0 j1 i2)), .val (.ref b2)] [(.int (f0_4_s0 j0 j1 i2))])) (fun t k => ?_) ?_
    · refine XS.iload X3.here hx rfl (hb hby at_203) rfl ?_
      show Steps p.tables e below (T3.setTop (mkF m 205 #[.val (.long j0), .second, .val (.long j1), .second, .val (.int i2), .val (.int (f0_4_s0 j0 j1 i2)), .val (.int (f0_18_s0 j0 j1 i2)), .val (.int (f0_v34 j0 j1 i2)), .val (.long (f0_42_l8 j0 j1 i2)), .second, .val (.int (f0_v86 j0 j1 i2)), .val (.int (f0_90_s0 j0 j1 i2)), .val (.int (f0_102_s0 j0 j1 i2)), .val (.int (f0_116_l13 j0 j1 i2)), .val (.ref b2)] [(.int (f0_4_s0 j0 j1 i2))])) _
      exact k
    by_cases hc205 : (f0_4_s0 j0 j1 i2) = (0 : Int32)
    · refine Outs.of (U' := T3.setTop (mkF m 234 #[.val (.long j0), .second, .val (.long j1), .second, .val (.int i2), .val (.int (f0_4_s0 j0 j1 i2)), .val (.int (f0_18_s0 j0 j1 i2)), .val (.int (f0_v34 j0 j1 i2)), .val (.long (f0_42_l8 j0 j1 i2)), .second, .val (.int (f0_v86 j0 j1 i2)), .val (.int (f0_90_s0 j0 j1 i2)), .val (.int (f0_102_s0 j0 j1 i2)), .val (.int (f0_116_l13 j0 j1 i2)), .val (.ref b2)] [])) (fun t k => ?_) ?_
      · refine XS.ifYes X3.here hx rfl (pc0 := 205) (pc' := 234) rfl (hb hby at_205) rfl ((if0 _ _).trans (teq hc205).1) (by decide) (by decide) ?_
        show Steps p.tables e below (T3.setTop (mkF m 234 #[.val (.long j0), .second, .val (.long j1), .second, .val (.int i2), .val (.int (f0_4_s0 j0 j1 i2)), .val (.int (f0_18_s0 j0 j1 i2)), .val (.int (f0_v34 j0 j1 i2)), .val (.long (f0_42_l8 j0 j1 i2)), .second, .val (.int (f0_v86 j0 j1 i2)), .val (.int (f0_90_s0 j0 j1 i2)), .val (.int (f0_102_s0 j0 j1 i2)), .val (.int (f0_116_l13 j0 j1 i2)), .val (.ref b2)] [])) _
        exact k
      refine Outs.of (U' := T3.setTop (mkF m 235 #[.val (.long j0), .second, .val (.long j1), .second, .val (.int i2), .val (.int (f0_4_s0 j0 j1 i2)), .val (.int (f0_18_s0 j0 j1 i2)), .val (.int (f0_v34 j0 j1 i2)), .val (.long (f0_42_l8 j0 j1 i2)), .second, .val (.int (f0_v86 j0 j1 i2)), .val (.int (f0_90_s0 j0 j1 i2)), .val (.int (f0_102_s0 j0 j1 i2)), .val (.int (f0_116_l13 j0 j1 i2)), .val (.ref b2)] [(.int (1 : Int32))])) (fun t k => ?_) ?_
      · refine XS.iconst X3.here hx rfl (hb hby at_234) ?_
        show Steps p.tables e below (T3.setTop (mkF m 235 #[.val (.long j0), .second, .val (.long j1), .second, .val (.int i2), .val (.int (f0_4_s0 j0 j1 i2)), .val (.int (f0_18_s0 j0 j1 i2)), .val (.int (f0_v34 j0 j1 i2)), .val (.long (f0_42_l8 j0 j1 i2)), .second, .val (.int (f0_v86 j0 j1 i2)), .val (.int (f0_90_s0 j0 j1 i2)), .val (.int (f0_102_s0 j0 j1 i2)), .val (.int (f0_116_l13 j0 j1 i2)), .val (.ref b2)] [(.int (1 : Int32))])) _
        exact k
      exact Outs.retN (t := .boolean) (z := (1 : Int32)) X3 hx hret (by simp) (hb hby at_235) hlk (by decide) (by decide) rfl ⟨rfl, N3⟩
    · refine Outs.of (U' := T3.setTop (mkF m 208 #[.val (.long j0), .second, .val (.long j1), .second, .val (.int i2), .val (.int (f0_4_s0 j0 j1 i2)), .val (.int (f0_18_s0 j0 j1 i2)), .val (.int (f0_v34 j0 j1 i2)), .val (.long (f0_42_l8 j0 j1 i2)), .second, .val (.int (f0_v86 j0 j1 i2)), .val (.int (f0_90_s0 j0 j1 i2)), .val (.int (f0_102_s0 j0 j1 i2)), .val (.int (f0_116_l13 j0 j1 i2)), .val (.ref b2)] [])) (fun t k => ?_) ?_
      · refine XS.ifNo X3.here hx rfl (hb hby at_205) rfl ((if0 _ _).trans (feq hc205).1) ?_
        show Steps p.tables e below (T3.setTop (mkF m 208 #[.val (.long j0), .second, .val (.long j1), .second, .val (.int i2), .val (.int (f0_4_s0 j0 j1 i2)), .val (.int (f0_18_s0 j0 j1 i2)), .val (.int (f0_v34 j0 j1 i2)), .val (.long (f0_42_l8 j0 j1 i2)), .second, .val (.int (f0_v86 j0 j1 i2)), .val (.int (f0_90_s0 j0 j1 i2)), .val (.int (f0_102_s0 j0 j1 i2)), .val (.int (f0_116_l13 j0 j1 i2)), .val (.ref b2)] [])) _
        exact k
      refine Outs.of (U' := T3.setTop (mkF m 210 #[.val (.long j0), .second, .val (.long j1), .second, .val (.int i2), .val (.int (f0_4_s0 j0 j1 i2)), .val (.int (f0_18_s0 j0 j1 i2)), .val (.int (f0_v34 j0 j1 i2)), .val (.long (f0_42_l8 j0 j1 i2)), .second, .val (.int (f0_v86 j0 j1 i2)), .val (.int (f0_90_s0 j0 j1 i2)), .val (.int (f0_102_s0 j0 j1 i2)), .val (.int (f0_116_l13 j0 j1 i2)), .val (.ref b2)] [(.int (f0_18_s0 j0 j1 i2))])) (fun t k => ?_) ?_
      · refine XS.iload X3.here hx rfl (hb hby at_208) rfl ?_
        show Steps p.tables e below (T3.setTop (mkF m 210 #[.val (.long j0), .second, .val (.long j1), .second, .val (.int i2), .val (.int (f0_4_s0 j0 j1 i2)), .val (.int (f0_18_s0 j0 j1 i2)), .val (.int (f0_v34 j0 j1 i2)), .val (.long (f0_42_l8 j0 j1 i2)), .second, .val (.int (f0_v86 j0 j1 i2)), .val (.int (f0_90_s0 j0 j1 i2)), .val (.int (f0_102_s0 j0 j1 i2)), .val (.int (f0_116_l13 j0 j1 i2)), .val (.ref b2)] [(.int (f0_18_s0 j0 j1 i2))])) _
        exact k
      by_cases hc210 : (f0_18_s0 j0 j1 i2) = (0 : Int32)
      · refine Outs.of (U' := T3.setTop (mkF m 234 #[.val (.long j0), .second, .val (.long j1), .second, .val (.int i2), .val (.int (f0_4_s0 j0 j1 i2)), .val (.int (f0_18_s0 j0 j1 i2)), .val (.int (f0_v34 j0 j1 i2)), .val (.long (f0_42_l8 j0 j1 i2)), .second, .val (.int (f0_v86 j0 j1 i2)), .val (.int (f0_90_s0 j0 j1 i2)), .val (.int (f0_102_s0 j0 j1 i2)), .val (.int (f0_116_l13 j0 j1 i2)), .val (.ref b2)] [])) (fun t k => ?_) ?_
        · refine XS.ifYes X3.here hx rfl (pc0 := 210) (pc' := 234) rfl (hb hby at_210) rfl ((if0 _ _).trans (teq hc210).1) (by decide) (by decide) ?_
          show Steps p.tables e below (T3.setTop (mkF m 234 #[.val (.long j0), .second, .val (.long j1), .second, .val (.int i2), .val (.int (f0_4_s0 j0 j1 i2)), .val (.int (f0_18_s0 j0 j1 i2)), .val (.int (f0_v34 j0 j1 i2)), .val (.long (f0_42_l8 j0 j1 i2)), .second, .val (.int (f0_v86 j0 j1 i2)), .val (.int (f0_90_s0 j0 j1 i2)), .val (.int (f0_102_s0 j0 j1 i2)), .val (.int (f0_116_l13 j0 j1 i2)), .val (.ref b2)] [])) _
          exact k
        refine Outs.of (U' := T3.setTop (mkF m 235 #[.val (.long j0), .second, .val (.long j1), .second, .val (.int i2), .val (.int (f0_4_s0 j0 j1 i2)), .val (.int (f0_18_s0 j0 j1 i2)), .val (.int (f0_v34 j0 j1 i2)), .val (.long (f0_42_l8 j0 j1 i2)), .second, .val (.int (f0_v86 j0 j1 i2)), .val (.int (f0_90_s0 j0 j1 i2)), .val (.int (f0_102_s0 j0 j1 i2)), .val (.int (f0_116_l13 j0 j1 i2)), .val (.ref b2)] [(.int (1 : Int32))])) (fun t k => ?_) ?_
        · refine XS.iconst X3.here hx rfl (hb hby at_234) ?_
          show Steps p.tables e below (T3.setTop (mkF m 235 #[.val (.long j0), .second, .val (.long j1), .second, .val (.int i2), .val (.int (f0_4_s0 j0 j1 i2)), .val (.int (f0_18_s0 j0 j1 i2)), .val (.int (f0_v34 j0 j1 i2)), .val (.long (f0_42_l8 j0 j1 i2)), .second, .val (.int (f0_v86 j0 j1 i2)), .val (.int (f0_90_s0 j0 j1 i2)), .val (.int (f0_102_s0 j0 j1 i2)), .val (.int (f0_116_l13 j0 j1 i2)), .val (.ref b2)] [(.int (1 : Int32))])) _
          exact k
        exact Outs.retN (t := .boolean) (z := (1 : Int32)) X3 hx hret (by simp) (hb hby at_235) hlk (by decide) (by decide) rfl ⟨rfl, N3⟩
      · refine Outs.of (U' := T3.setTop (mkF m 213 #[.val (.long j0), .second, .val (.long j1), .second, .val (.int i2), .val (.int (f0_4_s0 j0 j1 i2)), .val (.int (f0_18_s0 j0 j1 i2)), .val (.int (f0_v34 j0 j1 i2)), .val (.long (f0_42_l8 j0 j1 i2)), .second, .val (.int (f0_v86 j0 j1 i2)), .val (.int (f0_90_s0 j0 j1 i2)), .val (.int (f0_102_s0 j0 j1 i2)), .val (.int (f0_116_l13 j0 j1 i2)), .val (.ref b2)] [])) (fun t k => ?_) ?_
        · refine XS.ifNo X3.here hx rfl (hb hby at_210) rfl ((if0 _ _).trans (feq hc210).1) ?_
          show Steps p.tables e below (T3.setTop (mkF m 213 #[.val (.long j0), .second, .val (.long j1), .second, .val (.int i2), .val (.int (f0_4_s0 j0 j1 i2)), .val (.int (f0_18_s0 j0 j1 i2)), .val (.int (f0_v34 j0 j1 i2)), .val (.long (f0_42_l8 j0 j1 i2)), .second, .val (.int (f0_v86 j0 j1 i2)), .val (.int (f0_90_s0 j0 j1 i2)), .val (.int (f0_102_s0 j0 j1 i2)), .val (.int (f0_116_l13 j0 j1 i2)), .val (.ref b2)] [])) _
          exact k
        refine Outs.of (U' := T3.setTop (mkF m 216 #[.val (.long j0), .second, .val (.long j1), .second, .val (.int i2), .val (.int (f0_4_s0 j0 j1 i2)), .val (.int (f0_18_s0 j0 j1 i2)), .val (.int (f0_v34 j0 j1 i2)), .val (.long (f0_42_l8 j0 j1 i2)), .second, .val (.int (f0_v86 j0 j1 i2)), .val (.int (f0_90_s0 j0 j1 i2)), .val (.int (f0_102_s0 j0 j1 i2)), .val (.int (f0_116_l13 j0 j1 i2)), .val (.ref b2)] [(.long j0), (.ref b2)])) (fun t k => ?_) ?_
        · refine XS.aload X3.here hx rfl (hb hby at_213) rfl rfl ?_
          show Steps p.tables e below (T3.setTop (mkF m 215 #[.val (.long j0), .second, .val (.long j1), .second, .val (.int i2), .val (.int (f0_4_s0 j0 j1 i2)), .val (.int (f0_18_s0 j0 j1 i2)), .val (.int (f0_v34 j0 j1 i2)), .val (.long (f0_42_l8 j0 j1 i2)), .second, .val (.int (f0_v86 j0 j1 i2)), .val (.int (f0_90_s0 j0 j1 i2)), .val (.int (f0_102_s0 j0 j1 i2)), .val (.int (f0_116_l13 j0 j1 i2)), .val (.ref b2)] [(.ref b2)])) _
          refine XS.lloadN X3.here hx rfl (hb hby at_215) rfl ?_
          show Steps p.tables e below (T3.setTop (mkF m 216 #[.val (.long j0), .second, .val (.long j1), .second, .val (.int i2), .val (.int (f0_4_s0 j0 j1 i2)), .val (.int (f0_18_s0 j0 j1 i2)), .val (.int (f0_v34 j0 j1 i2)), .val (.long (f0_42_l8 j0 j1 i2)), .second, .val (.int (f0_v86 j0 j1 i2)), .val (.int (f0_90_s0 j0 j1 i2)), .val (.int (f0_102_s0 j0 j1 i2)), .val (.int (f0_116_l13 j0 j1 i2)), .val (.ref b2)] [(.long j0), (.ref b2)])) _
          exact k
        obtain ⟨cq4, kq4, q4a, q4b, q4c⟩ := isOf hZ rfl u3_0
        obtain ⟨_, _, ⟨T4, L4, k4, n4⟩, -, X4, ⟨Lc4, hQ4, l4, y4, z4⟩, st4⟩ := X3.virtualBack hx (y := (⟨"com/example/palimpsest/palimpsest/sql/KeyRange", "contains", "(J)Z"⟩ : MethodName)) (z := (⟨"com/example/palimpsest/palimpsest/sql/KeyRange", "contains", "(J)Z"⟩ : MethodName)) hown (mvT hZ (hw _ (List.mem_of_getElem? (i := 20) rfl))) (mvT hZ (hw _ (List.mem_of_getElem? (i := 21) rfl))) (notFace_of_selects (args := #[]) (mvT hZ (hw _ (List.mem_of_getElem? (i := 23) rfl)))) (mvT hZ (hw _ (List.mem_of_getElem? (i := 23) rfl))) (mvT hZ (hw _ (List.mem_of_getElem? (i := 22) rfl))) (by decide) (backOf (W := 0) (rm4 l Z a0 hw [] b2 j0 j0 (nar .boolean (f0_4_s0 j0 j1 i2)) (f0_42_l8 j0 j1 i2) (nar .boolean (f0_18_s0 j0 j1 i2)) T3.heap n0 u3_1 u3_2 u3_3 u3_4) hZ (hw _ (List.mem_of_getElem? (i := 24) rfl)) (hw _ (List.mem_of_getElem? (i := 2) rfl)) (by decide) (by decide)) q4a q4c (g := (mkF m 216 #[.val (.long j0), .second, .val (.long j1), .second, .val (.int i2), .val (.int (f0_4_s0 j0 j1 i2)), .val (.int (f0_18_s0 j0 j1 i2)), .val (.int (f0_v34 j0 j1 i2)), .val (.long (f0_42_l8 j0 j1 i2)), .second, .val (.int (f0_v86 j0 j1 i2)), .val (.int (f0_90_s0 j0 j1 i2)), .val (.int (f0_102_s0 j0 j1 i2)), .val (.int (f0_116_l13 j0 j1 i2)), .val (.ref b2)] [(.long j0), (.ref b2)])) rfl (by rw [hml]; rfl) (Steps.refl _) (argsL := [(.long j0)]) (rest := []) (lenOf pd_3 rfl) rfl (by show 2 * 0 + _ ≤ _; exact Nat.le_of_eq rfl) (hb hby at_216) (fun _ _ => ⟨rfl, rfl, (by decide : 1 + 0 ≤ _), (by decide : 4 + 0 ≤ _)⟩)
        dsimp only [Pt.U, Pt.locs, Pt.cells, Pt.slots] at X4 l4 y4 z4 st4 hQ4
        subst l4 y4 z4
        obtain ⟨rfl, N4q, e4⟩ := hQ4
        have N4 := Fr.app N3 N4q
        refine Outs.to st4 ?_
        show Outs p e below s _ _ _ (T4.setTop (mkF m 219 #[.val (.long j0), .second, .val (.long j1), .second, .val (.int i2), .val (.int (f0_4_s0 j0 j1 i2)), .val (.int (f0_18_s0 j0 j1 i2)), .val (.int (f0_v34 j0 j1 i2)), .val (.long (f0_42_l8 j0 j1 i2)), .second, .val (.int (f0_v86 j0 j1 i2)), .val (.int (f0_90_s0 j0 j1 i2)), .val (.int (f0_102_s0 j0 j1 i2)), .val (.int (f0_116_l13 j0 j1 i2)), .val (.ref b2)] [(.int (F_f4 j0 j0 (nar .boolean (f0_4_s0 j0 j1 i2)) (f0_42_l8 j0 j1 i2) (nar .boolean (f0_18_s0 j0 j1 i2))))]))
        refine Outs.of (U' := T4.setTop (mkF m 226 #[.val (.long j0), .second, .val (.long j1), .second, .val (.int i2), .val (.int (f0_4_s0 j0 j1 i2)), .val (.int (f0_18_s0 j0 j1 i2)), .val (.int (f0_v34 j0 j1 i2)), .val (.long (f0_42_l8 j0 j1 i2)), .second, .val (.int (f0_v86 j0 j1 i2)), .val (.int (f0_90_s0 j0 j1 i2)), .val (.int (f0_102_s0 j0 j1 i2)), .val (.int (f0_116_l13 j0 j1 i2)), .val (.ref b2)] [(.long (f0_42_l8 j0 j1 i2)), (.ref b2)])) (fun t k => ?_) ?_
        · refine XS.ifNo X4.here hx rfl (hb hby at_219) rfl ((if0 _ _).trans (feq (law_219 j0 j1 i2 hc179 hc205 hc210)).1) ?_
          show Steps p.tables e below (T4.setTop (mkF m 222 #[.val (.long j0), .second, .val (.long j1), .second, .val (.int i2), .val (.int (f0_4_s0 j0 j1 i2)), .val (.int (f0_18_s0 j0 j1 i2)), .val (.int (f0_v34 j0 j1 i2)), .val (.long (f0_42_l8 j0 j1 i2)), .second, .val (.int (f0_v86 j0 j1 i2)), .val (.int (f0_90_s0 j0 j1 i2)), .val (.int (f0_102_s0 j0 j1 i2)), .val (.int (f0_116_l13 j0 j1 i2)), .val (.ref b2)] [])) _
          refine XS.aload X4.here hx rfl (hb hby at_222) rfl rfl ?_
          show Steps p.tables e below (T4.setTop (mkF m 224 #[.val (.long j0), .second, .val (.long j1), .second, .val (.int i2), .val (.int (f0_4_s0 j0 j1 i2)), .val (.int (f0_18_s0 j0 j1 i2)), .val (.int (f0_v34 j0 j1 i2)), .val (.long (f0_42_l8 j0 j1 i2)), .second, .val (.int (f0_v86 j0 j1 i2)), .val (.int (f0_90_s0 j0 j1 i2)), .val (.int (f0_102_s0 j0 j1 i2)), .val (.int (f0_116_l13 j0 j1 i2)), .val (.ref b2)] [(.ref b2)])) _
          refine XS.lload X4.here hx rfl (hb hby at_224) rfl ?_
          show Steps p.tables e below (T4.setTop (mkF m 226 #[.val (.long j0), .second, .val (.long j1), .second, .val (.int i2), .val (.int (f0_4_s0 j0 j1 i2)), .val (.int (f0_18_s0 j0 j1 i2)), .val (.int (f0_v34 j0 j1 i2)), .val (.long (f0_42_l8 j0 j1 i2)), .second, .val (.int (f0_v86 j0 j1 i2)), .val (.int (f0_90_s0 j0 j1 i2)), .val (.int (f0_102_s0 j0 j1 i2)), .val (.int (f0_116_l13 j0 j1 i2)), .val (.ref b2)] [(.long (f0_42_l8 j0 j1 i2)), (.ref b2)])) _
          exact k
        obtain ⟨cq5, kq5, q5a, q5b, q5c⟩ := isOf hZ e4 u3_0
        obtain ⟨_, _, ⟨T5, L5, k5, n5⟩, -, X5, ⟨Lc5, hQ5, l5, y5, z5⟩, st5⟩ := X4.virtualBack hx (y := (⟨"com/example/palimpsest/palimpsest/sql/KeyRange", "contains", "(J)Z"⟩ : MethodName)) (z := (⟨"com/example/palimpsest/palimpsest/sql/KeyRange", "contains", "(J)Z"⟩ : MethodName)) hown (mvT hZ (hw _ (List.mem_of_getElem? (i := 20) rfl))) (mvT hZ (hw _ (List.mem_of_getElem? (i := 21) rfl))) (notFace_of_selects (args := #[]) (mvT hZ (hw _ (List.mem_of_getElem? (i := 23) rfl)))) (mvT hZ (hw _ (List.mem_of_getElem? (i := 23) rfl))) (mvT hZ (hw _ (List.mem_of_getElem? (i := 22) rfl))) (by decide) (backOf (W := 0) (rm4 l Z a0 hw [] b2 (f0_42_l8 j0 j1 i2) j0 (nar .boolean (f0_4_s0 j0 j1 i2)) (f0_42_l8 j0 j1 i2) (nar .boolean (f0_18_s0 j0 j1 i2)) T3.heap n0 u3_1 u3_2 u3_3 u3_4) hZ (hw _ (List.mem_of_getElem? (i := 24) rfl)) (hw _ (List.mem_of_getElem? (i := 2) rfl)) (by decide) (by decide)) q5a q5c (g := (mkF m 226 #[.val (.long j0), .second, .val (.long j1), .second, .val (.int i2), .val (.int (f0_4_s0 j0 j1 i2)), .val (.int (f0_18_s0 j0 j1 i2)), .val (.int (f0_v34 j0 j1 i2)), .val (.long (f0_42_l8 j0 j1 i2)), .second, .val (.int (f0_v86 j0 j1 i2)), .val (.int (f0_90_s0 j0 j1 i2)), .val (.int (f0_102_s0 j0 j1 i2)), .val (.int (f0_116_l13 j0 j1 i2)), .val (.ref b2)] [(.long (f0_42_l8 j0 j1 i2)), (.ref b2)])) rfl (by rw [hml]; rfl) (Steps.refl _) (argsL := [(.long (f0_42_l8 j0 j1 i2))]) (rest := []) (lenOf pd_3 rfl) rfl (by show 2 * 0 + _ ≤ _; exact Nat.le_of_eq rfl) (hb hby at_226) (fun _ _ => ⟨rfl, e4, (by decide : 1 + 0 ≤ _), (by decide : 4 + 0 ≤ _)⟩)
        dsimp only [Pt.U, Pt.locs, Pt.cells, Pt.slots] at X5 l5 y5 z5 st5 hQ5
        subst l5 y5 z5
        obtain ⟨rfl, N5q, e5⟩ := hQ5
        have N5 := Fr.app N4 N5q
        refine Outs.to st5 ?_
        show Outs p e below s _ _ _ (T5.setTop (mkF m 229 #[.val (.long j0), .second, .val (.long j1), .second, .val (.int i2), .val (.int (f0_4_s0 j0 j1 i2)), .val (.int (f0_18_s0 j0 j1 i2)), .val (.int (f0_v34 j0 j1 i2)), .val (.long (f0_42_l8 j0 j1 i2)), .second, .val (.int (f0_v86 j0 j1 i2)), .val (.int (f0_90_s0 j0 j1 i2)), .val (.int (f0_102_s0 j0 j1 i2)), .val (.int (f0_116_l13 j0 j1 i2)), .val (.ref b2)] [(.int (F_f4 (f0_42_l8 j0 j1 i2) j0 (nar .boolean (f0_4_s0 j0 j1 i2)) (f0_42_l8 j0 j1 i2) (nar .boolean (f0_18_s0 j0 j1 i2))))]))
        refine Outs.of (U' := T5.setTop (mkF m 235 #[.val (.long j0), .second, .val (.long j1), .second, .val (.int i2), .val (.int (f0_4_s0 j0 j1 i2)), .val (.int (f0_18_s0 j0 j1 i2)), .val (.int (f0_v34 j0 j1 i2)), .val (.long (f0_42_l8 j0 j1 i2)), .second, .val (.int (f0_v86 j0 j1 i2)), .val (.int (f0_90_s0 j0 j1 i2)), .val (.int (f0_102_s0 j0 j1 i2)), .val (.int (f0_116_l13 j0 j1 i2)), .val (.ref b2)] [(.int (1 : Int32))])) (fun t k => ?_) ?_
        · refine XS.ifYes X5.here hx rfl (pc0 := 229) (pc' := 234) rfl (hb hby at_229) rfl ((if0 _ _).trans (feq (law_229 j0 j1 i2 hc179 hc205 hc210)).2) (by decide) (by decide) ?_
          show Steps p.tables e below (T5.setTop (mkF m 234 #[.val (.long j0), .second, .val (.long j1), .second, .val (.int i2), .val (.int (f0_4_s0 j0 j1 i2)), .val (.int (f0_18_s0 j0 j1 i2)), .val (.int (f0_v34 j0 j1 i2)), .val (.long (f0_42_l8 j0 j1 i2)), .second, .val (.int (f0_v86 j0 j1 i2)), .val (.int (f0_90_s0 j0 j1 i2)), .val (.int (f0_102_s0 j0 j1 i2)), .val (.int (f0_116_l13 j0 j1 i2)), .val (.ref b2)] [])) _
          refine XS.iconst X5.here hx rfl (hb hby at_234) ?_
          show Steps p.tables e below (T5.setTop (mkF m 235 #[.val (.long j0), .second, .val (.long j1), .second, .val (.int i2), .val (.int (f0_4_s0 j0 j1 i2)), .val (.int (f0_18_s0 j0 j1 i2)), .val (.int (f0_v34 j0 j1 i2)), .val (.long (f0_42_l8 j0 j1 i2)), .second, .val (.int (f0_v86 j0 j1 i2)), .val (.int (f0_90_s0 j0 j1 i2)), .val (.int (f0_102_s0 j0 j1 i2)), .val (.int (f0_116_l13 j0 j1 i2)), .val (.ref b2)] [(.int (1 : Int32))])) _
          exact k
        exact Outs.retN (t := .boolean) (z := (1 : Int32)) X5 hx hret (by simp) (hb hby at_235) hlk (by decide) (by decide) e5 ⟨rfl, N5⟩
  · refine Outs.of (U' := T3.setTop (mkF m 182 #[.val (.long j0), .second, .val (.long j1), .second, .val (.int i2), .val (.int (f0_4_s0 j0 j1 i2)), .val (.int (f0_18_s0 j0 j1 i2)), .val (.int (f0_v34 j0 j1 i2)), .val (.long (f0_42_l8 j0 j1 i2)), .second, .val (.int (f0_v86 j0 j1 i2)), .val (.int (f0_90_s0 j0 j1 i2)), .val (.int (f0_102_s0 j0 j1 i2)), .val (.int (f0_116_l13 j0 j1 i2)), .val (.ref b2)] [])) (fun t k => ?_) ?_
    · refine XS.ifNo X3.here hx rfl (hb hby at_179) rfl ((if0 _ _).trans (feq hc179).1) ?_
      show Steps p.tables e below (T3.setTop (mkF m 182 #[.val (.long j0), .second, .val (.long j1), .second, .val (.int i2), .val (.int (f0_4_s0 j0 j1 i2)), .val (.int (f0_18_s0 j0 j1 i2)), .val (.int (f0_v34 j0 j1 i2)), .val (.long (f0_42_l8 j0 j1 i2)), .second, .val (.int (f0_v86 j0 j1 i2)), .val (.int (f0_90_s0 j0 j1 i2)), .val (.int (f0_102_s0 j0 j1 i2)), .val (.int (f0_116_l13 j0 j1 i2)), .val (.ref b2)] [])) _
      exact k
    refine Outs.of (U' := T3.setTop (mkF m 185 #[.val (.long j0), .second, .val (.long j1), .second, .val (.int i2), .val (.int (f0_4_s0 j0 j1 i2)), .val (.int (f0_18_s0 j0 j1 i2)), .val (.int (f0_v34 j0 j1 i2)), .val (.long (f0_42_l8 j0 j1 i2)), .second, .val (.int (f0_v86 j0 j1 i2)), .val (.int (f0_90_s0 j0 j1 i2)), .val (.int (f0_102_s0 j0 j1 i2)), .val (.int (f0_116_l13 j0 j1 i2)), .val (.ref b2)] [(.long j0), (.ref b2)])) (fun t k => ?_) ?_
    · refine XS.aload X3.here hx rfl (hb hby at_182) rfl rfl ?_
      show Steps p.tables e below (T3.setTop (mkF m 184 #[.val (.long j0), .second, .val (.long j1), .second, .val (.int i2), .val (.int (f0_4_s0 j0 j1 i2)), .val (.int (f0_18_s0 j0 j1 i2)), .val (.int (f0_v34 j0 j1 i2)), .val (.long (f0_42_l8 j0 j1 i2)), .second, .val (.int (f0_v86 j0 j1 i2)), .val (.int (f0_90_s0 j0 j1 i2)), .val (.int (f0_102_s0 j0 j1 i2)), .val (.int (f0_116_l13 j0 j1 i2)), .val (.ref b2)] [(.ref b2)])) _
      refine XS.lloadN X3.here hx rfl (hb hby at_184) rfl ?_
      show Steps p.tables e below (T3.setTop (mkF m 185 #[.val (.long j0), .second, .val (.long j1), .second, .val (.int i2), .val (.int (f0_4_s0 j0 j1 i2)), .val (.int (f0_18_s0 j0 j1 i2)), .val (.int (f0_v34 j0 j1 i2)), .val (.long (f0_42_l8 j0 j1 i2)), .second, .val (.int (f0_v86 j0 j1 i2)), .val (.int (f0_90_s0 j0 j1 i2)), .val (.int (f0_102_s0 j0 j1 i2)), .val (.int (f0_116_l13 j0 j1 i2)), .val (.ref b2)] [(.long j0), (.ref b2)])) _
      exact k
    obtain ⟨cq6, kq6, q6a, q6b, q6c⟩ := isOf hZ rfl u3_0
    obtain ⟨_, _, ⟨T6, L6, k6, n6⟩, -, X6, ⟨Lc6, hQ6, l6, y6, z6⟩, st6⟩ := X3.virtualBack hx (y := (⟨"com/example/palimpsest/palimpsest/sql/KeyRange", "contains", "(J)Z"⟩ : MethodName)) (z := (⟨"com/example/palimpsest/palimpsest/sql/KeyRange", "contains", "(J)Z"⟩ : MethodName)) hown (mvT hZ (hw _ (List.mem_of_getElem? (i := 20) rfl))) (mvT hZ (hw _ (List.mem_of_getElem? (i := 21) rfl))) (notFace_of_selects (args := #[]) (mvT hZ (hw _ (List.mem_of_getElem? (i := 23) rfl)))) (mvT hZ (hw _ (List.mem_of_getElem? (i := 23) rfl))) (mvT hZ (hw _ (List.mem_of_getElem? (i := 22) rfl))) (by decide) (backOf (W := 0) (rm4 l Z a0 hw [] b2 j0 j0 (nar .boolean (f0_4_s0 j0 j1 i2)) (f0_42_l8 j0 j1 i2) (nar .boolean (f0_18_s0 j0 j1 i2)) T3.heap n0 u3_1 u3_2 u3_3 u3_4) hZ (hw _ (List.mem_of_getElem? (i := 24) rfl)) (hw _ (List.mem_of_getElem? (i := 2) rfl)) (by decide) (by decide)) q6a q6c (g := (mkF m 185 #[.val (.long j0), .second, .val (.long j1), .second, .val (.int i2), .val (.int (f0_4_s0 j0 j1 i2)), .val (.int (f0_18_s0 j0 j1 i2)), .val (.int (f0_v34 j0 j1 i2)), .val (.long (f0_42_l8 j0 j1 i2)), .second, .val (.int (f0_v86 j0 j1 i2)), .val (.int (f0_90_s0 j0 j1 i2)), .val (.int (f0_102_s0 j0 j1 i2)), .val (.int (f0_116_l13 j0 j1 i2)), .val (.ref b2)] [(.long j0), (.ref b2)])) rfl (by rw [hml]; rfl) (Steps.refl _) (argsL := [(.long j0)]) (rest := []) (lenOf pd_3 rfl) rfl (by show 2 * 0 + _ ≤ _; exact Nat.le_of_eq rfl) (hb hby at_185) (fun _ _ => ⟨rfl, rfl, (by decide : 1 + 0 ≤ _), (by decide : 4 + 0 ≤ _)⟩)
    dsimp only [Pt.U, Pt.locs, Pt.cells, Pt.slots] at X6 l6 y6 z6 st6 hQ6
    subst l6 y6 z6
    obtain ⟨rfl, N6q, e6⟩ := hQ6
    have N6 := Fr.app N3 N6q
    refine Outs.to st6 ?_
    show Outs p e below s _ _ _ (T6.setTop (mkF m 188 #[.val (.long j0), .second, .val (.long j1), .second, .val (.int i2), .val (.int (f0_4_s0 j0 j1 i2)), .val (.int (f0_18_s0 j0 j1 i2)), .val (.int (f0_v34 j0 j1 i2)), .val (.long (f0_42_l8 j0 j1 i2)), .second, .val (.int (f0_v86 j0 j1 i2)), .val (.int (f0_90_s0 j0 j1 i2)), .val (.int (f0_102_s0 j0 j1 i2)), .val (.int (f0_116_l13 j0 j1 i2)), .val (.ref b2)] [(.int (F_f4 j0 j0 (nar .boolean (f0_4_s0 j0 j1 i2)) (f0_42_l8 j0 j1 i2) (nar .boolean (f0_18_s0 j0 j1 i2))))]))
    refine Outs.of (U' := T6.setTop (mkF m 195 #[.val (.long j0), .second, .val (.long j1), .second, .val (.int i2), .val (.int (f0_4_s0 j0 j1 i2)), .val (.int (f0_18_s0 j0 j1 i2)), .val (.int (f0_v34 j0 j1 i2)), .val (.long (f0_42_l8 j0 j1 i2)), .second, .val (.int (f0_v86 j0 j1 i2)), .val (.int (f0_90_s0 j0 j1 i2)), .val (.int (f0_102_s0 j0 j1 i2)), .val (.int (f0_116_l13 j0 j1 i2)), .val (.ref b2)] [(.long (f0_42_l8 j0 j1 i2)), (.ref b2)])) (fun t k => ?_) ?_
    · refine XS.ifNo X6.here hx rfl (hb hby at_188) rfl ((if0 _ _).trans (teq (law_188 j0 j1 i2 hc179)).2) ?_
      show Steps p.tables e below (T6.setTop (mkF m 191 #[.val (.long j0), .second, .val (.long j1), .second, .val (.int i2), .val (.int (f0_4_s0 j0 j1 i2)), .val (.int (f0_18_s0 j0 j1 i2)), .val (.int (f0_v34 j0 j1 i2)), .val (.long (f0_42_l8 j0 j1 i2)), .second, .val (.int (f0_v86 j0 j1 i2)), .val (.int (f0_90_s0 j0 j1 i2)), .val (.int (f0_102_s0 j0 j1 i2)), .val (.int (f0_116_l13 j0 j1 i2)), .val (.ref b2)] [])) _
      refine XS.aload X6.here hx rfl (hb hby at_191) rfl rfl ?_
      show Steps p.tables e below (T6.setTop (mkF m 193 #[.val (.long j0), .second, .val (.long j1), .second, .val (.int i2), .val (.int (f0_4_s0 j0 j1 i2)), .val (.int (f0_18_s0 j0 j1 i2)), .val (.int (f0_v34 j0 j1 i2)), .val (.long (f0_42_l8 j0 j1 i2)), .second, .val (.int (f0_v86 j0 j1 i2)), .val (.int (f0_90_s0 j0 j1 i2)), .val (.int (f0_102_s0 j0 j1 i2)), .val (.int (f0_116_l13 j0 j1 i2)), .val (.ref b2)] [(.ref b2)])) _
      refine XS.lload X6.here hx rfl (hb hby at_193) rfl ?_
      show Steps p.tables e below (T6.setTop (mkF m 195 #[.val (.long j0), .second, .val (.long j1), .second, .val (.int i2), .val (.int (f0_4_s0 j0 j1 i2)), .val (.int (f0_18_s0 j0 j1 i2)), .val (.int (f0_v34 j0 j1 i2)), .val (.long (f0_42_l8 j0 j1 i2)), .second, .val (.int (f0_v86 j0 j1 i2)), .val (.int (f0_90_s0 j0 j1 i2)), .val (.int (f0_102_s0 j0 j1 i2)), .val (.int (f0_116_l13 j0 j1 i2)), .val (.ref b2)] [(.long (f0_42_l8 j0 j1 i2)), (.ref b2)])) _
      exact k
    obtain ⟨cq7, kq7, q7a, q7b, q7c⟩ := isOf hZ e6 u3_0
    obtain ⟨_, _, ⟨T7, L7, k7, n7⟩, -, X7, ⟨Lc7, hQ7, l7, y7, z7⟩, st7⟩ := X6.virtualBack hx (y := (⟨"com/example/palimpsest/palimpsest/sql/KeyRange", "contains", "(J)Z"⟩ : MethodName)) (z := (⟨"com/example/palimpsest/palimpsest/sql/KeyRange", "contains", "(J)Z"⟩ : MethodName)) hown (mvT hZ (hw _ (List.mem_of_getElem? (i := 20) rfl))) (mvT hZ (hw _ (List.mem_of_getElem? (i := 21) rfl))) (notFace_of_selects (args := #[]) (mvT hZ (hw _ (List.mem_of_getElem? (i := 23) rfl)))) (mvT hZ (hw _ (List.mem_of_getElem? (i := 23) rfl))) (mvT hZ (hw _ (List.mem_of_getElem? (i := 22) rfl))) (by decide) (backOf (W := 0) (rm4 l Z a0 hw [] b2 (f0_42_l8 j0 j1 i2) j0 (nar .boolean (f0_4_s0 j0 j1 i2)) (f0_42_l8 j0 j1 i2) (nar .boolean (f0_18_s0 j0 j1 i2)) T3.heap n0 u3_1 u3_2 u3_3 u3_4) hZ (hw _ (List.mem_of_getElem? (i := 24) rfl)) (hw _ (List.mem_of_getElem? (i := 2) rfl)) (by decide) (by decide)) q7a q7c (g := (mkF m 195 #[.val (.long j0), .second, .val (.long j1), .second, .val (.int i2), .val (.int (f0_4_s0 j0 j1 i2)), .val (.int (f0_18_s0 j0 j1 i2)), .val (.int (f0_v34 j0 j1 i2)), .val (.long (f0_42_l8 j0 j1 i2)), .second, .val (.int (f0_v86 j0 j1 i2)), .val (.int (f0_90_s0 j0 j1 i2)), .val (.int (f0_102_s0 j0 j1 i2)), .val (.int (f0_116_l13 j0 j1 i2)), .val (.ref b2)] [(.long (f0_42_l8 j0 j1 i2)), (.ref b2)])) rfl (by rw [hml]; rfl) (Steps.refl _) (argsL := [(.long (f0_42_l8 j0 j1 i2))]) (rest := []) (lenOf pd_3 rfl) rfl (by show 2 * 0 + _ ≤ _; exact Nat.le_of_eq rfl) (hb hby at_195) (fun _ _ => ⟨rfl, e6, (by decide : 1 + 0 ≤ _), (by decide : 4 + 0 ≤ _)⟩)
    dsimp only [Pt.U, Pt.locs, Pt.cells, Pt.slots] at X7 l7 y7 z7 st7 hQ7
    subst l7 y7 z7
    obtain ⟨rfl, N7q, e7⟩ := hQ7
    have N7 := Fr.app N6 N7q
    refine Outs.to st7 ?_
    show Outs p e below s _ _ _ (T7.setTop (mkF m 198 #[.val (.long j0), .second, .val (.long j1), .second, .val (.int i2), .val (.int (f0_4_s0 j0 j1 i2)), .val (.int (f0_18_s0 j0 j1 i2)), .val (.int (f0_v34 j0 j1 i2)), .val (.long (f0_42_l8 j0 j1 i2)), .second, .val (.int (f0_v86 j0 j1 i2)), .val (.int (f0_90_s0 j0 j1 i2)), .val (.int (f0_102_s0 j0 j1 i2)), .val (.int (f0_116_l13 j0 j1 i2)), .val (.ref b2)] [(.int (F_f4 (f0_42_l8 j0 j1 i2) j0 (nar .boolean (f0_4_s0 j0 j1 i2)) (f0_42_l8 j0 j1 i2) (nar .boolean (f0_18_s0 j0 j1 i2))))]))
    refine Outs.of (U' := T7.setTop (mkF m 235 #[.val (.long j0), .second, .val (.long j1), .second, .val (.int i2), .val (.int (f0_4_s0 j0 j1 i2)), .val (.int (f0_18_s0 j0 j1 i2)), .val (.int (f0_v34 j0 j1 i2)), .val (.long (f0_42_l8 j0 j1 i2)), .second, .val (.int (f0_v86 j0 j1 i2)), .val (.int (f0_90_s0 j0 j1 i2)), .val (.int (f0_102_s0 j0 j1 i2)), .val (.int (f0_116_l13 j0 j1 i2)), .val (.ref b2)] [(.int (1 : Int32))])) (fun t k => ?_) ?_
    · refine XS.ifYes X7.here hx rfl (pc0 := 198) (pc' := 234) rfl (hb hby at_198) rfl ((if0 _ _).trans (teq (law_198 j0 j1 i2 hc179)).1) (by decide) (by decide) ?_
      show Steps p.tables e below (T7.setTop (mkF m 234 #[.val (.long j0), .second, .val (.long j1), .second, .val (.int i2), .val (.int (f0_4_s0 j0 j1 i2)), .val (.int (f0_18_s0 j0 j1 i2)), .val (.int (f0_v34 j0 j1 i2)), .val (.long (f0_42_l8 j0 j1 i2)), .second, .val (.int (f0_v86 j0 j1 i2)), .val (.int (f0_90_s0 j0 j1 i2)), .val (.int (f0_102_s0 j0 j1 i2)), .val (.int (f0_116_l13 j0 j1 i2)), .val (.ref b2)] [])) _
      refine XS.iconst X7.here hx rfl (hb hby at_234) ?_
      show Steps p.tables e below (T7.setTop (mkF m 235 #[.val (.long j0), .second, .val (.long j1), .second, .val (.int i2), .val (.int (f0_4_s0 j0 j1 i2)), .val (.int (f0_18_s0 j0 j1 i2)), .val (.int (f0_v34 j0 j1 i2)), .val (.long (f0_42_l8 j0 j1 i2)), .second, .val (.int (f0_v86 j0 j1 i2)), .val (.int (f0_90_s0 j0 j1 i2)), .val (.int (f0_102_s0 j0 j1 i2)), .val (.int (f0_116_l13 j0 j1 i2)), .val (.ref b2)] [(.int (1 : Int32))])) _
      exact k
    exact Outs.retN (t := .boolean) (z := (1 : Int32)) X7 hx hret (by simp) (hb hby at_235) hlk (by decide) (by decide) e7 ⟨rfl, N7⟩
set_option maxRecDepth 65536 in
set_option maxHeartbeats 40000000 in
theorem comes_1 {Post : Tables → Env → Array Value → State → Outcome → State → Prop} (hpost : ∀ tb e args s v u, (limb_1_1.after args s (.returned v) u = true ∧ limb_1_2.after args s (.returned v) u = true ∧ True) → FrameEnd s (.returned v) u (Jvm.fieldLocs frame_1_writes args s ++ Jvm.arrayLocs frame_1_arrays args s ++ Jvm.staticLocs frame_1_statics s) 16 128 → Post tb e args s (.returned v) u) :
    ArmFor flags0 classFile x code maxLocals ret World_1 tables_1 room_1 Calls_1 rest_1 Pre_1 Post := by
  intro l hfl _ _ p e ha hc hk s m args below hf hA hF happ hP
  obtain ⟨hcalls, hrest, hpre⟩ := hP
  obtain ⟨-, -, -, hnamed, -, -, -, hat⟩ := (Spec.applies_iff hf).mp happ
  obtain ⟨hg, hn⟩ := and_e (Cond.before_iff.mp (show (Jvm.Cond.and given_1 narrow_1).before args s = true from hpre))
  obtain ⟨g1, g2⟩ := and_e hg
  obtain ⟨g3, g4⟩ := and_e g2
  obtain ⟨g5, g6⟩ := and_e g4
  obtain ⟨w0, w1, w2, rfl⟩ : ∃ w0 w1 w2 : Value, args = #[w0, w1, w2] := by
    have hs : args.size = 3 := by simpa [Cond.value, given_1] using g1
    obtain ⟨L⟩ := args
    match L, hs with
    | [w0, w1, w2], _ => exact ⟨w0, w1, w2, rfl⟩
  have hw := fun d (hd : d ∈ tables_1) => atoms_spec (ws := Jvm.Cond.code x code maxLocals ret :: tables_1) hat d (List.mem_cons_of_mem _ hd)
  obtain ⟨i0, ei0⟩ := isL_v g3
  obtain rfl : w0 = (.long i0) := Option.some.inj ei0
  obtain ⟨i1, ei1⟩ := isL_v g5
  obtain rfl : w1 = (.long i1) := Option.some.inj ei1
  obtain ⟨i2, ei2⟩ := is_v g6
  obtain rfl : w2 = (.int i2) := Option.some.inj ei2
  obtain ⟨n, o, h1, h2, h3, v, L, rfl, hQ0, hq⟩ := rm0 l s _ hw tables_1 i0 i1 i2 s.heap s.heap.size (Nat.le_refl _) p e ha hc hk s m _ below hf ((Spec.applies_iff_loose hf).mp happ).1 ⟨rfl, State.Warmed39.refl s, rfl⟩ trivial
  obtain ⟨rfl, N⟩ : v = some (.int 1) ∧ Fr s.heap.size L := hQ0
  refine ⟨n, _, h1, h2, h3, hpost _ _ _ _ _ _ ⟨Cond.after_iff.mpr rfl, Cond.after_iff.mpr (eq_i res_at (Term.int_eval (1)) rfl), trivial⟩ ⟨hq.1, hq.2.1, (hq.2.2.sift fun y hy => Or.inr (N y hy)).mono (by decide) (by decide)⟩⟩
theorem main_1_1 : Claimed_1_1 := comes_1 fun _ _ _ _ _ _ h hF => ⟨h.1, hF⟩
theorem main_1_2 : Claimed_1_2 := comes_1 fun _ _ _ _ _ _ h hF => ⟨h.2.1, hF⟩
end Jvm.Pilot.@@N@@
namespace Jvm.Pilot.@@N@@
open Jvm Jvm.ClassFile Sem Op Lib Jvm.Free Jvm.Stand Jvm.Pilot.@@N@@.Jvm.D
/-! MADE BY PROGRAM (witnessworld.py) out of the Statement's table words and the real class files: 9 classes; the members and pool entries that the words name. The judged class is class 1, her method 1. -/
namespace start1
open Jvm.ClassFile
def u (s : String) : CpInfo := .utf8 (stringToUtf16 s)
/-- a pool by its gaps: so many unusable entries, then the entry; so many at the end -/
def gap : Nat → List CpInfo → List CpInfo
  | 0, r => r
  | n + 1, r => .unusable :: gap n r
def poolList (es : List (Nat × CpInfo)) (last : Nat) : List CpInfo := es.foldr (fun e r => gap e.1 (e.2 :: r)) (gap last [])
def pool (es : List (Nat × CpInfo)) (last : Nat) : Array CpInfo := ⟨poolList es last⟩
def fileOf (pool : Array CpInfo) (this : Nat) (attrs : Array Attribute := #[]) (ms : Array MethodInfo := #[]) (fl : Nat := 33) (sup : Nat := 0) (ifs : Array Nat := #[]) (fds : Array FieldInfo := #[]) : ClassFile where
  minorVersion := 0
  majorVersion := 65
  constantPool := pool
  accessFlags := fl
  thisClass := this
  superClass := sup
  interfaces := ifs
  fields := fds
  methods := ms
  attributes := attrs
def plain (name : String) (sup : Option ClassId) : Class where
  name := name
  kind := .ordinary
  loader := none
  accessFlags := 33
  super := sup
  interfaces := #[]
  cf := none
  fields := #[]
  methods := #[]
  instanceTypes := #[]
  staticTypes := #[]
  resolved := #[]
  callSites := []
  init := .initialized
  statics := none
  mirror := none

def pool0 : Array CpInfo := pool [(5, u "<init>"), (0, u "()V"), (1, .class_ 10), (1, u "java/lang/Object")] 113

def k0c0 : Code := { maxStack := 0, maxLocals := 1, code := object_method_1_code, exceptionTable := #[], attributes := #[] }
def k0m0 : Method := { name := "<init>", desc := "()V", sig := { parameters := [], returnType := none }, accessFlags := 1, code := some k0c0 }
/-- java/lang/Object -/
def k0 : Class := { plain "java/lang/Object" none with
  accessFlags := 33
  interfaces := #[]
  cf := some (fileOf pool0 8 #[] #[{ accessFlags := 1, nameIndex := 5, descriptorIndex := 6, attributes := #[] }] 33 0 #[] #[])
  fields := #[]
  methods := #[k0m0]
  instanceTypes := #[]
  staticTypes := #[]
  resolved := Array.replicate 124 none
  statics := none }

def pool1 : Array CpInfo := pool [(2, .class_ 4), (1, u "java/lang/Object"), (0, u "<init>"), (0, u "()V"), (0, .methodref 8 9), (0, .class_ 10), (0, .nameAndType 11 12), (0, u "com/example/palimpsest/palimpsest/sql/KeyRange"), (0, u "isEmpty"), (0, u "(JZJZ)Z"), (0, .methodref 8 14), (0, .nameAndType 5 15), (0, u "(JZJZ)V"), (0, .methodref 8 17), (0, .nameAndType 18 19), (0, u "contains"), (0, u "(J)Z"), (0, .class_ 21), (0, u "com/example/palimpsest/palimpsest/sql/KeyRangeIsEmptyPinLaw"), (2, u "law"), (0, u "(JJI)Z")] 3

def k1m0 : Method := { name := "<init>", desc := "()V", sig := { parameters := [], returnType := none }, accessFlags := 1, code := none }
def k1c1 : Code := { maxStack := 8, maxLocals := 15, code := code, exceptionTable := #[], attributes := #[] }
def k1m1 : Method := { name := "law", desc := "(JJI)Z", sig := { parameters := [.long, .long, .int], returnType := some .boolean }, accessFlags := 9, code := some k1c1 }
/-- com/example/palimpsest/palimpsest/sql/KeyRangeIsEmptyPinLaw -/
def k1 : Class := { plain "com/example/palimpsest/palimpsest/sql/KeyRangeIsEmptyPinLaw" (some 0) with
  accessFlags := 49
  interfaces := #[]
  cf := some (fileOf pool1 20 #[] #[{ accessFlags := 1, nameIndex := 5, descriptorIndex := 6, attributes := #[] }, { accessFlags := 9, nameIndex := 24, descriptorIndex := 25, attributes := #[] }] 49 2 #[] #[])
  fields := #[]
  methods := #[k1m0, k1m1]
  instanceTypes := #[]
  staticTypes := #[]
  resolved := Array.replicate 29 none
  statics := none }

def pool2 : Array CpInfo := pool [(1, .methodref 2 3), (0, .class_ 4), (0, .nameAndType 5 6), (0, u "java/lang/Object"), (0, u "<init>"), (0, u "()V"), (0, .fieldref 8 9), (0, .class_ 10), (0, .nameAndType 11 12), (0, u "com/example/palimpsest/palimpsest/sql/KeyRange"), (0, u "low"), (0, u "J"), (0, .fieldref 8 14), (0, .nameAndType 15 16), (0, u "lowInclusive"), (0, u "Z"), (0, .fieldref 8 18), (0, .nameAndType 19 12), (0, u "high"), (0, .fieldref 8 21), (0, .nameAndType 22 16), (0, u "highInclusive"), (28, u "(JZJZ)V"), (2, u "isEmpty"), (0, u "(JZJZ)Z"), (8, u "contains"), (0, u "(J)Z")] 19

def k2c0 : Code := { maxStack := 3, maxLocals := 7, code := prog_74_method_1_code, exceptionTable := #[], attributes := #[] }
def k2m0 : Method := { name := "<init>", desc := "(JZJZ)V", sig := { parameters := [.long, .boolean, .long, .boolean], returnType := none }, accessFlags := 0, code := some k2c0 }
def k2c1 : Code := { maxStack := 4, maxLocals := 6, code := prog_74_method_2_code, exceptionTable := #[], attributes := #[] }
def k2m1 : Method := { name := "isEmpty", desc := "(JZJZ)Z", sig := { parameters := [.long, .boolean, .long, .boolean], returnType := some .boolean }, accessFlags := 8, code := some k2c1 }
def k2c2 : Code := { maxStack := 4, maxLocals := 5, code := prog_74_method_8_code, exceptionTable := #[], attributes := #[] }
def k2m2 : Method := { name := "contains", desc := "(J)Z", sig := { parameters := [.long], returnType := some .boolean }, accessFlags := 1, code := some k2c2 }
/-- com/example/palimpsest/palimpsest/sql/KeyRange -/
def k2 : Class := { plain "com/example/palimpsest/palimpsest/sql/KeyRange" (some 0) with
  accessFlags := 49
  interfaces := #[]
  cf := some (fileOf pool2 8 #[] #[{ accessFlags := 0, nameIndex := 5, descriptorIndex := 51, attributes := #[] }, { accessFlags := 8, nameIndex := 54, descriptorIndex := 55, attributes := #[] }, { accessFlags := 1, nameIndex := 64, descriptorIndex := 65, attributes := #[] }] 49 2 #[] #[{ accessFlags := 18, nameIndex := 11, descriptorIndex := 12, attributes := #[] }, { accessFlags := 18, nameIndex := 15, descriptorIndex := 16, attributes := #[] }, { accessFlags := 18, nameIndex := 19, descriptorIndex := 12, attributes := #[] }, { accessFlags := 18, nameIndex := 22, descriptorIndex := 16, attributes := #[] }])
  fields := #[{ name := "low", type := .long, accessFlags := 18, slot := 0, constantValue := 0 }, { name := "lowInclusive", type := .boolean, accessFlags := 18, slot := 1, constantValue := 0 }, { name := "high", type := .long, accessFlags := 18, slot := 2, constantValue := 0 }, { name := "highInclusive", type := .boolean, accessFlags := 18, slot := 3, constantValue := 0 }]
  methods := #[k2m0, k2m1, k2m2]
  instanceTypes := #[.long, .boolean, .long, .boolean]
  staticTypes := #[]
  resolved := Array.replicate 85 none
  statics := none }

def pool3 : Array CpInfo := pool [(1, u "java/lang/Cloneable"), (0, .class_ 1), (0, u "java/lang/Object"), (0, .class_ 3)] 3

/-- java/lang/Cloneable -/
def k3 : Class := { plain "java/lang/Cloneable" (some 0) with
  accessFlags := 1537
  interfaces := #[]
  cf := some (fileOf pool3 2 #[] #[] 1537 4 #[] #[])
  fields := #[]
  methods := #[]
  instanceTypes := #[]
  staticTypes := #[]
  resolved := Array.replicate 8 none
  statics := none }

def pool4 : Array CpInfo := pool [(1, u "java/io/Serializable"), (0, .class_ 1), (0, u "java/lang/Object"), (0, .class_ 3)] 3

/-- java/io/Serializable -/
def k4 : Class := { plain "java/io/Serializable" (some 0) with
  accessFlags := 1537
  interfaces := #[]
  cf := some (fileOf pool4 2 #[] #[] 1537 4 #[] #[])
  fields := #[]
  methods := #[]
  instanceTypes := #[]
  staticTypes := #[]
  resolved := Array.replicate 8 none
  statics := none }

/-- the primitive byte -/
def k5 : Class := { plain "byte" none with kind := .primitive 'B', accessFlags := 0x411 }
/-- [B -/
def k6 : Class := { plain "[B" (some 0) with kind := .array 5 .byte, interfaces := #[3, 4], accessFlags := 1041 }

/-- the primitive int -/
def k7 : Class := { plain "int" none with kind := .primitive 'I', accessFlags := 0x411 }
/-- [I -/
def k8 : Class := { plain "[I" (some 0) with kind := .array 7 .int, interfaces := #[3, 4], accessFlags := 1041 }

def heap : Heap := #[]
def classes : Array Class := #[k0, k1, k2, k3, k4, k5, k6, k7, k8]
def interned : List (Array UInt16 × Addr) := []
def slotsUsed : Nat := 0
def theMethod : MethodId := ⟨1, 1⟩
def args0 : Array Value := #[.long 5, .long 7, .int 1]
def aboutOver (below : List Frame) : State where
  vm := { classes := classes, interned := interned.toArray }
  heap := heap
  slotsUsed := slotsUsed
  threads := #[{ frames := .invoking theMethod args0 :: below }]
def below0 : List Frame := [.native { method := ⟨0, 0⟩, args := #[] }]
def about1 : State := aboutOver below0
def p0 : Program := .bare "" "" ""
def e0 : Env := launch0.env 0 0 0
theorem w_frames : about1.frames = Frame.invoking theMethod args0 :: below0 := rfl
set_option maxRecDepth 65536 in
theorem w_args : argsFit about1.vm theMethod args0 = true := by decide +kernel
set_option maxRecDepth 65536 in
theorem w_heap : heapFits about1 = true := by decide +kernel
set_option maxRecDepth 65536 in
theorem w_runnable : about1.curStatus? = some .runnable := by decide +kernel
set_option maxRecDepth 65536 in
theorem w_alone : about1.alone = true := by decide +kernel
set_option maxRecDepth 65536 in
theorem w_named : about1.methodNamed? x = some theMethod := by decide +kernel
set_option maxRecDepth 65536 in
theorem w_hears : about1.hears theMethod below0 = true := by decide +kernel
set_option maxRecDepth 65536 in
theorem w_ripe : about1.ripe theMethod args0 below0 = true := by decide +kernel
theorem w_running : about1.status = .running := rfl
set_option maxRecDepth 65536 in
theorem w_room : about1.hasRoom e0.platform room_1 = true :=
  launch0.hasRoom_least _ room_1 (by decide +kernel) (by decide +kernel) (by decide +kernel) (by decide +kernel) (by decide +kernel) (by decide +kernel)
theorem allAtoms_all (ts : List Jvm.Cond) (a : Array Jvm.Value) (st : Jvm.State) : (allAtoms ts).before a st = ts.all (fun c => c.before a st) := by
  induction ts with
  | nil => rfl
  | cons c t ih =>
    show (Jvm.Cond.and c (allAtoms t)).before a st = _
    rw [Jvm.Cond.before_and, ih, List.all_cons]
def words1 : List Jvm.Cond := Jvm.Cond.code x code maxLocals ret :: tables_1
/-- a 'code' word, met by the world's own term for the bytes: nothing is compared byte by byte -/
theorem code_word {y : MethodName} {bytes : ByteArray} {mx : Nat} {rt : Option FieldType} {a : Array Value} {s : State} {m : MethodId} {meth : Method} {c : Code} (h1 : s.methodNamed? y = some m) (h2 : s.vm.method? m = some meth) (h3 : meth.code = some c) (h4 : c.code = bytes)
    (h5 : (c.maxLocals == mx && c.exceptionTable.isEmpty && decide (c.maxStack ≤ mostOperands) && decide (meth.sig.returnType = rt) && !meth.locks && decide (parseMethodDescriptor y.desc = some meth.sig)) = true) : (Jvm.Cond.code y bytes mx rt).before a s = true := by
  simp only [Bool.and_eq_true, beq_iff_eq, Bool.not_eq_true', decide_eq_true_eq] at h5
  obtain ⟨⟨⟨⟨⟨g1, g2⟩, g3⟩, g4⟩, g5⟩, g6⟩ := h5
  simp [Cond.before, Cond.holds, Cond.value, h1, h2, h3, h4, g1, g2, g3, g4, g5, g6]
def isCode : Jvm.Cond → Bool
  | .code _ _ _ _ => true
  | _ => false
theorem all_split {L : List Jvm.Cond} {P : Jvm.Cond → Bool} (h1 : L.all (fun c => isCode c || P c) = true) (h2 : ∀ c ∈ L.filter isCode, P c = true) : L.all P = true := by
  refine List.all_eq_true.mpr fun c hc => ?_
  have h := List.all_eq_true.mp h1 c hc
  rcases Bool.eq_false_or_eq_true (isCode c) with hi | hi
  · exact h2 c (List.mem_filter.mpr ⟨hc, hi⟩)
  · simpa [hi] using h
set_option maxRecDepth 65536 in
theorem w_c0 : (Jvm.Cond.code x code maxLocals ret).before args0 about1 = true := code_word (m := ⟨1, 1⟩) (meth := k1m1) (c := k1c1) (by decide +kernel) rfl rfl rfl (by decide +kernel)
set_option maxRecDepth 65536 in
theorem w_c1 : (Jvm.Cond.code ({ cls := "com/example/palimpsest/palimpsest/sql/KeyRange", name := "isEmpty", desc := "(JZJZ)Z" } : Jvm.MethodName) prog_74_method_2_code (6 : Nat) (Option.some Jvm.ClassFile.FieldType.boolean)).before args0 about1 = true := code_word (m := ⟨2, 1⟩) (meth := k2m1) (c := k2c1) (by decide +kernel) rfl rfl rfl (by decide +kernel)
set_option maxRecDepth 65536 in
theorem w_c2 : (Jvm.Cond.code ({ cls := "com/example/palimpsest/palimpsest/sql/KeyRange", name := "<init>", desc := "(JZJZ)V" } : Jvm.MethodName) prog_74_method_1_code (7 : Nat) (Option.none : Option Jvm.ClassFile.FieldType)).before args0 about1 = true := code_word (m := ⟨2, 0⟩) (meth := k2m0) (c := k2c0) (by decide +kernel) rfl rfl rfl (by decide +kernel)
set_option maxRecDepth 65536 in
theorem w_c3 : (Jvm.Cond.code ({ cls := "java/lang/Object", name := "<init>", desc := "()V" } : Jvm.MethodName) object_method_1_code (1 : Nat) (Option.none : Option Jvm.ClassFile.FieldType)).before args0 about1 = true := code_word (m := ⟨0, 0⟩) (meth := k0m0) (c := k0c0) (by decide +kernel) rfl rfl rfl (by decide +kernel)
set_option maxRecDepth 65536 in
theorem w_c4 : (Jvm.Cond.code ({ cls := "com/example/palimpsest/palimpsest/sql/KeyRange", name := "contains", desc := "(J)Z" } : Jvm.MethodName) prog_74_method_8_code (5 : Nat) (Option.some Jvm.ClassFile.FieldType.boolean)).before args0 about1 = true := code_word (m := ⟨2, 2⟩) (meth := k2m2) (c := k2c2) (by decide +kernel) rfl rfl rfl (by decide +kernel)
def codes1 : List Jvm.Cond := [Jvm.Cond.code x code maxLocals ret, Jvm.Cond.code ({ cls := "com/example/palimpsest/palimpsest/sql/KeyRange", name := "isEmpty", desc := "(JZJZ)Z" } : Jvm.MethodName) prog_74_method_2_code (6 : Nat) (Option.some Jvm.ClassFile.FieldType.boolean), Jvm.Cond.code ({ cls := "com/example/palimpsest/palimpsest/sql/KeyRange", name := "<init>", desc := "(JZJZ)V" } : Jvm.MethodName) prog_74_method_1_code (7 : Nat) (Option.none : Option Jvm.ClassFile.FieldType), Jvm.Cond.code ({ cls := "java/lang/Object", name := "<init>", desc := "()V" } : Jvm.MethodName) object_method_1_code (1 : Nat) (Option.none : Option Jvm.ClassFile.FieldType), Jvm.Cond.code ({ cls := "com/example/palimpsest/palimpsest/sql/KeyRange", name := "contains", desc := "(J)Z" } : Jvm.MethodName) prog_74_method_8_code (5 : Nat) (Option.some Jvm.ClassFile.FieldType.boolean)]
set_option maxRecDepth 65536 in
theorem codes_eq : words1.filter isCode = codes1 := rfl
theorem w_codes : ∀ c ∈ words1.filter isCode, c.before args0 about1 = true := by
  rw [codes_eq]
  intro c hc
  simp only [codes1, List.mem_cons, List.not_mem_nil, or_false] at hc
  rcases hc with rfl | rfl | rfl | rfl | rfl
  · exact w_c0
  · exact w_c1
  · exact w_c2
  · exact w_c3
  · exact w_c4
set_option maxRecDepth 65536 in
theorem w_t1 : (words1.take 24).all (fun c => isCode c || c.before args0 about1) = true := by decide +kernel
set_option maxRecDepth 65536 in
theorem w_t2 : (words1.drop 24).all (fun c => isCode c || c.before args0 about1) = true := by decide +kernel
theorem w_tables : (allAtoms (Jvm.Cond.code x code maxLocals ret :: tables_1)).before args0 about1 = true := by
  rw [allAtoms_all]
  show words1.all (fun c => c.before args0 about1) = true
  refine all_split ?_ w_codes
  rw [← List.take_append_drop 24 words1, List.all_append, w_t1, w_t2]
  rfl
set_option maxRecDepth 65536 in
theorem w_case : (Jvm.Cond.and given_1 narrow_1).before args0 about1 = true := by decide +kernel
theorem w_applies : (headSpec (Jvm.Cond.code x code maxLocals ret :: tables_1) room_1).applies x e0.platform about1 = true :=
  (Spec.applies_iff w_frames).mpr ⟨w_running, w_runnable, w_alone, w_named, w_hears, w_ripe, w_room, w_tables⟩
theorem atStart : AtStart classFile x code maxLocals ret World_1 tables_1 room_1 Calls_1 rest_1 Pre_1 launch0 p0 e0 about1 theMethod args0 below0 :=
  ⟨lists_1, trivial, launch0.admits_env _ _ _, launch0.least_env, fairChoices_fair.cas, fairChoices_fair.clock, w_frames, w_args, w_heap, w_applies, trivial, trivial, w_case⟩
end start1
theorem witness_1 : WitnessClaimed_1 := ⟨start1.p0, start1.e0, start1.about1, start1.theMethod, start1.args0, start1.below0, start1.atStart⟩
end Jvm.Pilot.@@N@@
