import JvmDerived
import JvmDerived.Pilot.@@N@@Statement
import JvmDerived.Pilot.@@N@@Code
set_option linter.unusedVariables false
set_option linter.unusedSimpArgs false
namespace Jvm.RoadKit
open Sem ClassFile Op Lib Jvm.Stand Jvm.Free Jvm.LawKit
section Own
variable {p : Program} {l : Launch} {e : Env} {R : Room} {s : State} {m : MethodId} {args : Array Value} {below : List Frame} {meth : Method} {c : Code} {T : State} {locs : List Loc} {cells slots : Nat}
/-- from U the run ends, and Q holds of what it returns -/
def Outs (p : Program) (e : Env) (below : List Frame) (s : State) (Q : Option Value → Heap → List Loc → Prop) (C S : Nat) (U : State) : Prop :=
  ∃ s₂ o, Steps p.tables e below U s₂ ∧ s₂.status = .running ∧ Ended s₂ below o ∧ ∃ v L, o = .returned v ∧ Q v s₂.heap L ∧ FrameEnd s o s₂ L C S
variable {Q : Option Value → Heap → List Loc → Prop} {C S : Nat}
theorem Outs.of {U U' : State} (h : ∀ t, Steps p.tables e below U' t → Steps p.tables e below U t) (k : Outs p e below s Q C S U') : Outs p e below s Q C S U := by
  obtain ⟨t, o, st, r⟩ := k
  exact ⟨t, o, h t st, r⟩
theorem Outs.to {U U' : State} (h : Steps p.tables e below U U') (k : Outs p e below s Q C S U') : Outs p e below s Q C S U := by
  obtain ⟨t, o, st, r⟩ := k
  exact ⟨t, o, h.trans st, r⟩
theorem Outs.mono {U : State} {Q' : Option Value → Heap → List Loc → Prop} (k : Outs p e below s Q C S U) (h : ∀ v h L, Q v h L → Q' v h L) : Outs p e below s Q' C S U := by
  obtain ⟨t, o, st, h1, h2, v, L, h3, h4, h5⟩ := k
  exact ⟨t, o, st, h1, h2, v, L, h3, h _ _ _ h4, h5⟩
theorem Outs.ret (X : Stand p l e R s m args below meth c T locs cells slots) {g : JFrame} {v : Option Value} (hv : meth.sig.returnType = none → v = none) (hlk : meth.locks = false) (hC : cells ≤ C) (hS : slots ≤ S)
    (st : ∀ fs, (∀ (f : JFrame) (acts : List Action), f.method = m → f.locked = none → f.entered = [] → (doReturn e (T.setTop f) acts v).1 = T.setFrames fs) → Steps p.tables e below (T.setTop g) (T.setFrames fs))
    {h : Heap} (eT : T.heap = h) (q : Q v h locs) : Outs p e below s Q C S (T.setTop g) := by
  subst eT
  obtain ⟨fs, hr, hrun, hended, hW, hsame⟩ := X.leave (v := v) hv hlk
  exact ⟨_, _, st fs hr, hrun, hended, v, locs, rfl, q, ⟨_, rfl⟩, hW, hsame.mono hC hS⟩
theorem Outs.retI (X : Stand p l e R s m args below meth c T locs cells slots) (hx : p.tables.exec = Jvm.exec) {pc : Nat} {Ls : Array Slot} {z : Int32} {rest : List Value} (hret : meth.sig.returnType = some .int) (hd : decode c.code pc = .ok (.ireturn, 1)) (hlk : meth.locks = false) (hC : cells ≤ C) (hS : slots ≤ S)
    {h : Heap} (eT : T.heap = h) (q : Q (some (.int z)) h locs) : Outs p e below s Q C S (T.setTop (mkF m pc Ls (.int z :: rest))) :=
  Outs.ret X (fun h => by rw [hret] at h; cases h) hlk hC hS (fun fs hl => retOut X hx hret rfl (Or.inl ⟨rfl, Or.inl rfl, z, rfl⟩) hd hl) eT q
theorem Outs.retL (X : Stand p l e R s m args below meth c T locs cells slots) (hx : p.tables.exec = Jvm.exec) {pc : Nat} {Ls : Array Slot} {z : Int64} {rest : List Value} (hret : meth.sig.returnType = some .long) (hd : decode c.code pc = .ok (.lreturn, 1)) (hlk : meth.locks = false) (hC : cells ≤ C) (hS : slots ≤ S)
    {h : Heap} (eT : T.heap = h) (q : Q (some (.long z)) h locs) : Outs p e below s Q C S (T.setTop (mkF m pc Ls (.long z :: rest))) :=
  Outs.ret X (fun h => by rw [hret] at h; cases h) hlk hC hS (fun fs hl => retOut X hx hret rfl (Or.inr (Or.inl ⟨rfl, rfl, z, rfl⟩)) hd hl) eT q
theorem Outs.retN (X : Stand p l e R s m args below meth c T locs cells slots) (hx : p.tables.exec = Jvm.exec) {pc : Nat} {Ls : Array Slot} {z : Int32} {t : FieldType} {rest : List Value} (hret : meth.sig.returnType = some t) (ht : t = .boolean ∨ t = .byte ∨ t = .char ∨ t = .short) (hd : decode c.code pc = .ok (.ireturn, 1)) (hlk : meth.locks = false) (hC : cells ≤ C) (hS : slots ≤ S)
    {h : Heap} (eT : T.heap = h) (q : Q (some (.int (nar t z))) h locs) : Outs p e below s Q C S (T.setTop (mkF m pc Ls (.int z :: rest))) :=
  Outs.ret X (fun h => by rw [hret] at h; cases h) hlk hC hS (fun fs hl => Jvm.RoadKit.retN X hx hret ht hd hl) eT q
theorem Outs.retV (X : Stand p l e R s m args below meth c T locs cells slots) (hx : p.tables.exec = Jvm.exec) {pc : Nat} {Ls : Array Slot} (hret : meth.sig.returnType = none) (hd : decode c.code pc = .ok (.return_, 1)) (hlk : meth.locks = false) (hC : cells ≤ C) (hS : slots ≤ S)
    {h : Heap} (eT : T.heap = h) (q : Q none h locs) : Outs p e below s Q C S (T.setTop (mkF m pc Ls [])) :=
  Outs.ret X (fun _ => rfl) hlk hC hS (fun fs hl => X.returnOut hx hret hd hl) eT q
theorem Outs.retA (X : Stand p l e R s m args below meth c T locs cells slots) (hx : p.tables.exec = Jvm.exec) {pc : Nat} {Ls : Array Slot} {w : Value} {t : FieldType} {rest : List Value} (hret : meth.sig.returnType = some t) (ht : t.isReference = true) (hw : w.isRef = true) (hn : narrow t w = w) (hd : decode c.code pc = .ok (.areturn, 1)) (hlk : meth.locks = false) (hC : cells ≤ C) (hS : slots ≤ S)
    {h : Heap} (eT : T.heap = h) (q : Q (some w) h locs) : Outs p e below s Q C S (T.setTop (mkF m pc Ls (w :: rest))) :=
  Outs.ret X (fun h => by rw [hret] at h; cases h) hlk hC hS (fun fs hl => retOut X hx hret hn (Or.inr (Or.inr (Or.inr (Or.inr ⟨rfl, ht, hw⟩)))) hd hl) eT q
theorem lremM {g : JFrame} {target : State} (X : Stand p l e R s m args below meth c T locs cells slots) (hx : p.tables.exec = Jvm.exec) (hg : g.method = m) {x y : Int64} {rest : List Value} (hd : decode c.code g.pc = .ok (.lrem, 1)) (hs : g.stack = .long y :: .long x :: rest) (hy : y ≠ 0)
    (hr : Steps p.tables e below (T.setTop { g with pc := g.pc + 1, stack := .long (x % y) :: rest }) target) : Steps p.tables e below (T.setTop g) target :=
  XS.lrem X.here hx hg hd hs hy (by rw [lrem_mod]; exact hr)
/-- a body that returns v and leaves the heap as it was -/
def QR (z : Option Value) (h0 : Heap) (n0 : Nat) (v : Option Value) (h : Heap) (L : List Loc) : Prop := v = z ∧ Fr n0 L ∧ h = h0
/-- the law's own -/
def QL (n0 : Nat) (v : Option Value) (h : Heap) (L : List Loc) : Prop := v = some (.int 1) ∧ Fr n0 L
end Own
end Jvm.RoadKit
namespace Jvm.RoadKit
open Sem ClassFile Op Lib Jvm.Stand Jvm.Free Jvm.LawKit
section OwnHeap
variable {p : Program} {l : Launch} {e : Env} {R : Room} {s : State} {m : MethodId} {args : Array Value} {below : List Frame} {meth : Method} {c : Code} {T : State} {locs : List Loc} {cells slots : Nat} {Z : State} {a0 : Array Value} {h h' : Heap} {a b : Addr} {ty : FieldType} {n : Nat}
def upd {α : Type} (g : Nat → α) (k : Nat) (v : α) : Nat → α := fun j => if j = k then v else g j
theorem upd_same {α : Type} (g : Nat → α) (k : Nat) (v : α) : upd g k v k = v := if_pos rfl
theorem upd_ne {α : Type} (g : Nat → α) {k j : Nat} (v : α) (q : j ≠ k) : upd g k v j = g j := if_neg q
/-- an array of n places; place j holds f j -/
def AF (Z : State) (h : Heap) (a : Addr) (ty : FieldType) (n : Nat) (f : Nat → Value) : Prop :=
  ∃ c : Cell, Arr Z h a c ty ∧ c.slots.size = n ∧ n < 2147483648 ∧ ∀ j, j < n → c.slots[j]? = some (f j)
def AI (Z : State) (h : Heap) (a : Addr) (ty : FieldType) (n : Nat) (g : Nat → Int32) : Prop := AF Z h a ty n (fun j => .int (g j))
def AJ (Z : State) (h : Heap) (a : Addr) (ty : FieldType) (n : Nat) (g : Nat → Int64) : Prop := AF Z h a ty n (fun j => .long (g j))
theorem AF.lt {f : Nat → Value} (F : AF Z h a ty n f) : a < h.size := by obtain ⟨c, A, -⟩ := F; exact A.lt
theorem AF.ext {f : Nat → Value} (F : AF Z h a ty n f) (E : Ext h h') : AF Z h' a ty n f := by obtain ⟨c, A, r⟩ := F; exact ⟨c, A.ext E, r⟩
theorem AF.other {f : Nat → Value} {sl : Nat} {v : Value} (F : AF Z h b ty n f) (W : Wr h h' a sl v) (q : b ≠ a) : AF Z h' b ty n f := by obtain ⟨c, A, r⟩ := F; exact ⟨c, A.other W q, r⟩
theorem AF.keep {f : Nat → Value} {ws : List Addr} (F : AF Z h a ty n f) (K : Keep h h' ws) (q : a ∉ ws) : AF Z h' a ty n f := by obtain ⟨c, A, r⟩ := F; exact ⟨c, ⟨K.2.1 a c A.1 q, A.2⟩, r⟩
theorem AF.len {f : Nat → Value} (F : AF Z h a ty n f) : n < 2147483648 := by obtain ⟨c, A, -, M, -⟩ := F; exact M
theorem AF.cong {f f' : Nat → Value} (F : AF Z h a ty n f) (q : ∀ j, j < n → f j = f' j) : AF Z h a ty n f' := by
  obtain ⟨c, A, S, M, G⟩ := F
  exact ⟨c, A, S, M, fun j hj => by rw [← q j hj]; exact G j hj⟩
theorem AI.cong {g g' : Nat → Int32} (F : AI Z h a ty n g) (q : ∀ j, j < n → g j = g' j) : AI Z h a ty n g' := AF.cong F fun j hj => by rw [q j hj]
theorem AJ.cong {g g' : Nat → Int64} (F : AJ Z h a ty n g) (q : ∀ j, j < n → g j = g' j) : AJ Z h a ty n g' := AF.cong F fun j hj => by rw [q j hj]
theorem own_nat {j : Int32} {k : Nat} (hk : j.toInt = k) : j.toNatClampNeg = k := by
  show j.toInt.toNat = k
  rw [hk]; rfl
theorem own_in {cl : Cell} {j : Int32} {k : Nat} (S : cl.slots.size = n) (hk : j.toInt = k) (hn : k < n) : ¬ (j < 0 ∨ cl.slots.size ≤ j.toNatClampNeg) := by
  rw [own_nat hk, S, Int32.lt_iff_toInt_lt, hk]
  have : (0 : Int32).toInt = 0 := rfl
  omega
theorem AF.set {f : Nat → Value} {k : Nat} {v : Value} (F : AF Z h a ty n f) (W : Wr h h' a k v) : AF Z h' a ty n (upd f k v) := by
  obtain ⟨c, A, S, M, G⟩ := F
  refine ⟨c.setSlot k v, A.same W, by rw [sz_set]; exact S, M, fun j hj => ?_⟩
  have hz : j < c.slots.size := by omega
  simp only [Cell.setSlot, upd, Array.getElem?_setIfInBounds]
  by_cases q : j = k
  · subst q; simp [hz]
  · rw [if_neg (Ne.symm q), if_neg q]; exact G j hj
theorem AI.set {g : Nat → Int32} {k : Nat} {x : Int32} (F : AI Z h a ty n g) (W : Wr h h' a k (.int x)) : AI Z h' a ty n (upd g k x) :=
  AF.cong (AF.set F W) fun j _ => by simp only [upd]; split <;> rfl
theorem AJ.set {g : Nat → Int64} {k : Nat} {x : Int64} (F : AJ Z h a ty n g) (W : Wr h h' a k (.long x)) : AJ Z h' a ty n (upd g k x) :=
  AF.cong (AF.set F W) fun j _ => by simp only [upd]; split <;> rfl
theorem AF.fresh {k : ClassId} {z : Int32} {i : Nat} (A : Arr Z h a (newA k ty z) ty) (q : z.toInt = i) : AF Z h a ty i (fun _ => defaultValue ty) := by
  have S : (newA k ty z).slots.size = i := by rw [sz_new, own_nat q]
  refine ⟨_, A, S, ?_, fun j hj => ?_⟩
  · have := z.toInt_lt; omega
  · have hz : j < (newA k ty z).slots.size := by omega
    simp only [newA] at hz ⊢
    rw [Array.getElem?_eq_getElem hz]; simp
section Loads
theorem ldI (X : Stand p l e R s m args below meth c T locs cells slots) (hx : p.tables.exec = Jvm.exec) (hZ : Z.Warmed39 s.vm) (eT : T.heap = h) {g : Nat → Int32} (F : AI Z h a .int n g) {j : Int32} {k : Nat} (hk : j.toInt = k) (hn : k < n) {f : JFrame} (hg : f.method = m) {rest : List Value} (hs : f.stack = .int j :: .ref a :: rest) (hd : decode c.code f.pc = .ok (.iaload, 1)) :
    ∀ target, Steps p.tables e below (T.setTop { f with pc := f.pc + 1, stack := .int (g k) :: rest }) target → Steps p.tables e below (T.setTop f) target := by
  obtain ⟨cl, A, S, M, G⟩ := F
  intro target kt
  exact X.iaload hx (by rw [eT]; exact A.1) (State.isArrayOf_alike hZ.alike A.2.1) A.2.2 (own_in S hk hn) (by rw [own_nat hk]; exact G k hn) hg hs hd target kt
theorem ldB (X : Stand p l e R s m args below meth c T locs cells slots) (hx : p.tables.exec = Jvm.exec) (hZ : Z.Warmed39 s.vm) (eT : T.heap = h) {g : Nat → Int32} (F : AI Z h a .byte n g) {j : Int32} {k : Nat} (hk : j.toInt = k) (hn : k < n) {f : JFrame} (hg : f.method = m) {rest : List Value} (hs : f.stack = .int j :: .ref a :: rest) (hd : decode c.code f.pc = .ok (.baload, 1)) :
    ∀ target, Steps p.tables e below (T.setTop { f with pc := f.pc + 1, stack := .int (g k) :: rest }) target → Steps p.tables e below (T.setTop f) target := by
  obtain ⟨cl, A, S, M, G⟩ := F
  intro target kt
  exact X.baloadBytes hx (by rw [eT]; exact A.1) (State.isArrayOf_alike hZ.alike A.2.1) A.2.2 (own_in S hk hn) (by rw [own_nat hk]; exact G k hn) hg hs hd target kt
theorem ldJ (X : Stand p l e R s m args below meth c T locs cells slots) (hx : p.tables.exec = Jvm.exec) (hZ : Z.Warmed39 s.vm) (eT : T.heap = h) {g : Nat → Int64} (F : AJ Z h a .long n g) {j : Int32} {k : Nat} (hk : j.toInt = k) (hn : k < n) {f : JFrame} (hg : f.method = m) {rest : List Value} (hs : f.stack = .int j :: .ref a :: rest) (hd : decode c.code f.pc = .ok (.laload, 1)) :
    ∀ target, Steps p.tables e below (T.setTop { f with pc := f.pc + 1, stack := .long (g k) :: rest }) target → Steps p.tables e below (T.setTop f) target := by
  obtain ⟨cl, A, S, M, G⟩ := F
  intro target kt
  exact X.laload hx (by rw [eT]; exact A.1) (State.isArrayOf_alike hZ.alike A.2.1) A.2.2 (own_in S hk hn) (by rw [own_nat hk]; exact G k hn) hg hs hd target kt
theorem ldR (X : Stand p l e R s m args below meth c T locs cells slots) (hx : p.tables.exec = Jvm.exec) (hZ : Z.Warmed39 s.vm) (eT : T.heap = h) {g : Nat → Value} (F : AF Z h a ty n g) (hty : ty.isReference = true) {j : Int32} {k : Nat} (hk : j.toInt = k) (hn : k < n) {f : JFrame} (hg : f.method = m) {rest : List Value} (hs : f.stack = .int j :: .ref a :: rest) (hd : decode c.code f.pc = .ok (.aaload, 1)) :
    ∀ target, Steps p.tables e below (T.setTop { f with pc := f.pc + 1, stack := g k :: rest }) target → Steps p.tables e below (T.setTop f) target := by
  obtain ⟨cl, A, S, M, G⟩ := F
  intro target kt
  exact X.aaload hx (by rw [eT]; exact A.1) (State.isArrayOf_alike hZ.alike A.2.1) hty A.2.2 (own_in S hk hn) (by rw [own_nat hk]; exact G k hn) hg hs hd target kt
theorem alen (X : Stand p l e R s m args below meth c T locs cells slots) (hx : p.tables.exec = Jvm.exec) (hZ : Z.Warmed39 s.vm) (eT : T.heap = h) {g : Nat → Value} (F : AF Z h a ty n g) {z : Int32} (hz : z.toInt = n) {f : JFrame} (hg : f.method = m) {rest : List Value} (hs : f.stack = .ref a :: rest) (hd : decode c.code f.pc = .ok (.arraylength, 1)) :
    ∀ target, Steps p.tables e below (T.setTop { f with pc := f.pc + 1, stack := .int z :: rest }) target → Steps p.tables e below (T.setTop f) target := by
  obtain ⟨cl, A, S, M, G⟩ := F
  intro target kt
  have h0 : ¬ z < 0 := by
    rw [Int32.lt_iff_toInt_lt, hz]
    have : (0 : Int32).toInt = 0 := rfl
    omega
  have q : cl.slots.size.toInt32 = z := by rw [S, ← own_nat hz]; exact (back32 h0).1
  refine X.arraylength hx (by rw [eT]; exact A.1) (State.isArrayOf_alike hZ.alike A.2.1) hg hs hd target ?_
  rw [q]; exact kt
end Loads
section Stores
theorem puI (X : Stand p l e R s m args below meth c T locs cells slots) (hx : p.tables.exec = Jvm.exec) (hZ : Z.Warmed39 s.vm) (eT : T.heap = h) {g : Nat → Int32} (F : AI Z h a .int n g) {j x : Int32} {k : Nat} (hk : j.toInt = k) (hn : k < n) {f : JFrame} (hg : f.method = m) {rest : List Value} (hs : f.stack = .int x :: .int j :: .ref a :: rest) (hd : decode c.code f.pc = .ok (.iastore, 1)) :
    ∃ T' h', Stand p l e R s m args below meth c T' (locs ++ [⟨a, k⟩]) cells slots ∧ T'.heap = h' ∧ Wr h h' a k (.int x) ∧ AI Z h' a .int n (upd g k x) ∧ ∀ target, Steps p.tables e below (T'.setTop { f with pc := f.pc + 1, stack := rest }) target → Steps p.tables e below (T.setTop f) target := by
  obtain ⟨cl, A, S, M, G⟩ := id F
  obtain ⟨T', h', X', e', W, st⟩ := stI X hx hZ eT A (j := j) (own_in S hk hn) hg hs hd
  rw [own_nat hk] at X' W
  exact ⟨T', h', X', e', W, AI.set F W, st⟩
theorem puB (X : Stand p l e R s m args below meth c T locs cells slots) (hx : p.tables.exec = Jvm.exec) (hZ : Z.Warmed39 s.vm) (eT : T.heap = h) {g : Nat → Int32} (F : AI Z h a .byte n g) {j x : Int32} {k : Nat} (hk : j.toInt = k) (hn : k < n) {f : JFrame} (hg : f.method = m) {rest : List Value} (hs : f.stack = .int x :: .int j :: .ref a :: rest) (hd : decode c.code f.pc = .ok (.bastore, 1)) :
    ∃ T' h', Stand p l e R s m args below meth c T' (locs ++ [⟨a, k⟩]) cells slots ∧ T'.heap = h' ∧ Wr h h' a k (.int x.toInt8.toInt32) ∧ AI Z h' a .byte n (upd g k x.toInt8.toInt32) ∧ ∀ target, Steps p.tables e below (T'.setTop { f with pc := f.pc + 1, stack := rest }) target → Steps p.tables e below (T.setTop f) target := by
  obtain ⟨cl, A, S, M, G⟩ := id F
  obtain ⟨T', h', X', e', W, st⟩ := stB X hx hZ eT A (j := j) (own_in S hk hn) hg hs hd
  rw [own_nat hk] at X' W
  exact ⟨T', h', X', e', W, AI.set F W, st⟩
theorem puJ (X : Stand p l e R s m args below meth c T locs cells slots) (hx : p.tables.exec = Jvm.exec) (hZ : Z.Warmed39 s.vm) (eT : T.heap = h) {g : Nat → Int64} (F : AJ Z h a .long n g) {j : Int32} {x : Int64} {k : Nat} (hk : j.toInt = k) (hn : k < n) {f : JFrame} (hg : f.method = m) {rest : List Value} (hs : f.stack = .long x :: .int j :: .ref a :: rest) (hd : decode c.code f.pc = .ok (.lastore, 1)) :
    ∃ T' h', Stand p l e R s m args below meth c T' (locs ++ [⟨a, k⟩]) cells slots ∧ T'.heap = h' ∧ Wr h h' a k (.long x) ∧ AJ Z h' a .long n (upd g k x) ∧ ∀ target, Steps p.tables e below (T'.setTop { f with pc := f.pc + 1, stack := rest }) target → Steps p.tables e below (T.setTop f) target := by
  obtain ⟨cl, A, S, M, G⟩ := id F
  obtain ⟨T', h', X', e', W, st⟩ := stJ X hx hZ eT A (j := j) (own_in S hk hn) hg hs hd
  rw [own_nat hk] at X' W
  exact ⟨T', h', X', e', W, AJ.set F W, st⟩
theorem puR (X : Stand p l e R s m args below meth c T locs cells slots) (hx : p.tables.exec = Jvm.exec) (hZ : Z.Warmed39 s.vm) (eT : T.heap = h) {g : Nat → Value} (F : AF Z h a ty n g) (hty : ty.isReference = true) {j : Int32} {x : Value} (O : Sto Z h a x) {k : Nat} (hk : j.toInt = k) (hn : k < n) {f : JFrame} (hg : f.method = m) {rest : List Value} (hs : f.stack = x :: .int j :: .ref a :: rest) (hd : decode c.code f.pc = .ok (.aastore, 1)) :
    ∃ T' h', Stand p l e R s m args below meth c T' (locs ++ [⟨a, k⟩]) cells slots ∧ T'.heap = h' ∧ Wr h h' a k x ∧ AF Z h' a ty n (upd g k x) ∧ ∀ target, Steps p.tables e below (T'.setTop { f with pc := f.pc + 1, stack := rest }) target → Steps p.tables e below (T.setTop f) target := by
  obtain ⟨cl, A, S, M, G⟩ := id F
  obtain ⟨T', h', X', e', W, st⟩ := stR X hx hZ eT A (j := j) (own_in S hk hn) hty O hg hs hd
  rw [own_nat hk] at X' W
  exact ⟨T', h', X', e', W, AF.set F W, st⟩
theorem newAF (X : Stand p l e R s m args below meth c T locs cells slots) (hx : p.tables.exec = Jvm.exec) (hZ : Z.Warmed39 s.vm) {aty : ArrayType} (w : (Cond.arrayClass (newarray.typeOf aty)).before a0 Z = true) (eT : T.heap = h) {f : JFrame} (hg : f.method = m) (hd : decode c.code f.pc = .ok (.newarray aty, 2)) {z : Int32} {rest : List Value} (hs : f.stack = .int z :: rest)
    {k : Nat} (hk : z.toInt = k) {cap : Nat} (hcap : k ≤ cap) (hb : cap * 8 ≤ 536870912) (hc : cells + 1 ≤ R.cells) (hl : slots + cap ≤ R.slots) :
    ∃ T' h', Stand p l e R s m args below meth c T' locs (cells + 1) (slots + cap) ∧ T'.heap = h' ∧ Ext h h' ∧ AF Z h' h.size (newarray.typeOf aty) k (fun _ => defaultValue (newarray.typeOf aty)) ∧
      ∀ target, Steps p.tables e below (T'.setTop { f with pc := f.pc + 2, stack := .ref h.size :: rest }) target → Steps p.tables e below (T.setTop f) target := by
  have h0 : ¬ z < 0 := by
    rw [Int32.lt_iff_toInt_lt, hk]
    have : (0 : Int32).toInt = 0 := rfl
    omega
  obtain ⟨T', h', cA, X', e', E, A, st⟩ := newP X hx hZ w eT hg hd hs h0 (cap := cap) (by rw [own_nat hk]; exact hcap) hb hc hl
  exact ⟨T', h', X', e', E, AF.fresh A hk, st⟩
end Stores
theorem own_selects {args' : Array Value} {U : State} {y : MethodName} {k : Nat} (wi : (Cond.instantiable y.cls k).before args' U = true) (hpriv : U.PrivateAt y) (hinst : (Cond.instanceMethod y).before args' U = true) (hy : y.cls ≠ "java/lang/invoke/MethodHandle" ∧ y.cls ≠ "java/lang/invoke/VarHandle") : (Cond.selects y.cls y y).before args' U = true := by
  obtain ⟨c1, k1, i1, i2, -, i3, -⟩ := Cond.instantiable_spec wi
  have hni : k1.isInterface = false := by cases q : k1.isInterface <;> simp [q] at i3 ⊢
  exact Jvm.Stand.selects_self_of_private i1 i2 hni hpriv hinst hy
theorem isRef_cat {w : Value} (q : w.isRef = true) : w.category = 1 := by
  rcases ref_cases q with rfl | ⟨x, rfl⟩ <;> rfl
theorem mem1 {α : Type} (x : α) (L : List α) : x ∈ x :: L := List.mem_cons_self
theorem mem2 {α : Type} (x y : α) (L : List α) : x ∈ y :: x :: L := List.mem_cons_of_mem _ List.mem_cons_self
end OwnHeap
end Jvm.RoadKit
namespace Jvm.Pilot.@@N@@
open Jvm Jvm.ClassFile Sem Op Lib Jvm.Free Jvm.Stand Jvm.LawKit Jvm.RoadKit Bundle Jvm.Pilot.@@N@@.Jvm.D
theorem ef_1 (m : MethodId) (x0 : Int64) (x1 : Int64) : entryFrame m #[(.long x0), (.long x1)] 4 = mkF m 0 #[.val (.long x0), .second, .val (.long x1), .second] [] := by first | (simp [entryFrame, mkF, argsToLocals, Value.category]; done) | rfl
theorem d1_0 : decode jdk_29_method_70_code 0 = .ok (.lload_n 0, 1) := by decide +kernel
theorem d1_1 : decode jdk_29_method_70_code 1 = .ok (.lload_n 2, 1) := by decide +kernel
theorem d1_2 : decode jdk_29_method_70_code 2 = .ok (.lcmp, 1) := by decide +kernel
theorem d1_3 : decode jdk_29_method_70_code 3 = .ok (.ifCond .gt 7, 3) := by decide +kernel
theorem d1_10 : decode jdk_29_method_70_code 10 = .ok (.lload_n 2, 1) := by decide +kernel
theorem d1_6 : decode jdk_29_method_70_code 6 = .ok (.lload_n 0, 1) := by decide +kernel
theorem d1_7 : decode jdk_29_method_70_code 7 = .ok (.goto 4, 3) := by decide +kernel
theorem d1_11 : decode jdk_29_method_70_code 11 = .ok (.lreturn, 1) := by decide +kernel
def f1_3_s0 (j0 : Int64) (j1 : Int64) : Int64 := (if j1 < j0 then j1 else j0)
def F_f1 (j0 : Int64) (j1 : Int64) : Int64 := (f1_3_s0 j0 j1)
set_option maxRecDepth 65536 in
set_option maxHeartbeats 40000000 in
theorem rm1 (l : Launch) (Z : State) (a0 : Array Value) (hw : ∀ d ∈ tables_1, d.before a0 Z = true) (ws : List Jvm.Cond) (j0 : Int64) (j1 : Int64)  (h0 : Heap) (n0 : Nat)  :
    MetFree l (⟨"java/lang/Math", "min", "(JJ)J"⟩ : MethodName) (head1 (Jvm.Cond.code (⟨"java/lang/Math", "min", "(JJ)J"⟩ : MethodName) jdk_29_method_70_code 4 (some .long) :: ws) ({ frames := 0, cells := 0, slots := 0, locals := 0 } : Room)) (fun a U => a = #[(.long j0), (.long j1)] ∧ Z.Warmed39 U.vm ∧ U.heap = h0) (fun _ _ _ _ _ => True) (fun _ U o U' => ∃ v L, o = .returned v ∧ QR (some (.long (F_f1 j0 j1))) h0 n0 v U'.heap L ∧ FrameEnd U o U' L ({ frames := 0, cells := 0, slots := 0, locals := 0 } : Room).cells ({ frames := 0, cells := 0, slots := 0, locals := 0 } : Room).slots) := by
  refine MetFree.of_bodySF (Jvm.Free.JP.mathPlain rfl (by decide +kernel)) hisR ?_
  intro p e s m args below meth c s₁ Bd hml0 hP hK
  obtain ⟨rfl, hZ, hh⟩ := hP
  have hx := Bd.exec
  have hby := Bd.bytes
  have hml : c.maxLocals = 4 := hml0
  have hown : s.vm.findClass "java/lang/Math" = some m.cls := findClass_of_methodNamed Bd.named
  have hnm := (name_of_methodNamed Bd.named Bd.method).1
  have hret := Bd.returns
  have hlk : meth.locks = false := BodyLoose.notSynchronized Bd
  have X0 : Stand p l e ({ frames := 0, cells := 0, slots := 0, locals := 0 } : Room) s m #[(.long j0), (.long j1)] below meth c s₁ [] 0 0 := Stand.of_body Bd
  have e0 : s₁.heap = h0 := by rw [← hh, Bd.state]; rfl
  have N0 := Fr.nil n0
  show Outs p e below s (QR (some (.long (F_f1 j0 j1))) h0 n0) _ _ _
  refine Outs.of (U' := s₁.setTop (mkF m 0 #[.val (.long j0), .second, .val (.long j1), .second] [])) (fun t k => castTop (ef_1 m j0 j1) k) ?_
  refine Outs.of (U' := s₁.setTop (mkF m 11 #[.val (.long j0), .second, .val (.long j1), .second] [(.long (f1_3_s0 j0 j1))])) (fun t k => ?_) ?_
  · refine XS.lloadN X0.here hx rfl (hb hby d1_0) rfl ?_
    show Steps p.tables e below (s₁.setTop (mkF m 1 #[.val (.long j0), .second, .val (.long j1), .second] [(.long j0)])) _
    refine XS.lloadN X0.here hx rfl (hb hby d1_1) rfl ?_
    show Steps p.tables e below (s₁.setTop (mkF m 2 #[.val (.long j0), .second, .val (.long j1), .second] [(.long j1), (.long j0)])) _
    refine XS.lcmp X0.here hx rfl (hb hby d1_2) rfl ?_
    show Steps p.tables e below (s₁.setTop (mkF m 3 #[.val (.long j0), .second, .val (.long j1), .second] [(.int (lcmpW j0 j1))])) _
    by_cases hc3 : j1 < j0
    · refine XS.ifYes X0.here hx rfl (pc0 := 3) (pc' := 10) rfl (hb hby d1_3) rfl ((if0 _ _).trans (tlt ((lw_gt _ _).mpr hc3)).2.2.1) (by decide) (by decide) ?_
      show Steps p.tables e below (s₁.setTop (mkF m 10 #[.val (.long j0), .second, .val (.long j1), .second] [])) _
      refine XS.lloadN X0.here hx rfl (hb hby d1_10) rfl ?_
      show Steps p.tables e below (s₁.setTop (mkF m 11 #[.val (.long j0), .second, .val (.long j1), .second] [(.long j1)])) _
      rw [show (f1_3_s0 j0 j1) = j1 from (if_pos hc3)] at k
      exact k
    · refine XS.ifNo X0.here hx rfl (hb hby d1_3) rfl ((if0 _ _).trans (flt (fun q_ => hc3 ((lw_gt _ _).mp q_))).2.2.1) ?_
      show Steps p.tables e below (s₁.setTop (mkF m 6 #[.val (.long j0), .second, .val (.long j1), .second] [])) _
      refine XS.lloadN X0.here hx rfl (hb hby d1_6) rfl ?_
      show Steps p.tables e below (s₁.setTop (mkF m 7 #[.val (.long j0), .second, .val (.long j1), .second] [(.long j0)])) _
      refine XS.goto X0.here hx rfl (pc0 := 7) (pc' := 11) rfl (hb hby d1_7) (by decide) (by decide) ?_
      show Steps p.tables e below (s₁.setTop (mkF m 11 #[.val (.long j0), .second, .val (.long j1), .second] [(.long j0)])) _
      rw [show (f1_3_s0 j0 j1) = j0 from (if_neg hc3)] at k
      exact k
  exact Outs.retL X0 hx hret (hb hby d1_11) hlk (by decide) (by decide) e0 ⟨congrArg (fun z_ => some (Value.long z_)) (show (F_f1 j0 j1) = (f1_3_s0 j0 j1) from rfl).symm, N0, rfl⟩
theorem ef_2 (m : MethodId) (x0 : Int64) (x1 : Int64) : entryFrame m #[(.long x0), (.long x1)] 4 = mkF m 0 #[.val (.long x0), .second, .val (.long x1), .second] [] := by first | (simp [entryFrame, mkF, argsToLocals, Value.category]; done) | rfl
theorem d2_0 : decode jdk_29_method_66_code 0 = .ok (.lload_n 0, 1) := by decide +kernel
theorem d2_1 : decode jdk_29_method_66_code 1 = .ok (.lload_n 2, 1) := by decide +kernel
theorem d2_2 : decode jdk_29_method_66_code 2 = .ok (.lcmp, 1) := by decide +kernel
theorem d2_3 : decode jdk_29_method_66_code 3 = .ok (.ifCond .lt 7, 3) := by decide +kernel
theorem d2_10 : decode jdk_29_method_66_code 10 = .ok (.lload_n 2, 1) := by decide +kernel
theorem d2_6 : decode jdk_29_method_66_code 6 = .ok (.lload_n 0, 1) := by decide +kernel
theorem d2_7 : decode jdk_29_method_66_code 7 = .ok (.goto 4, 3) := by decide +kernel
theorem d2_11 : decode jdk_29_method_66_code 11 = .ok (.lreturn, 1) := by decide +kernel
def f2_3_s0 (j0 : Int64) (j1 : Int64) : Int64 := (if j0 < j1 then j1 else j0)
def F_f2 (j0 : Int64) (j1 : Int64) : Int64 := (f2_3_s0 j0 j1)
set_option maxRecDepth 65536 in
set_option maxHeartbeats 40000000 in
theorem rm2 (l : Launch) (Z : State) (a0 : Array Value) (hw : ∀ d ∈ tables_1, d.before a0 Z = true) (ws : List Jvm.Cond) (j0 : Int64) (j1 : Int64)  (h0 : Heap) (n0 : Nat)  :
    MetFree l (⟨"java/lang/Math", "max", "(JJ)J"⟩ : MethodName) (head1 (Jvm.Cond.code (⟨"java/lang/Math", "max", "(JJ)J"⟩ : MethodName) jdk_29_method_66_code 4 (some .long) :: ws) ({ frames := 0, cells := 0, slots := 0, locals := 0 } : Room)) (fun a U => a = #[(.long j0), (.long j1)] ∧ Z.Warmed39 U.vm ∧ U.heap = h0) (fun _ _ _ _ _ => True) (fun _ U o U' => ∃ v L, o = .returned v ∧ QR (some (.long (F_f2 j0 j1))) h0 n0 v U'.heap L ∧ FrameEnd U o U' L ({ frames := 0, cells := 0, slots := 0, locals := 0 } : Room).cells ({ frames := 0, cells := 0, slots := 0, locals := 0 } : Room).slots) := by
  refine MetFree.of_bodySF (Jvm.Free.JP.mathPlain rfl (by decide +kernel)) hisR ?_
  intro p e s m args below meth c s₁ Bd hml0 hP hK
  obtain ⟨rfl, hZ, hh⟩ := hP
  have hx := Bd.exec
  have hby := Bd.bytes
  have hml : c.maxLocals = 4 := hml0
  have hown : s.vm.findClass "java/lang/Math" = some m.cls := findClass_of_methodNamed Bd.named
  have hnm := (name_of_methodNamed Bd.named Bd.method).1
  have hret := Bd.returns
  have hlk : meth.locks = false := BodyLoose.notSynchronized Bd
  have X0 : Stand p l e ({ frames := 0, cells := 0, slots := 0, locals := 0 } : Room) s m #[(.long j0), (.long j1)] below meth c s₁ [] 0 0 := Stand.of_body Bd
  have e0 : s₁.heap = h0 := by rw [← hh, Bd.state]; rfl
  have N0 := Fr.nil n0
  show Outs p e below s (QR (some (.long (F_f2 j0 j1))) h0 n0) _ _ _
  refine Outs.of (U' := s₁.setTop (mkF m 0 #[.val (.long j0), .second, .val (.long j1), .second] [])) (fun t k => castTop (ef_2 m j0 j1) k) ?_
  refine Outs.of (U' := s₁.setTop (mkF m 11 #[.val (.long j0), .second, .val (.long j1), .second] [(.long (f2_3_s0 j0 j1))])) (fun t k => ?_) ?_
  · refine XS.lloadN X0.here hx rfl (hb hby d2_0) rfl ?_
    show Steps p.tables e below (s₁.setTop (mkF m 1 #[.val (.long j0), .second, .val (.long j1), .second] [(.long j0)])) _
    refine XS.lloadN X0.here hx rfl (hb hby d2_1) rfl ?_
    show Steps p.tables e below (s₁.setTop (mkF m 2 #[.val (.long j0), .second, .val (.long j1), .second] [(.long j1), (.long j0)])) _
    refine XS.lcmp X0.here hx rfl (hb hby d2_2) rfl ?_
    show Steps p.tables e below (s₁.setTop (mkF m 3 #[.val (.long j0), .second, .val (.long j1), .second] [(.int (lcmpW j0 j1))])) _
    by_cases hc3 : j0 < j1
    · refine XS.ifYes X0.here hx rfl (pc0 := 3) (pc' := 10) rfl (hb hby d2_3) rfl ((if0 _ _).trans (tlt ((lw_lt _ _).mpr hc3)).1) (by decide) (by decide) ?_
      show Steps p.tables e below (s₁.setTop (mkF m 10 #[.val (.long j0), .second, .val (.long j1), .second] [])) _
      refine XS.lloadN X0.here hx rfl (hb hby d2_10) rfl ?_
      show Steps p.tables e below (s₁.setTop (mkF m 11 #[.val (.long j0), .second, .val (.long j1), .second] [(.long j1)])) _
      rw [show (f2_3_s0 j0 j1) = j1 from (if_pos hc3)] at k
      exact k
    · refine XS.ifNo X0.here hx rfl (hb hby d2_3) rfl ((if0 _ _).trans (flt (fun q_ => hc3 ((lw_lt _ _).mp q_))).1) ?_
      show Steps p.tables e below (s₁.setTop (mkF m 6 #[.val (.long j0), .second, .val (.long j1), .second] [])) _
      refine XS.lloadN X0.here hx rfl (hb hby d2_6) rfl ?_
      show Steps p.tables e below (s₁.setTop (mkF m 7 #[.val (.long j0), .second, .val (.long j1), .second] [(.long j0)])) _
      refine XS.goto X0.here hx rfl (pc0 := 7) (pc' := 11) rfl (hb hby d2_7) (by decide) (by decide) ?_
      show Steps p.tables e below (s₁.setTop (mkF m 11 #[.val (.long j0), .second, .val (.long j1), .second] [(.long j0)])) _
      rw [show (f2_3_s0 j0 j1) = j0 from (if_neg hc3)] at k
      exact k
  exact Outs.retL X0 hx hret (hb hby d2_11) hlk (by decide) (by decide) e0 ⟨congrArg (fun z_ => some (Value.long z_)) (show (F_f2 j0 j1) = (f2_3_s0 j0 j1) from rfl).symm, N0, rfl⟩
theorem ef_3 (m : MethodId) (x0 : Addr) (x1 : Int64) (x2 : Int32) (x3 : Int64) (x4 : Int32) : entryFrame m #[(.ref x0), (.long x1), (.int x2), (.long x3), (.int x4)] 7 = mkF m 0 #[.val (.ref x0), .val (.long x1), .second, .val (.int x2), .val (.long x3), .second, .val (.int x4)] [] := by first | (simp [entryFrame, mkF, argsToLocals, Value.category]; done) | rfl
theorem d3_0 : decode prog_74_method_1_code 0 = .ok (.aload_n 0, 1) := by decide +kernel
theorem d3_1 : decode prog_74_method_1_code 1 = .ok (.invokespecial 1, 3) := by decide +kernel
theorem d3_4 : decode prog_74_method_1_code 4 = .ok (.aload_n 0, 1) := by decide +kernel
theorem d3_5 : decode prog_74_method_1_code 5 = .ok (.lload_n 1, 1) := by decide +kernel
theorem d3_6 : decode prog_74_method_1_code 6 = .ok (.putfield 7, 3) := by decide +kernel
theorem d3_9 : decode prog_74_method_1_code 9 = .ok (.aload_n 0, 1) := by decide +kernel
theorem d3_10 : decode prog_74_method_1_code 10 = .ok (.iload_n 3, 1) := by decide +kernel
theorem d3_11 : decode prog_74_method_1_code 11 = .ok (.putfield 13, 3) := by decide +kernel
theorem d3_14 : decode prog_74_method_1_code 14 = .ok (.aload_n 0, 1) := by decide +kernel
theorem d3_15 : decode prog_74_method_1_code 15 = .ok (.lload 4, 2) := by decide +kernel
theorem d3_17 : decode prog_74_method_1_code 17 = .ok (.putfield 17, 3) := by decide +kernel
theorem d3_20 : decode prog_74_method_1_code 20 = .ok (.aload_n 0, 1) := by decide +kernel
theorem d3_21 : decode prog_74_method_1_code 21 = .ok (.iload 6, 2) := by decide +kernel
theorem d3_23 : decode prog_74_method_1_code 23 = .ok (.putfield 20, 3) := by decide +kernel
theorem d3_26 : decode prog_74_method_1_code 26 = .ok (.return_, 1) := by decide +kernel
theorem pn_3 : plainName "com/example/palimpsest/palimpsest/sql/KeyRange" = true := by first | (simp [plainName, overriddenIn]; done) | decide +kernel
def Q_f3 (Z : State) (o0 : Addr) (j1 : Int64) (i2 : Int32) (j3 : Int64) (i4 : Int32) (h0 : Heap) (n0 : Nat) (v : Option Value) (h : Heap) (L : List Loc) : Prop := v = none ∧ Fr n0 L ∧ Keep h0 h [o0] ∧ Exa Z h o0 "com/example/palimpsest/palimpsest/sql/KeyRange" ∧ Fld Z h o0 "com/example/palimpsest/palimpsest/sql/KeyRange" "low" "J" (.long j1) ∧ Fld Z h o0 "com/example/palimpsest/palimpsest/sql/KeyRange" "lowInclusive" "Z" (.int (nar .boolean i2)) ∧ Fld Z h o0 "com/example/palimpsest/palimpsest/sql/KeyRange" "high" "J" (.long j3) ∧ Fld Z h o0 "com/example/palimpsest/palimpsest/sql/KeyRange" "highInclusive" "Z" (.int (nar .boolean i4))
set_option maxRecDepth 65536 in
set_option maxHeartbeats 40000000 in
theorem rm3 (l : Launch) (Z : State) (a0 : Array Value) (hw : ∀ d ∈ tables_1, d.before a0 Z = true) (ws : List Jvm.Cond) (o0 : Addr) (j1 : Int64) (i2 : Int32) (j3 : Int64) (i4 : Int32)  (h0 : Heap) (n0 : Nat) (E_o0 : Exa Z h0 o0 "com/example/palimpsest/palimpsest/sql/KeyRange") (g_o0 : n0 ≤ o0) (F_o0_low : Fld Z h0 o0 "com/example/palimpsest/palimpsest/sql/KeyRange" "low" "J" (.long (0 : Int64))) (F_o0_lowInclusive : Fld Z h0 o0 "com/example/palimpsest/palimpsest/sql/KeyRange" "lowInclusive" "Z" (.int (0 : Int32))) (F_o0_high : Fld Z h0 o0 "com/example/palimpsest/palimpsest/sql/KeyRange" "high" "J" (.long (0 : Int64))) (F_o0_highInclusive : Fld Z h0 o0 "com/example/palimpsest/palimpsest/sql/KeyRange" "highInclusive" "Z" (.int (0 : Int32))) :
    MetFree l (⟨"com/example/palimpsest/palimpsest/sql/KeyRange", "<init>", "(JZJZ)V"⟩ : MethodName) (head1 (Jvm.Cond.code (⟨"com/example/palimpsest/palimpsest/sql/KeyRange", "<init>", "(JZJZ)V"⟩ : MethodName) prog_74_method_1_code 7 none :: ws) ({ frames := 1, cells := 0, slots := 0, locals := 12 } : Room)) (fun a U => a = #[(.ref o0), (.long j1), (.int i2), (.long j3), (.int i4)] ∧ Z.Warmed39 U.vm ∧ U.heap = h0) (fun _ _ _ _ _ => True) (fun _ U o U' => ∃ v L, o = .returned v ∧ Q_f3 Z o0 j1 i2 j3 i4 h0 n0 v U'.heap L ∧ FrameEnd U o U' L ({ frames := 1, cells := 0, slots := 0, locals := 12 } : Room).cells ({ frames := 1, cells := 0, slots := 0, locals := 12 } : Room).slots) := by
  refine MetFree.of_bodySF (plainFor_of_name pn_3) hisR ?_
  intro p e s m args below meth c s₁ Bd hml0 hP hK
  obtain ⟨rfl, hZ, hh⟩ := hP
  have hx := Bd.exec
  have hby := Bd.bytes
  have hml : c.maxLocals = 7 := hml0
  have hown : s.vm.findClass "com/example/palimpsest/palimpsest/sql/KeyRange" = some m.cls := findClass_of_methodNamed Bd.named
  have hnm := (name_of_methodNamed Bd.named Bd.method).1
  have hret := Bd.returns
  have hlk : meth.locks = false := BodyLoose.notSynchronized Bd
  have X0 : Stand p l e ({ frames := 1, cells := 0, slots := 0, locals := 12 } : Room) s m #[(.ref o0), (.long j1), (.int i2), (.long j3), (.int i4)] below meth c s₁ [] 0 0 := Stand.of_body Bd
  have e0 : s₁.heap = h0 := by rw [← hh, Bd.state]; rfl
  have N0 := Fr.nil n0
  show Outs p e below s (Q_f3 Z o0 j1 i2 j3 i4 h0 n0) _ _ _
  refine Outs.of (U' := s₁.setTop (mkF m 0 #[.val (.ref o0), .val (.long j1), .second, .val (.int i2), .val (.long j3), .second, .val (.int i4)] [])) (fun t k => castTop (ef_3 m o0 j1 i2 j3 i4) k) ?_
  refine Outs.of (U' := s₁.setTop (mkF m 1 #[.val (.ref o0), .val (.long j1), .second, .val (.int i2), .val (.long j3), .second, .val (.int i4)] [(.ref o0)])) (fun t k => ?_) ?_
  · refine XS.aloadN X0.here hx rfl (hb hby d3_0) rfl rfl ?_
    show Steps p.tables e below (s₁.setTop (mkF m 1 #[.val (.ref o0), .val (.long j1), .second, .val (.int i2), .val (.long j3), .second, .val (.int i4)] [(.ref o0)])) _
    exact k
  obtain ⟨T1, X1, e1, st1⟩ := initO X0 hx hZ hown (hw _ (List.mem_of_getElem? (i := 13) rfl)) (hw _ (List.mem_of_getElem? (i := 14) rfl)) (hw _ (List.mem_of_getElem? (i := 15) rfl)) e0 (g := (mkF m 1 #[.val (.ref o0), .val (.long j1), .second, .val (.int i2), .val (.long j3), .second, .val (.int i4)] [(.ref o0)])) rfl (by rw [hml]; rfl) rfl (hb hby d3_1) (by decide) (W := 0) (by show 2 * 0 + _ ≤ _; exact Nat.le_of_eq rfl) (by decide)
  refine Outs.of st1 ?_
  show Outs p e below s _ _ _ (T1.setTop (mkF m 4 #[.val (.ref o0), .val (.long j1), .second, .val (.int i2), .val (.long j3), .second, .val (.int i4)] []))
  refine Outs.of (U' := T1.setTop (mkF m 6 #[.val (.ref o0), .val (.long j1), .second, .val (.int i2), .val (.long j3), .second, .val (.int i4)] [(.long j1), (.ref o0)])) (fun t k => ?_) ?_
  · refine XS.aloadN X1.here hx rfl (hb hby d3_4) rfl rfl ?_
    show Steps p.tables e below (T1.setTop (mkF m 5 #[.val (.ref o0), .val (.long j1), .second, .val (.int i2), .val (.long j3), .second, .val (.int i4)] [(.ref o0)])) _
    refine XS.lloadN X1.here hx rfl (hb hby d3_5) rfl ?_
    show Steps p.tables e below (T1.setTop (mkF m 6 #[.val (.ref o0), .val (.long j1), .second, .val (.int i2), .val (.long j3), .second, .val (.int i4)] [(.long j1), (.ref o0)])) _
    exact k
  obtain ⟨T2, h2, X2, e2, W2, st2⟩ := putF X1 hx hZ hown (host := "") (Or.inl (hw _ (List.mem_of_getElem? (i := 16) rfl))) Via.refl e1 F_o0_low E_o0 (Or.inr ⟨(hw _ (List.mem_of_getElem? (i := 17) rfl)), rfl, hnm⟩) (hw _ (List.mem_of_getElem? (i := 8) rfl)) (ty := .long) (by decide) rfl rfl (g := (mkF m 6 #[.val (.ref o0), .val (.long j1), .second, .val (.int i2), .val (.long j3), .second, .val (.int i4)] [(.long j1), (.ref o0)])) rfl rfl (hb hby d3_6)
  have F2 : Fld Z h2 o0 "com/example/palimpsest/palimpsest/sql/KeyRange" "low" "J" (.long j1) := F_o0_low.same W2
  have N2 := Fr.snoc X2 N0 g_o0
  refine Outs.of st2 ?_
  show Outs p e below s _ _ _ (T2.setTop (mkF m 9 #[.val (.ref o0), .val (.long j1), .second, .val (.int i2), .val (.long j3), .second, .val (.int i4)] []))
  refine Outs.of (U' := T2.setTop (mkF m 11 #[.val (.ref o0), .val (.long j1), .second, .val (.int i2), .val (.long j3), .second, .val (.int i4)] [(.int i2), (.ref o0)])) (fun t k => ?_) ?_
  · refine XS.aloadN X2.here hx rfl (hb hby d3_9) rfl rfl ?_
    show Steps p.tables e below (T2.setTop (mkF m 10 #[.val (.ref o0), .val (.long j1), .second, .val (.int i2), .val (.long j3), .second, .val (.int i4)] [(.ref o0)])) _
    refine XS.iloadN X2.here hx rfl (hb hby d3_10) rfl ?_
    show Steps p.tables e below (T2.setTop (mkF m 11 #[.val (.ref o0), .val (.long j1), .second, .val (.int i2), .val (.long j3), .second, .val (.int i4)] [(.int i2), (.ref o0)])) _
    exact k
  have f4 : Exa Z h2 o0 "com/example/palimpsest/palimpsest/sql/KeyRange" := (E_o0.wr W2)
  have f5 : Fld Z h2 o0 "com/example/palimpsest/palimpsest/sql/KeyRange" "lowInclusive" "Z" (.int (0 : Int32)) := (F_o0_lowInclusive.other W2 (Or.inr (slot_ne (Or.inr (hw _ (List.mem_of_getElem? (i := 19) rfl))) (Or.inr (hw _ (List.mem_of_getElem? (i := 17) rfl))) (by decide) (t := .boolean) (t' := .long) (by decide) (by decide))))
  obtain ⟨T3, h3, X3, e3, W3, st3⟩ := putFN X2 hx hZ hown (hw _ (List.mem_of_getElem? (i := 18) rfl)) Via.refl e2 f5 f4 (Or.inr ⟨(hw _ (List.mem_of_getElem? (i := 19) rfl)), rfl, hnm⟩) (hw _ (List.mem_of_getElem? (i := 8) rfl)) (ty := .boolean) (v' := (.int (nar .boolean i2))) (by decide) rfl (fits_nar_bool _) (g := (mkF m 11 #[.val (.ref o0), .val (.long j1), .second, .val (.int i2), .val (.long j3), .second, .val (.int i4)] [(.int i2), (.ref o0)])) rfl rfl (hb hby d3_11)
  have F3 : Fld Z h3 o0 "com/example/palimpsest/palimpsest/sql/KeyRange" "lowInclusive" "Z" (.int (nar .boolean i2)) := f5.same W3
  have N3 := Fr.snoc X3 N2 g_o0
  refine Outs.of st3 ?_
  show Outs p e below s _ _ _ (T3.setTop (mkF m 14 #[.val (.ref o0), .val (.long j1), .second, .val (.int i2), .val (.long j3), .second, .val (.int i4)] []))
  refine Outs.of (U' := T3.setTop (mkF m 17 #[.val (.ref o0), .val (.long j1), .second, .val (.int i2), .val (.long j3), .second, .val (.int i4)] [(.long j3), (.ref o0)])) (fun t k => ?_) ?_
  · refine XS.aloadN X3.here hx rfl (hb hby d3_14) rfl rfl ?_
    show Steps p.tables e below (T3.setTop (mkF m 15 #[.val (.ref o0), .val (.long j1), .second, .val (.int i2), .val (.long j3), .second, .val (.int i4)] [(.ref o0)])) _
    refine XS.lload X3.here hx rfl (hb hby d3_15) rfl ?_
    show Steps p.tables e below (T3.setTop (mkF m 17 #[.val (.ref o0), .val (.long j1), .second, .val (.int i2), .val (.long j3), .second, .val (.int i4)] [(.long j3), (.ref o0)])) _
    exact k
  have f7 : Exa Z h3 o0 "com/example/palimpsest/palimpsest/sql/KeyRange" := (f4.wr W3)
  have f8 : Fld Z h3 o0 "com/example/palimpsest/palimpsest/sql/KeyRange" "high" "J" (.long (0 : Int64)) := ((F_o0_high.other W2 (Or.inr (slot_ne (Or.inr (hw _ (List.mem_of_getElem? (i := 21) rfl))) (Or.inr (hw _ (List.mem_of_getElem? (i := 17) rfl))) (by decide) (t := .long) (t' := .long) (by decide) (by decide)))).other W3 (Or.inr (slot_ne (Or.inr (hw _ (List.mem_of_getElem? (i := 21) rfl))) (Or.inr (hw _ (List.mem_of_getElem? (i := 19) rfl))) (by decide) (t := .long) (t' := .boolean) (by decide) (by decide))))
  obtain ⟨T6, h6, X6, e6, W6, st6⟩ := putF X3 hx hZ hown (host := "") (Or.inl (hw _ (List.mem_of_getElem? (i := 20) rfl))) Via.refl e3 f8 f7 (Or.inr ⟨(hw _ (List.mem_of_getElem? (i := 21) rfl)), rfl, hnm⟩) (hw _ (List.mem_of_getElem? (i := 8) rfl)) (ty := .long) (by decide) rfl rfl (g := (mkF m 17 #[.val (.ref o0), .val (.long j1), .second, .val (.int i2), .val (.long j3), .second, .val (.int i4)] [(.long j3), (.ref o0)])) rfl rfl (hb hby d3_17)
  have F6 : Fld Z h6 o0 "com/example/palimpsest/palimpsest/sql/KeyRange" "high" "J" (.long j3) := f8.same W6
  have N6 := Fr.snoc X6 N3 g_o0
  refine Outs.of st6 ?_
  show Outs p e below s _ _ _ (T6.setTop (mkF m 20 #[.val (.ref o0), .val (.long j1), .second, .val (.int i2), .val (.long j3), .second, .val (.int i4)] []))
  refine Outs.of (U' := T6.setTop (mkF m 23 #[.val (.ref o0), .val (.long j1), .second, .val (.int i2), .val (.long j3), .second, .val (.int i4)] [(.int i4), (.ref o0)])) (fun t k => ?_) ?_
  · refine XS.aloadN X6.here hx rfl (hb hby d3_20) rfl rfl ?_
    show Steps p.tables e below (T6.setTop (mkF m 21 #[.val (.ref o0), .val (.long j1), .second, .val (.int i2), .val (.long j3), .second, .val (.int i4)] [(.ref o0)])) _
    refine XS.iload X6.here hx rfl (hb hby d3_21) rfl ?_
    show Steps p.tables e below (T6.setTop (mkF m 23 #[.val (.ref o0), .val (.long j1), .second, .val (.int i2), .val (.long j3), .second, .val (.int i4)] [(.int i4), (.ref o0)])) _
    exact k
  have f10 : Exa Z h6 o0 "com/example/palimpsest/palimpsest/sql/KeyRange" := (f7.wr W6)
  have f11 : Fld Z h6 o0 "com/example/palimpsest/palimpsest/sql/KeyRange" "highInclusive" "Z" (.int (0 : Int32)) := (((F_o0_highInclusive.other W2 (Or.inr (slot_ne (Or.inr (hw _ (List.mem_of_getElem? (i := 23) rfl))) (Or.inr (hw _ (List.mem_of_getElem? (i := 17) rfl))) (by decide) (t := .boolean) (t' := .long) (by decide) (by decide)))).other W3 (Or.inr (slot_ne (Or.inr (hw _ (List.mem_of_getElem? (i := 23) rfl))) (Or.inr (hw _ (List.mem_of_getElem? (i := 19) rfl))) (by decide) (t := .boolean) (t' := .boolean) (by decide) (by decide)))).other W6 (Or.inr (slot_ne (Or.inr (hw _ (List.mem_of_getElem? (i := 23) rfl))) (Or.inr (hw _ (List.mem_of_getElem? (i := 21) rfl))) (by decide) (t := .boolean) (t' := .long) (by decide) (by decide))))
  obtain ⟨T9, h9, X9, e9, W9, st9⟩ := putFN X6 hx hZ hown (hw _ (List.mem_of_getElem? (i := 22) rfl)) Via.refl e6 f11 f10 (Or.inr ⟨(hw _ (List.mem_of_getElem? (i := 23) rfl)), rfl, hnm⟩) (hw _ (List.mem_of_getElem? (i := 8) rfl)) (ty := .boolean) (v' := (.int (nar .boolean i4))) (by decide) rfl (fits_nar_bool _) (g := (mkF m 23 #[.val (.ref o0), .val (.long j1), .second, .val (.int i2), .val (.long j3), .second, .val (.int i4)] [(.int i4), (.ref o0)])) rfl rfl (hb hby d3_23)
  have F9 : Fld Z h9 o0 "com/example/palimpsest/palimpsest/sql/KeyRange" "highInclusive" "Z" (.int (nar .boolean i4)) := f11.same W9
  have N9 := Fr.snoc X9 N6 g_o0
  refine Outs.of st9 ?_
  show Outs p e below s _ _ _ (T9.setTop (mkF m 26 #[.val (.ref o0), .val (.long j1), .second, .val (.int i2), .val (.long j3), .second, .val (.int i4)] []))
  have f12 : Exa Z h9 o0 "com/example/palimpsest/palimpsest/sql/KeyRange" := (f10.wr W9)
  have f13 : Fld Z h9 o0 "com/example/palimpsest/palimpsest/sql/KeyRange" "low" "J" (.long j1) := (((F2.other W3 (Or.inr (slot_ne (Or.inr (hw _ (List.mem_of_getElem? (i := 17) rfl))) (Or.inr (hw _ (List.mem_of_getElem? (i := 19) rfl))) (by decide) (t := .long) (t' := .boolean) (by decide) (by decide)))).other W6 (Or.inr (slot_ne (Or.inr (hw _ (List.mem_of_getElem? (i := 17) rfl))) (Or.inr (hw _ (List.mem_of_getElem? (i := 21) rfl))) (by decide) (t := .long) (t' := .long) (by decide) (by decide)))).other W9 (Or.inr (slot_ne (Or.inr (hw _ (List.mem_of_getElem? (i := 17) rfl))) (Or.inr (hw _ (List.mem_of_getElem? (i := 23) rfl))) (by decide) (t := .long) (t' := .boolean) (by decide) (by decide))))
  have f14 : Fld Z h9 o0 "com/example/palimpsest/palimpsest/sql/KeyRange" "lowInclusive" "Z" (.int (nar .boolean i2)) := ((F3.other W6 (Or.inr (slot_ne (Or.inr (hw _ (List.mem_of_getElem? (i := 19) rfl))) (Or.inr (hw _ (List.mem_of_getElem? (i := 21) rfl))) (by decide) (t := .boolean) (t' := .long) (by decide) (by decide)))).other W9 (Or.inr (slot_ne (Or.inr (hw _ (List.mem_of_getElem? (i := 19) rfl))) (Or.inr (hw _ (List.mem_of_getElem? (i := 23) rfl))) (by decide) (t := .boolean) (t' := .boolean) (by decide) (by decide))))
  have f15 : Fld Z h9 o0 "com/example/palimpsest/palimpsest/sql/KeyRange" "high" "J" (.long j3) := (F6.other W9 (Or.inr (slot_ne (Or.inr (hw _ (List.mem_of_getElem? (i := 21) rfl))) (Or.inr (hw _ (List.mem_of_getElem? (i := 23) rfl))) (by decide) (t := .long) (t' := .boolean) (by decide) (by decide))))
  exact Outs.retV X9 hx hret (hb hby d3_26) hlk (by decide) (by decide) e9 ⟨rfl, N9, (((((Keep.refl h0 [o0]).wr W2 (Or.inl (List.mem_of_getElem? (i := 0) rfl))).wr W3 (Or.inl (List.mem_of_getElem? (i := 0) rfl))).wr W6 (Or.inl (List.mem_of_getElem? (i := 0) rfl))).wr W9 (Or.inl (List.mem_of_getElem? (i := 0) rfl))), f12, f13, f14, f15, F9⟩
theorem ef_5 (m : MethodId) (x0 : Addr) : entryFrame m #[(.ref x0)] 1 = mkF m 0 #[.val (.ref x0)] [] := by first | (simp [entryFrame, mkF, argsToLocals, Value.category]; done) | rfl
theorem d5_0 : decode prog_74_method_7_code 0 = .ok (.aload_n 0, 1) := by decide +kernel
theorem d5_1 : decode prog_74_method_7_code 1 = .ok (.getfield 7, 3) := by decide +kernel
theorem d5_4 : decode prog_74_method_7_code 4 = .ok (.aload_n 0, 1) := by decide +kernel
theorem d5_5 : decode prog_74_method_7_code 5 = .ok (.getfield 17, 3) := by decide +kernel
theorem d5_8 : decode prog_74_method_7_code 8 = .ok (.lcmp, 1) := by decide +kernel
theorem d5_9 : decode prog_74_method_7_code 9 = .ok (.ifCond .ne 14, 3) := by decide +kernel
theorem d5_12 : decode prog_74_method_7_code 12 = .ok (.aload_n 0, 1) := by decide +kernel
theorem d5_13 : decode prog_74_method_7_code 13 = .ok (.getfield 13, 3) := by decide +kernel
theorem d5_16 : decode prog_74_method_7_code 16 = .ok (.ifCond .eq 7, 3) := by decide +kernel
theorem d5_23 : decode prog_74_method_7_code 23 = .ok (.iconst 0, 1) := by decide +kernel
theorem d5_19 : decode prog_74_method_7_code 19 = .ok (.iconst 1, 1) := by decide +kernel
theorem d5_20 : decode prog_74_method_7_code 20 = .ok (.goto 4, 3) := by decide +kernel
theorem d5_24 : decode prog_74_method_7_code 24 = .ok (.ireturn, 1) := by decide +kernel
def f5_16_s0 (x0 : Int64) (x1 : Int32) (x2 : Int64) : Int32 := (if x1 = (0 : Int32) then (0 : Int32) else (1 : Int32))
def F_f5 (x0 : Int64) (x1 : Int32) (x2 : Int64) : Int32 := (if x0 = x2 then (nar .boolean (f5_16_s0 x0 x1 x2)) else (0 : Int32))
set_option maxRecDepth 65536 in
set_option maxHeartbeats 40000000 in
theorem rm5 (l : Launch) (Z : State) (a0 : Array Value) (hw : ∀ d ∈ tables_1, d.before a0 Z = true) (ws : List Jvm.Cond) (o0 : Addr) (x0 : Int64) (x1 : Int32) (x2 : Int64) (h0 : Heap) (n0 : Nat) (F_o0_low : Fld Z h0 o0 "com/example/palimpsest/palimpsest/sql/KeyRange" "low" "J" (.long x0)) (F_o0_lowInclusive : Fld Z h0 o0 "com/example/palimpsest/palimpsest/sql/KeyRange" "lowInclusive" "Z" (.int x1)) (F_o0_high : Fld Z h0 o0 "com/example/palimpsest/palimpsest/sql/KeyRange" "high" "J" (.long x2)) :
    MetFree l (⟨"com/example/palimpsest/palimpsest/sql/KeyRange", "isPoint", "()Z"⟩ : MethodName) (head1 (Jvm.Cond.code (⟨"com/example/palimpsest/palimpsest/sql/KeyRange", "isPoint", "()Z"⟩ : MethodName) prog_74_method_7_code 1 (some .boolean) :: ws) ({ frames := 0, cells := 0, slots := 0, locals := 0 } : Room)) (fun a U => a = #[(.ref o0)] ∧ Z.Warmed39 U.vm ∧ U.heap = h0) (fun _ _ _ _ _ => True) (fun _ U o U' => ∃ v L, o = .returned v ∧ QR (some (.int (F_f5 x0 x1 x2))) h0 n0 v U'.heap L ∧ FrameEnd U o U' L ({ frames := 0, cells := 0, slots := 0, locals := 0 } : Room).cells ({ frames := 0, cells := 0, slots := 0, locals := 0 } : Room).slots) := by
  refine MetFree.of_bodySF (plainFor_of_name pn_3) hisR ?_
  intro p e s m args below meth c s₁ Bd hml0 hP hK
  obtain ⟨rfl, hZ, hh⟩ := hP
  have hx := Bd.exec
  have hby := Bd.bytes
  have hml : c.maxLocals = 1 := hml0
  have hown : s.vm.findClass "com/example/palimpsest/palimpsest/sql/KeyRange" = some m.cls := findClass_of_methodNamed Bd.named
  have hnm := (name_of_methodNamed Bd.named Bd.method).1
  have hret := Bd.returns
  have hlk : meth.locks = false := BodyLoose.notSynchronized Bd
  have X0 : Stand p l e ({ frames := 0, cells := 0, slots := 0, locals := 0 } : Room) s m #[(.ref o0)] below meth c s₁ [] 0 0 := Stand.of_body Bd
  have e0 : s₁.heap = h0 := by rw [← hh, Bd.state]; rfl
  have N0 := Fr.nil n0
  show Outs p e below s (QR (some (.int (F_f5 x0 x1 x2))) h0 n0) _ _ _
  refine Outs.of (U' := s₁.setTop (mkF m 0 #[.val (.ref o0)] [])) (fun t k => castTop (ef_5 m o0) k) ?_
  refine Outs.of (U' := s₁.setTop (mkF m 1 #[.val (.ref o0)] [(.ref o0)])) (fun t k => ?_) ?_
  · refine XS.aloadN X0.here hx rfl (hb hby d5_0) rfl rfl ?_
    show Steps p.tables e below (s₁.setTop (mkF m 1 #[.val (.ref o0)] [(.ref o0)])) _
    exact k
  obtain ⟨T1, X1, e1, st1⟩ := getF X0 hx hZ hown (host := "") (Or.inl (hw _ (List.mem_of_getElem? (i := 16) rfl))) Via.refl e0 F_o0_low (g := (mkF m 1 #[.val (.ref o0)] [(.ref o0)])) rfl rfl (hb hby d5_1)
  refine Outs.of st1 ?_
  show Outs p e below s _ _ _ (T1.setTop (mkF m 4 #[.val (.ref o0)] [(.long x0)]))
  refine Outs.of (U' := T1.setTop (mkF m 5 #[.val (.ref o0)] [(.ref o0), (.long x0)])) (fun t k => ?_) ?_
  · refine XS.aloadN X1.here hx rfl (hb hby d5_4) rfl rfl ?_
    show Steps p.tables e below (T1.setTop (mkF m 5 #[.val (.ref o0)] [(.ref o0), (.long x0)])) _
    exact k
  obtain ⟨T2, X2, e2, st2⟩ := getF X1 hx hZ hown (host := "") (Or.inl (hw _ (List.mem_of_getElem? (i := 20) rfl))) Via.refl e1 F_o0_high (g := (mkF m 5 #[.val (.ref o0)] [(.ref o0), (.long x0)])) rfl rfl (hb hby d5_5)
  refine Outs.of st2 ?_
  show Outs p e below s _ _ _ (T2.setTop (mkF m 8 #[.val (.ref o0)] [(.long x2), (.long x0)]))
  refine Outs.of (U' := T2.setTop (mkF m 9 #[.val (.ref o0)] [(.int (lcmpW x0 x2))])) (fun t k => ?_) ?_
  · refine XS.lcmp X2.here hx rfl (hb hby d5_8) rfl ?_
    show Steps p.tables e below (T2.setTop (mkF m 9 #[.val (.ref o0)] [(.int (lcmpW x0 x2))])) _
    exact k
  by_cases hc9 : x0 = x2
  · refine Outs.of (U' := T2.setTop (mkF m 12 #[.val (.ref o0)] [])) (fun t k => ?_) ?_
    · refine XS.ifNo X2.here hx rfl (hb hby d5_9) rfl ((if0 _ _).trans (teq ((lw_eq _ _).mpr hc9)).2) ?_
      show Steps p.tables e below (T2.setTop (mkF m 12 #[.val (.ref o0)] [])) _
      exact k
    refine Outs.of (U' := T2.setTop (mkF m 13 #[.val (.ref o0)] [(.ref o0)])) (fun t k => ?_) ?_
    · refine XS.aloadN X2.here hx rfl (hb hby d5_12) rfl rfl ?_
      show Steps p.tables e below (T2.setTop (mkF m 13 #[.val (.ref o0)] [(.ref o0)])) _
      exact k
    obtain ⟨T3, X3, e3, st3⟩ := getF X2 hx hZ hown (host := "") (Or.inl (hw _ (List.mem_of_getElem? (i := 18) rfl))) Via.refl e2 F_o0_lowInclusive (g := (mkF m 13 #[.val (.ref o0)] [(.ref o0)])) rfl rfl (hb hby d5_13)
    refine Outs.of st3 ?_
    show Outs p e below s _ _ _ (T3.setTop (mkF m 16 #[.val (.ref o0)] [(.int x1)]))
    refine Outs.of (U' := T3.setTop (mkF m 24 #[.val (.ref o0)] [(.int (f5_16_s0 x0 x1 x2))])) (fun t k => ?_) ?_
    · by_cases hc16 : x1 = (0 : Int32)
      · refine XS.ifYes X3.here hx rfl (pc0 := 16) (pc' := 23) rfl (hb hby d5_16) rfl ((if0 _ _).trans (teq hc16).1) (by decide) (by decide) ?_
        show Steps p.tables e below (T3.setTop (mkF m 23 #[.val (.ref o0)] [])) _
        refine XS.iconst X3.here hx rfl (hb hby d5_23) ?_
        show Steps p.tables e below (T3.setTop (mkF m 24 #[.val (.ref o0)] [(.int (0 : Int32))])) _
        rw [show (f5_16_s0 x0 x1 x2) = (0 : Int32) from (if_pos hc16)] at k
        exact k
      · refine XS.ifNo X3.here hx rfl (hb hby d5_16) rfl ((if0 _ _).trans (feq hc16).1) ?_
        show Steps p.tables e below (T3.setTop (mkF m 19 #[.val (.ref o0)] [])) _
        refine XS.iconst X3.here hx rfl (hb hby d5_19) ?_
        show Steps p.tables e below (T3.setTop (mkF m 20 #[.val (.ref o0)] [(.int (1 : Int32))])) _
        refine XS.goto X3.here hx rfl (pc0 := 20) (pc' := 24) rfl (hb hby d5_20) (by decide) (by decide) ?_
        show Steps p.tables e below (T3.setTop (mkF m 24 #[.val (.ref o0)] [(.int (1 : Int32))])) _
        rw [show (f5_16_s0 x0 x1 x2) = (1 : Int32) from (if_neg hc16)] at k
        exact k
    exact Outs.retN (t := .boolean) (z := (f5_16_s0 x0 x1 x2)) X3 hx hret (by simp) (hb hby d5_24) hlk (by decide) (by decide) e3 ⟨congrArg (fun z_ => some (Value.int z_)) (show (F_f5 x0 x1 x2) = (nar .boolean (f5_16_s0 x0 x1 x2)) from (if_pos hc9)).symm, N0, rfl⟩
  · refine Outs.of (U' := T2.setTop (mkF m 23 #[.val (.ref o0)] [])) (fun t k => ?_) ?_
    · refine XS.ifYes X2.here hx rfl (pc0 := 9) (pc' := 23) rfl (hb hby d5_9) rfl ((if0 _ _).trans (feq (fun q_ => hc9 ((lw_eq _ _).mp q_))).2) (by decide) (by decide) ?_
      show Steps p.tables e below (T2.setTop (mkF m 23 #[.val (.ref o0)] [])) _
      exact k
    refine Outs.of (U' := T2.setTop (mkF m 24 #[.val (.ref o0)] [(.int (0 : Int32))])) (fun t k => ?_) ?_
    · refine XS.iconst X2.here hx rfl (hb hby d5_23) ?_
      show Steps p.tables e below (T2.setTop (mkF m 24 #[.val (.ref o0)] [(.int (0 : Int32))])) _
      exact k
    exact Outs.retN (t := .boolean) (z := (0 : Int32)) X2 hx hret (by simp) (hb hby d5_24) hlk (by decide) (by decide) e2 ⟨congrArg (fun z_ => some (Value.int z_)) (show (F_f5 x0 x1 x2) = (0 : Int32) from (if_neg hc9)).symm, N0, rfl⟩
def f0_18_l7 (j0 : Int64) (j1 : Int64) (i2 : Int32) : Int64 := (if (i2 &&& (4 : Int32)) = (0 : Int32) then (F_f2 j0 j1) else (F_f1 j0 j1))
def f0_29_s0 (j0 : Int64) (j1 : Int64) (i2 : Int32) : Int32 := (if (i2 &&& (1 : Int32)) = (0 : Int32) then (0 : Int32) else (1 : Int32))
def f0_43_s0 (j0 : Int64) (j1 : Int64) (i2 : Int32) : Int32 := (if (i2 &&& (2 : Int32)) = (0 : Int32) then (0 : Int32) else (1 : Int32))
def f0_58_l9 (j0 : Int64) (j1 : Int64) (i2 : Int32) : Int32 := (if (F_f1 j0 j1) = (f0_18_l7 j0 j1 i2) then (1 : Int32) else (f0_29_s0 j0 j1 i2))
def f0_58_l10 (j0 : Int64) (j1 : Int64) (i2 : Int32) : Int32 := (if (F_f1 j0 j1) = (f0_18_l7 j0 j1 i2) then (1 : Int32) else (f0_43_s0 j0 j1 i2))
def f0_89_s0 (j0 : Int64) (j1 : Int64) (i2 : Int32) : Int32 := (if (F_f1 j0 j1) = (f0_18_l7 j0 j1 i2) then (if (f0_58_l9 j0 j1 i2) = (0 : Int32) then (0 : Int32) else (if (f0_58_l10 j0 j1 i2) = (0 : Int32) then (0 : Int32) else (1 : Int32))) else (0 : Int32))
def f0_116_s0 (j0 : Int64) (j1 : Int64) (i2 : Int32) : Int32 := (if (F_f5 (F_f1 j0 j1) (nar .boolean (f0_58_l9 j0 j1 i2)) (f0_18_l7 j0 j1 i2)) = (f0_89_s0 j0 j1 i2) then (1 : Int32) else (0 : Int32))
theorem law_true (j0 j1 : Int64) (i2 : Int32) : nar .boolean (f0_116_s0 j0 j1 i2) = 1 := by
  unfold f0_116_s0
  rw [if_pos]
  · rfl
  unfold F_f5 f0_89_s0
  by_cases h : F_f1 j0 j1 = f0_18_l7 j0 j1 i2
  · have a9 : f0_58_l9 j0 j1 i2 = 1 := by unfold f0_58_l9; rw [if_pos h]
    have a10 : f0_58_l10 j0 j1 i2 = 1 := by unfold f0_58_l10; rw [if_pos h]
    have n1 : nar .boolean 1 = 1 := rfl
    rw [if_pos h, if_pos h, a9, a10]; simp [f5_16_s0, n1]
  · rw [if_neg h, if_neg h]
theorem ef_0 (m : MethodId) (x0 : Int64) (x1 : Int64) (x2 : Int32) : entryFrame m #[(.long x0), (.long x1), (.int x2)] maxLocals = mkF m 0 #[.val (.long x0), .second, .val (.long x1), .second, .val (.int x2), .unset, .unset, .unset, .unset, .unset, .unset, .unset, .unset] [] := by first | (simp [entryFrame, mkF, argsToLocals, Value.category, maxLocals]; done) | rfl
theorem pd_0 : parseMethodDescriptor "(JJ)J" = some ⟨[.long, .long], some .long⟩ := by decide +kernel
theorem pd_1 : parseMethodDescriptor "(JZJZ)V" = some ⟨[.long, .boolean, .long, .boolean], none⟩ := by decide +kernel
theorem pd_3 : parseMethodDescriptor "()Z" = some ⟨[], some .boolean⟩ := by decide +kernel
theorem pn_0 : plainName "com/example/palimpsest/palimpsest/sql/KeyRangeIsPointPinLaw" = true := by first | (simp [plainName, overriddenIn]; done) | decide +kernel
set_option maxRecDepth 65536 in
set_option maxHeartbeats 40000000 in
theorem rm0 (l : Launch) (Z : State) (a0 : Array Value) (hw : ∀ d ∈ tables_1, d.before a0 Z = true) (ws : List Jvm.Cond) (j0 : Int64) (j1 : Int64) (i2 : Int32)  (h0 : Heap) (n0 : Nat) (Z0 : n0 ≤ h0.size) :
    MetFree l x (head1 (Jvm.Cond.code x code maxLocals ret :: ws) room_1) (fun a U => a = #[(.long j0), (.long j1), (.int i2)] ∧ Z.Warmed39 U.vm ∧ U.heap = h0) (fun _ _ _ _ _ => True) (fun _ U o U' => ∃ v L, o = .returned v ∧ QL n0 v U'.heap L ∧ FrameEnd U o U' L room_1.cells room_1.slots) := by
  refine MetFree.of_bodySF (plainFor_of_name pn_0) hisR ?_
  intro p e s m args below meth c s₁ Bd hml0 hP hK
  obtain ⟨rfl, hZ, hh⟩ := hP
  have hx := Bd.exec
  have hby := Bd.bytes
  have hml : c.maxLocals = 13 := hml0
  have hown : s.vm.findClass "com/example/palimpsest/palimpsest/sql/KeyRangeIsPointPinLaw" = some m.cls := findClass_of_methodNamed Bd.named
  have hnm := (name_of_methodNamed Bd.named Bd.method).1
  have hret := Bd.returns
  have hlk : meth.locks = false := BodyLoose.notSynchronized Bd
  have X0 : Stand p l e room_1 s m #[(.long j0), (.long j1), (.int i2)] below meth c s₁ [] 0 0 := Stand.of_body Bd
  have e0 : s₁.heap = h0 := by rw [← hh, Bd.state]; rfl
  have N0 := Fr.nil n0
  show Outs p e below s (QL n0) _ _ _
  refine Outs.of (U' := s₁.setTop (mkF m 0 #[.val (.long j0), .second, .val (.long j1), .second, .val (.int i2), .unset, .unset, .unset, .unset, .unset, .unset, .unset, .unset] [])) (fun t k => castTop (ef_0 m j0 j1 i2) k) ?_
  refine Outs.of (U' := s₁.setTop (mkF m 2 #[.val (.long j0), .second, .val (.long j1), .second, .val (.int i2), .unset, .unset, .unset, .unset, .unset, .unset, .unset, .unset] [(.long j1), (.long j0)])) (fun t k => ?_) ?_
  · refine XS.lloadN X0.here hx rfl (hb hby at_0) rfl ?_
    show Steps p.tables e below (s₁.setTop (mkF m 1 #[.val (.long j0), .second, .val (.long j1), .second, .val (.int i2), .unset, .unset, .unset, .unset, .unset, .unset, .unset, .unset] [(.long j0)])) _
    refine XS.lloadN X0.here hx rfl (hb hby at_1) rfl ?_
    show Steps p.tables e below (s₁.setTop (mkF m 2 #[.val (.long j0), .second, .val (.long j1), .second, .val (.int i2), .unset, .unset, .unset, .unset, .unset, .unset, .unset, .unset] [(.long j1), (.long j0)])) _
    exact k
  obtain ⟨_, _, ⟨T1, L1, k1, n1⟩, -, X1, ⟨Lc1, hQ1, l1, y1, z1⟩, st1⟩ := Jvm.LawKit.callS X0 hx (y := (⟨"java/lang/Math", "min", "(JJ)J"⟩ : MethodName)) hown (mvT hZ (hw _ (List.mem_of_getElem? (i := 0) rfl))) (mvT hZ (hw _ (List.mem_of_getElem? (i := 1) rfl))) (mvT hZ (hw _ (List.mem_of_getElem? (i := 2) rfl))) (mvT hZ (hw _ (List.mem_of_getElem? (i := 3) rfl))) (by decide) (backOf (W := 0) (rm1 l Z a0 hw [] j0 j1 h0 n0 ) hZ (hw _ (List.mem_of_getElem? (i := 3) rfl)) (hw _ (List.mem_of_getElem? (i := 2) rfl)) (by decide) (by decide)) (g := (mkF m 2 #[.val (.long j0), .second, .val (.long j1), .second, .val (.int i2), .unset, .unset, .unset, .unset, .unset, .unset, .unset, .unset] [(.long j1), (.long j0)])) rfl (by rw [hml]; rfl) (argsL := [(.long j0), (.long j1)]) (rest := []) (lenOf pd_0 rfl) rfl (by show 2 * 0 + _ ≤ _; exact Nat.le_of_eq rfl) (hb hby at_2) (fun _ _ => ⟨rfl, e0, (by decide : 0 + 0 ≤ _), (by decide : 0 + 0 ≤ _)⟩)
  dsimp only [Pt.U, Pt.locs, Pt.cells, Pt.slots] at X1 l1 y1 z1 st1 hQ1
  subst l1 y1 z1
  obtain ⟨rfl, N1q, e1⟩ := hQ1
  have N1 := Fr.app N0 N1q
  refine Outs.of st1 ?_
  show Outs p e below s _ _ _ (T1.setTop (mkF m 5 #[.val (.long j0), .second, .val (.long j1), .second, .val (.int i2), .unset, .unset, .unset, .unset, .unset, .unset, .unset, .unset] [(.long (F_f1 j0 j1))]))
  refine Outs.of (U' := T1.setTop (mkF m 9 #[.val (.long j0), .second, .val (.long j1), .second, .val (.int i2), .val (.long (F_f1 j0 j1)), .second, .unset, .unset, .unset, .unset, .unset, .unset] [(.long j1), (.long j0)])) (fun t k => ?_) ?_
  · refine XS.lstore X1.here hx rfl (hb hby at_5) rfl (l' := #[.val (.long j0), .second, .val (.long j1), .second, .val (.int i2), .val (.long (F_f1 j0 j1)), .second, .unset, .unset, .unset, .unset, .unset, .unset]) rfl ?_
    show Steps p.tables e below (T1.setTop (mkF m 7 #[.val (.long j0), .second, .val (.long j1), .second, .val (.int i2), .val (.long (F_f1 j0 j1)), .second, .unset, .unset, .unset, .unset, .unset, .unset] [])) _
    refine XS.lloadN X1.here hx rfl (hb hby at_7) rfl ?_
    show Steps p.tables e below (T1.setTop (mkF m 8 #[.val (.long j0), .second, .val (.long j1), .second, .val (.int i2), .val (.long (F_f1 j0 j1)), .second, .unset, .unset, .unset, .unset, .unset, .unset] [(.long j0)])) _
    refine XS.lloadN X1.here hx rfl (hb hby at_8) rfl ?_
    show Steps p.tables e below (T1.setTop (mkF m 9 #[.val (.long j0), .second, .val (.long j1), .second, .val (.int i2), .val (.long (F_f1 j0 j1)), .second, .unset, .unset, .unset, .unset, .unset, .unset] [(.long j1), (.long j0)])) _
    exact k
  obtain ⟨_, _, ⟨T2, L2, k2, n2⟩, -, X2, ⟨Lc2, hQ2, l2, y2, z2⟩, st2⟩ := Jvm.LawKit.callS X1 hx (y := (⟨"java/lang/Math", "max", "(JJ)J"⟩ : MethodName)) hown (mvT hZ (hw _ (List.mem_of_getElem? (i := 4) rfl))) (mvT hZ (hw _ (List.mem_of_getElem? (i := 5) rfl))) (mvT hZ (hw _ (List.mem_of_getElem? (i := 2) rfl))) (mvT hZ (hw _ (List.mem_of_getElem? (i := 6) rfl))) (by decide) (backOf (W := 0) (rm2 l Z a0 hw [] j0 j1 h0 n0 ) hZ (hw _ (List.mem_of_getElem? (i := 6) rfl)) (hw _ (List.mem_of_getElem? (i := 2) rfl)) (by decide) (by decide)) (g := (mkF m 9 #[.val (.long j0), .second, .val (.long j1), .second, .val (.int i2), .val (.long (F_f1 j0 j1)), .second, .unset, .unset, .unset, .unset, .unset, .unset] [(.long j1), (.long j0)])) rfl (by rw [hml]; rfl) (argsL := [(.long j0), (.long j1)]) (rest := []) (lenOf pd_0 rfl) rfl (by show 2 * 0 + _ ≤ _; exact Nat.le_of_eq rfl) (hb hby at_9) (fun _ _ => ⟨rfl, e1, (by decide : 0 + 0 ≤ _), (by decide : 0 + 0 ≤ _)⟩)
  dsimp only [Pt.U, Pt.locs, Pt.cells, Pt.slots] at X2 l2 y2 z2 st2 hQ2
  subst l2 y2 z2
  obtain ⟨rfl, N2q, e2⟩ := hQ2
  have N2 := Fr.app N1 N2q
  refine Outs.of st2 ?_
  show Outs p e below s _ _ _ (T2.setTop (mkF m 12 #[.val (.long j0), .second, .val (.long j1), .second, .val (.int i2), .val (.long (F_f1 j0 j1)), .second, .unset, .unset, .unset, .unset, .unset, .unset] [(.long (F_f2 j0 j1))]))
  refine Outs.of (U' := T2.setTop (mkF m 25 #[.val (.long j0), .second, .val (.long j1), .second, .val (.int i2), .val (.long (F_f1 j0 j1)), .second, .val (.long (f0_18_l7 j0 j1 i2)), .second, .unset, .unset, .unset, .unset] [])) (fun t k => ?_) ?_
  · refine XS.lstore X2.here hx rfl (hb hby at_12) rfl (l' := #[.val (.long j0), .second, .val (.long j1), .second, .val (.int i2), .val (.long (F_f1 j0 j1)), .second, .val (.long (F_f2 j0 j1)), .second, .unset, .unset, .unset, .unset]) rfl ?_
    show Steps p.tables e below (T2.setTop (mkF m 14 #[.val (.long j0), .second, .val (.long j1), .second, .val (.int i2), .val (.long (F_f1 j0 j1)), .second, .val (.long (F_f2 j0 j1)), .second, .unset, .unset, .unset, .unset] [])) _
    refine XS.iload X2.here hx rfl (hb hby at_14) rfl ?_
    show Steps p.tables e below (T2.setTop (mkF m 16 #[.val (.long j0), .second, .val (.long j1), .second, .val (.int i2), .val (.long (F_f1 j0 j1)), .second, .val (.long (F_f2 j0 j1)), .second, .unset, .unset, .unset, .unset] [(.int i2)])) _
    refine XS.iconst X2.here hx rfl (hb hby at_16) ?_
    show Steps p.tables e below (T2.setTop (mkF m 17 #[.val (.long j0), .second, .val (.long j1), .second, .val (.int i2), .val (.long (F_f1 j0 j1)), .second, .val (.long (F_f2 j0 j1)), .second, .unset, .unset, .unset, .unset] [(.int (4 : Int32)), (.int i2)])) _
    refine XS.iand X2.here hx rfl (hb hby at_17) rfl ?_
    show Steps p.tables e below (T2.setTop (mkF m 18 #[.val (.long j0), .second, .val (.long j1), .second, .val (.int i2), .val (.long (F_f1 j0 j1)), .second, .val (.long (F_f2 j0 j1)), .second, .unset, .unset, .unset, .unset] [(.int (i2 &&& (4 : Int32)))])) _
    by_cases hc18 : (i2 &&& (4 : Int32)) = (0 : Int32)
    · refine XS.ifYes X2.here hx rfl (pc0 := 18) (pc' := 25) rfl (hb hby at_18) rfl ((if0 _ _).trans (teq hc18).1) (by decide) (by decide) ?_
      show Steps p.tables e below (T2.setTop (mkF m 25 #[.val (.long j0), .second, .val (.long j1), .second, .val (.int i2), .val (.long (F_f1 j0 j1)), .second, .val (.long (F_f2 j0 j1)), .second, .unset, .unset, .unset, .unset] [])) _
      rw [show (f0_18_l7 j0 j1 i2) = (F_f2 j0 j1) from (if_pos hc18)] at k
      exact k
    · refine XS.ifNo X2.here hx rfl (hb hby at_18) rfl ((if0 _ _).trans (feq hc18).1) ?_
      show Steps p.tables e below (T2.setTop (mkF m 21 #[.val (.long j0), .second, .val (.long j1), .second, .val (.int i2), .val (.long (F_f1 j0 j1)), .second, .val (.long (F_f2 j0 j1)), .second, .unset, .unset, .unset, .unset] [])) _
      refine XS.lload X2.here hx rfl (hb hby at_21) rfl ?_
      show Steps p.tables e below (T2.setTop (mkF m 23 #[.val (.long j0), .second, .val (.long j1), .second, .val (.int i2), .val (.long (F_f1 j0 j1)), .second, .val (.long (F_f2 j0 j1)), .second, .unset, .unset, .unset, .unset] [(.long (F_f1 j0 j1))])) _
      refine XS.lstore X2.here hx rfl (hb hby at_23) rfl (l' := #[.val (.long j0), .second, .val (.long j1), .second, .val (.int i2), .val (.long (F_f1 j0 j1)), .second, .val (.long (F_f1 j0 j1)), .second, .unset, .unset, .unset, .unset]) rfl ?_
      show Steps p.tables e below (T2.setTop (mkF m 25 #[.val (.long j0), .second, .val (.long j1), .second, .val (.int i2), .val (.long (F_f1 j0 j1)), .second, .val (.long (F_f1 j0 j1)), .second, .unset, .unset, .unset, .unset] [])) _
      rw [show (f0_18_l7 j0 j1 i2) = (F_f1 j0 j1) from (if_neg hc18)] at k
      exact k
  refine Outs.of (U' := T2.setTop (mkF m 37 #[.val (.long j0), .second, .val (.long j1), .second, .val (.int i2), .val (.long (F_f1 j0 j1)), .second, .val (.long (f0_18_l7 j0 j1 i2)), .second, .unset, .unset, .unset, .unset] [(.int (f0_29_s0 j0 j1 i2))])) (fun t k => ?_) ?_
  · refine XS.iload X2.here hx rfl (hb hby at_25) rfl ?_
    show Steps p.tables e below (T2.setTop (mkF m 27 #[.val (.long j0), .second, .val (.long j1), .second, .val (.int i2), .val (.long (F_f1 j0 j1)), .second, .val (.long (f0_18_l7 j0 j1 i2)), .second, .unset, .unset, .unset, .unset] [(.int i2)])) _
    refine XS.iconst X2.here hx rfl (hb hby at_27) ?_
    show Steps p.tables e below (T2.setTop (mkF m 28 #[.val (.long j0), .second, .val (.long j1), .second, .val (.int i2), .val (.long (F_f1 j0 j1)), .second, .val (.long (f0_18_l7 j0 j1 i2)), .second, .unset, .unset, .unset, .unset] [(.int (1 : Int32)), (.int i2)])) _
    refine XS.iand X2.here hx rfl (hb hby at_28) rfl ?_
    show Steps p.tables e below (T2.setTop (mkF m 29 #[.val (.long j0), .second, .val (.long j1), .second, .val (.int i2), .val (.long (F_f1 j0 j1)), .second, .val (.long (f0_18_l7 j0 j1 i2)), .second, .unset, .unset, .unset, .unset] [(.int (i2 &&& (1 : Int32)))])) _
    by_cases hc29 : (i2 &&& (1 : Int32)) = (0 : Int32)
    · refine XS.ifYes X2.here hx rfl (pc0 := 29) (pc' := 36) rfl (hb hby at_29) rfl ((if0 _ _).trans (teq hc29).1) (by decide) (by decide) ?_
      show Steps p.tables e below (T2.setTop (mkF m 36 #[.val (.long j0), .second, .val (.long j1), .second, .val (.int i2), .val (.long (F_f1 j0 j1)), .second, .val (.long (f0_18_l7 j0 j1 i2)), .second, .unset, .unset, .unset, .unset] [])) _
      refine XS.iconst X2.here hx rfl (hb hby at_36) ?_
      show Steps p.tables e below (T2.setTop (mkF m 37 #[.val (.long j0), .second, .val (.long j1), .second, .val (.int i2), .val (.long (F_f1 j0 j1)), .second, .val (.long (f0_18_l7 j0 j1 i2)), .second, .unset, .unset, .unset, .unset] [(.int (0 : Int32))])) _
      rw [show (f0_29_s0 j0 j1 i2) = (0 : Int32) from (if_pos hc29)] at k
      exact k
    · refine XS.ifNo X2.here hx rfl (hb hby at_29) rfl ((if0 _ _).trans (feq hc29).1) ?_
      show Steps p.tables e below (T2.setTop (mkF m 32 #[.val (.long j0), .second, .val (.long j1), .second, .val (.int i2), .val (.long (F_f1 j0 j1)), .second, .val (.long (f0_18_l7 j0 j1 i2)), .second, .unset, .unset, .unset, .unset] [])) _
      refine XS.iconst X2.here hx rfl (hb hby at_32) ?_
      show Steps p.tables e below (T2.setTop (mkF m 33 #[.val (.long j0), .second, .val (.long j1), .second, .val (.int i2), .val (.long (F_f1 j0 j1)), .second, .val (.long (f0_18_l7 j0 j1 i2)), .second, .unset, .unset, .unset, .unset] [(.int (1 : Int32))])) _
      refine XS.goto X2.here hx rfl (pc0 := 33) (pc' := 37) rfl (hb hby at_33) (by decide) (by decide) ?_
      show Steps p.tables e below (T2.setTop (mkF m 37 #[.val (.long j0), .second, .val (.long j1), .second, .val (.int i2), .val (.long (F_f1 j0 j1)), .second, .val (.long (f0_18_l7 j0 j1 i2)), .second, .unset, .unset, .unset, .unset] [(.int (1 : Int32))])) _
      rw [show (f0_29_s0 j0 j1 i2) = (1 : Int32) from (if_neg hc29)] at k
      exact k
  refine Outs.of (U' := T2.setTop (mkF m 51 #[.val (.long j0), .second, .val (.long j1), .second, .val (.int i2), .val (.long (F_f1 j0 j1)), .second, .val (.long (f0_18_l7 j0 j1 i2)), .second, .val (.int (f0_29_s0 j0 j1 i2)), .unset, .unset, .unset] [(.int (f0_43_s0 j0 j1 i2))])) (fun t k => ?_) ?_
  · refine XS.istore X2.here hx rfl (hb hby at_37) rfl (l' := #[.val (.long j0), .second, .val (.long j1), .second, .val (.int i2), .val (.long (F_f1 j0 j1)), .second, .val (.long (f0_18_l7 j0 j1 i2)), .second, .val (.int (f0_29_s0 j0 j1 i2)), .unset, .unset, .unset]) rfl ?_
    show Steps p.tables e below (T2.setTop (mkF m 39 #[.val (.long j0), .second, .val (.long j1), .second, .val (.int i2), .val (.long (F_f1 j0 j1)), .second, .val (.long (f0_18_l7 j0 j1 i2)), .second, .val (.int (f0_29_s0 j0 j1 i2)), .unset, .unset, .unset] [])) _
    refine XS.iload X2.here hx rfl (hb hby at_39) rfl ?_
    show Steps p.tables e below (T2.setTop (mkF m 41 #[.val (.long j0), .second, .val (.long j1), .second, .val (.int i2), .val (.long (F_f1 j0 j1)), .second, .val (.long (f0_18_l7 j0 j1 i2)), .second, .val (.int (f0_29_s0 j0 j1 i2)), .unset, .unset, .unset] [(.int i2)])) _
    refine XS.iconst X2.here hx rfl (hb hby at_41) ?_
    show Steps p.tables e below (T2.setTop (mkF m 42 #[.val (.long j0), .second, .val (.long j1), .second, .val (.int i2), .val (.long (F_f1 j0 j1)), .second, .val (.long (f0_18_l7 j0 j1 i2)), .second, .val (.int (f0_29_s0 j0 j1 i2)), .unset, .unset, .unset] [(.int (2 : Int32)), (.int i2)])) _
    refine XS.iand X2.here hx rfl (hb hby at_42) rfl ?_
    show Steps p.tables e below (T2.setTop (mkF m 43 #[.val (.long j0), .second, .val (.long j1), .second, .val (.int i2), .val (.long (F_f1 j0 j1)), .second, .val (.long (f0_18_l7 j0 j1 i2)), .second, .val (.int (f0_29_s0 j0 j1 i2)), .unset, .unset, .unset] [(.int (i2 &&& (2 : Int32)))])) _
    by_cases hc43 : (i2 &&& (2 : Int32)) = (0 : Int32)
    · refine XS.ifYes X2.here hx rfl (pc0 := 43) (pc' := 50) rfl (hb hby at_43) rfl ((if0 _ _).trans (teq hc43).1) (by decide) (by decide) ?_
      show Steps p.tables e below (T2.setTop (mkF m 50 #[.val (.long j0), .second, .val (.long j1), .second, .val (.int i2), .val (.long (F_f1 j0 j1)), .second, .val (.long (f0_18_l7 j0 j1 i2)), .second, .val (.int (f0_29_s0 j0 j1 i2)), .unset, .unset, .unset] [])) _
      refine XS.iconst X2.here hx rfl (hb hby at_50) ?_
      show Steps p.tables e below (T2.setTop (mkF m 51 #[.val (.long j0), .second, .val (.long j1), .second, .val (.int i2), .val (.long (F_f1 j0 j1)), .second, .val (.long (f0_18_l7 j0 j1 i2)), .second, .val (.int (f0_29_s0 j0 j1 i2)), .unset, .unset, .unset] [(.int (0 : Int32))])) _
      rw [show (f0_43_s0 j0 j1 i2) = (0 : Int32) from (if_pos hc43)] at k
      exact k
    · refine XS.ifNo X2.here hx rfl (hb hby at_43) rfl ((if0 _ _).trans (feq hc43).1) ?_
      show Steps p.tables e below (T2.setTop (mkF m 46 #[.val (.long j0), .second, .val (.long j1), .second, .val (.int i2), .val (.long (F_f1 j0 j1)), .second, .val (.long (f0_18_l7 j0 j1 i2)), .second, .val (.int (f0_29_s0 j0 j1 i2)), .unset, .unset, .unset] [])) _
      refine XS.iconst X2.here hx rfl (hb hby at_46) ?_
      show Steps p.tables e below (T2.setTop (mkF m 47 #[.val (.long j0), .second, .val (.long j1), .second, .val (.int i2), .val (.long (F_f1 j0 j1)), .second, .val (.long (f0_18_l7 j0 j1 i2)), .second, .val (.int (f0_29_s0 j0 j1 i2)), .unset, .unset, .unset] [(.int (1 : Int32))])) _
      refine XS.goto X2.here hx rfl (pc0 := 47) (pc' := 51) rfl (hb hby at_47) (by decide) (by decide) ?_
      show Steps p.tables e below (T2.setTop (mkF m 51 #[.val (.long j0), .second, .val (.long j1), .second, .val (.int i2), .val (.long (F_f1 j0 j1)), .second, .val (.long (f0_18_l7 j0 j1 i2)), .second, .val (.int (f0_29_s0 j0 j1 i2)), .unset, .unset, .unset] [(.int (1 : Int32))])) _
      rw [show (f0_43_s0 j0 j1 i2) = (1 : Int32) from (if_neg hc43)] at k
      exact k
  refine Outs.of (U' := T2.setTop (mkF m 67 #[.val (.long j0), .second, .val (.long j1), .second, .val (.int i2), .val (.long (F_f1 j0 j1)), .second, .val (.long (f0_18_l7 j0 j1 i2)), .second, .val (.int (f0_58_l9 j0 j1 i2)), .val (.int (f0_58_l10 j0 j1 i2)), .unset, .unset] [])) (fun t k => ?_) ?_
  · refine XS.istore X2.here hx rfl (hb hby at_51) rfl (l' := #[.val (.long j0), .second, .val (.long j1), .second, .val (.int i2), .val (.long (F_f1 j0 j1)), .second, .val (.long (f0_18_l7 j0 j1 i2)), .second, .val (.int (f0_29_s0 j0 j1 i2)), .val (.int (f0_43_s0 j0 j1 i2)), .unset, .unset]) rfl ?_
    show Steps p.tables e below (T2.setTop (mkF m 53 #[.val (.long j0), .second, .val (.long j1), .second, .val (.int i2), .val (.long (F_f1 j0 j1)), .second, .val (.long (f0_18_l7 j0 j1 i2)), .second, .val (.int (f0_29_s0 j0 j1 i2)), .val (.int (f0_43_s0 j0 j1 i2)), .unset, .unset] [])) _
    refine XS.lload X2.here hx rfl (hb hby at_53) rfl ?_
    show Steps p.tables e below (T2.setTop (mkF m 55 #[.val (.long j0), .second, .val (.long j1), .second, .val (.int i2), .val (.long (F_f1 j0 j1)), .second, .val (.long (f0_18_l7 j0 j1 i2)), .second, .val (.int (f0_29_s0 j0 j1 i2)), .val (.int (f0_43_s0 j0 j1 i2)), .unset, .unset] [(.long (F_f1 j0 j1))])) _
    refine XS.lload X2.here hx rfl (hb hby at_55) rfl ?_
    show Steps p.tables e below (T2.setTop (mkF m 57 #[.val (.long j0), .second, .val (.long j1), .second, .val (.int i2), .val (.long (F_f1 j0 j1)), .second, .val (.long (f0_18_l7 j0 j1 i2)), .second, .val (.int (f0_29_s0 j0 j1 i2)), .val (.int (f0_43_s0 j0 j1 i2)), .unset, .unset] [(.long (f0_18_l7 j0 j1 i2)), (.long (F_f1 j0 j1))])) _
    refine XS.lcmp X2.here hx rfl (hb hby at_57) rfl ?_
    show Steps p.tables e below (T2.setTop (mkF m 58 #[.val (.long j0), .second, .val (.long j1), .second, .val (.int i2), .val (.long (F_f1 j0 j1)), .second, .val (.long (f0_18_l7 j0 j1 i2)), .second, .val (.int (f0_29_s0 j0 j1 i2)), .val (.int (f0_43_s0 j0 j1 i2)), .unset, .unset] [(.int (lcmpW (F_f1 j0 j1) (f0_18_l7 j0 j1 i2)))])) _
    by_cases hc58 : (F_f1 j0 j1) = (f0_18_l7 j0 j1 i2)
    · refine XS.ifNo X2.here hx rfl (hb hby at_58) rfl ((if0 _ _).trans (teq ((lw_eq _ _).mpr hc58)).2) ?_
      show Steps p.tables e below (T2.setTop (mkF m 61 #[.val (.long j0), .second, .val (.long j1), .second, .val (.int i2), .val (.long (F_f1 j0 j1)), .second, .val (.long (f0_18_l7 j0 j1 i2)), .second, .val (.int (f0_29_s0 j0 j1 i2)), .val (.int (f0_43_s0 j0 j1 i2)), .unset, .unset] [])) _
      refine XS.iconst X2.here hx rfl (hb hby at_61) ?_
      show Steps p.tables e below (T2.setTop (mkF m 62 #[.val (.long j0), .second, .val (.long j1), .second, .val (.int i2), .val (.long (F_f1 j0 j1)), .second, .val (.long (f0_18_l7 j0 j1 i2)), .second, .val (.int (f0_29_s0 j0 j1 i2)), .val (.int (f0_43_s0 j0 j1 i2)), .unset, .unset] [(.int (1 : Int32))])) _
      refine XS.istore X2.here hx rfl (hb hby at_62) rfl (l' := #[.val (.long j0), .second, .val (.long j1), .second, .val (.int i2), .val (.long (F_f1 j0 j1)), .second, .val (.long (f0_18_l7 j0 j1 i2)), .second, .val (.int (1 : Int32)), .val (.int (f0_43_s0 j0 j1 i2)), .unset, .unset]) rfl ?_
      show Steps p.tables e below (T2.setTop (mkF m 64 #[.val (.long j0), .second, .val (.long j1), .second, .val (.int i2), .val (.long (F_f1 j0 j1)), .second, .val (.long (f0_18_l7 j0 j1 i2)), .second, .val (.int (1 : Int32)), .val (.int (f0_43_s0 j0 j1 i2)), .unset, .unset] [])) _
      refine XS.iconst X2.here hx rfl (hb hby at_64) ?_
      show Steps p.tables e below (T2.setTop (mkF m 65 #[.val (.long j0), .second, .val (.long j1), .second, .val (.int i2), .val (.long (F_f1 j0 j1)), .second, .val (.long (f0_18_l7 j0 j1 i2)), .second, .val (.int (1 : Int32)), .val (.int (f0_43_s0 j0 j1 i2)), .unset, .unset] [(.int (1 : Int32))])) _
      refine XS.istore X2.here hx rfl (hb hby at_65) rfl (l' := #[.val (.long j0), .second, .val (.long j1), .second, .val (.int i2), .val (.long (F_f1 j0 j1)), .second, .val (.long (f0_18_l7 j0 j1 i2)), .second, .val (.int (1 : Int32)), .val (.int (1 : Int32)), .unset, .unset]) rfl ?_
      show Steps p.tables e below (T2.setTop (mkF m 67 #[.val (.long j0), .second, .val (.long j1), .second, .val (.int i2), .val (.long (F_f1 j0 j1)), .second, .val (.long (f0_18_l7 j0 j1 i2)), .second, .val (.int (1 : Int32)), .val (.int (1 : Int32)), .unset, .unset] [])) _
      rw [show (f0_58_l9 j0 j1 i2) = (1 : Int32) from (if_pos hc58), show (f0_58_l10 j0 j1 i2) = (1 : Int32) from (if_pos hc58)] at k
      exact k
    · refine XS.ifYes X2.here hx rfl (pc0 := 58) (pc' := 67) rfl (hb hby at_58) rfl ((if0 _ _).trans (feq (fun q_ => hc58 ((lw_eq _ _).mp q_))).2) (by decide) (by decide) ?_
      show Steps p.tables e below (T2.setTop (mkF m 67 #[.val (.long j0), .second, .val (.long j1), .second, .val (.int i2), .val (.long (F_f1 j0 j1)), .second, .val (.long (f0_18_l7 j0 j1 i2)), .second, .val (.int (f0_29_s0 j0 j1 i2)), .val (.int (f0_43_s0 j0 j1 i2)), .unset, .unset] [])) _
      rw [show (f0_58_l9 j0 j1 i2) = (f0_29_s0 j0 j1 i2) from (if_neg hc58), show (f0_58_l10 j0 j1 i2) = (f0_43_s0 j0 j1 i2) from (if_neg hc58)] at k
      exact k
  obtain ⟨T3, h3, X3, e3, E3, A3, D3, -, st3⟩ := newO X2 hx hZ hown (hw _ (List.mem_of_getElem? (i := 7) rfl)) (hw _ (List.mem_of_getElem? (i := 8) rfl)) (hw _ (List.mem_of_getElem? (i := 9) rfl)) e2 (g := (mkF m 67 #[.val (.long j0), .second, .val (.long j1), .second, .val (.int i2), .val (.long (F_f1 j0 j1)), .second, .val (.long (f0_18_l7 j0 j1 i2)), .second, .val (.int (f0_58_l9 j0 j1 i2)), .val (.int (f0_58_l10 j0 j1 i2)), .unset, .unset] [])) rfl (hb hby at_67) (by decide) (by decide)
  obtain ⟨b3, g3⟩ : ∃ z, z = h0.size := ⟨_, rfl⟩
  rw [← g3] at A3 D3 st3
  have g_b3 : n0 ≤ b3 := Nat.le_trans Z0 (Nat.le_of_eq g3.symm)
  have F3_17 : Fld Z h3 b3 "com/example/palimpsest/palimpsest/sql/KeyRange" "low" "J" (.long (0 : Int64)) := D3 (Or.inr (hw _ (List.mem_of_getElem? (i := 17) rfl))) (ty := .long) (by decide)
  have F3_19 : Fld Z h3 b3 "com/example/palimpsest/palimpsest/sql/KeyRange" "lowInclusive" "Z" (.int (0 : Int32)) := D3 (Or.inr (hw _ (List.mem_of_getElem? (i := 19) rfl))) (ty := .boolean) (by decide)
  have F3_21 : Fld Z h3 b3 "com/example/palimpsest/palimpsest/sql/KeyRange" "high" "J" (.long (0 : Int64)) := D3 (Or.inr (hw _ (List.mem_of_getElem? (i := 21) rfl))) (ty := .long) (by decide)
  have F3_23 : Fld Z h3 b3 "com/example/palimpsest/palimpsest/sql/KeyRange" "highInclusive" "Z" (.int (0 : Int32)) := D3 (Or.inr (hw _ (List.mem_of_getElem? (i := 23) rfl))) (ty := .boolean) (by decide)
  refine Outs.of st3 ?_
  show Outs p e below s _ _ _ (T3.setTop (mkF m 70 #[.val (.long j0), .second, .val (.long j1), .second, .val (.int i2), .val (.long (F_f1 j0 j1)), .second, .val (.long (f0_18_l7 j0 j1 i2)), .second, .val (.int (f0_58_l9 j0 j1 i2)), .val (.int (f0_58_l10 j0 j1 i2)), .unset, .unset] [(.ref b3)]))
  refine Outs.of (U' := T3.setTop (mkF m 79 #[.val (.long j0), .second, .val (.long j1), .second, .val (.int i2), .val (.long (F_f1 j0 j1)), .second, .val (.long (f0_18_l7 j0 j1 i2)), .second, .val (.int (f0_58_l9 j0 j1 i2)), .val (.int (f0_58_l10 j0 j1 i2)), .unset, .unset] [(.int (f0_58_l10 j0 j1 i2)), (.long (f0_18_l7 j0 j1 i2)), (.int (f0_58_l9 j0 j1 i2)), (.long (F_f1 j0 j1)), (.ref b3), (.ref b3)])) (fun t k => ?_) ?_
  · refine XS.dup X3.here hx rfl (hb hby at_70) rfl rfl ?_
    show Steps p.tables e below (T3.setTop (mkF m 71 #[.val (.long j0), .second, .val (.long j1), .second, .val (.int i2), .val (.long (F_f1 j0 j1)), .second, .val (.long (f0_18_l7 j0 j1 i2)), .second, .val (.int (f0_58_l9 j0 j1 i2)), .val (.int (f0_58_l10 j0 j1 i2)), .unset, .unset] [(.ref b3), (.ref b3)])) _
    refine XS.lload X3.here hx rfl (hb hby at_71) rfl ?_
    show Steps p.tables e below (T3.setTop (mkF m 73 #[.val (.long j0), .second, .val (.long j1), .second, .val (.int i2), .val (.long (F_f1 j0 j1)), .second, .val (.long (f0_18_l7 j0 j1 i2)), .second, .val (.int (f0_58_l9 j0 j1 i2)), .val (.int (f0_58_l10 j0 j1 i2)), .unset, .unset] [(.long (F_f1 j0 j1)), (.ref b3), (.ref b3)])) _
    refine XS.iload X3.here hx rfl (hb hby at_73) rfl ?_
    show Steps p.tables e below (T3.setTop (mkF m 75 #[.val (.long j0), .second, .val (.long j1), .second, .val (.int i2), .val (.long (F_f1 j0 j1)), .second, .val (.long (f0_18_l7 j0 j1 i2)), .second, .val (.int (f0_58_l9 j0 j1 i2)), .val (.int (f0_58_l10 j0 j1 i2)), .unset, .unset] [(.int (f0_58_l9 j0 j1 i2)), (.long (F_f1 j0 j1)), (.ref b3), (.ref b3)])) _
    refine XS.lload X3.here hx rfl (hb hby at_75) rfl ?_
    show Steps p.tables e below (T3.setTop (mkF m 77 #[.val (.long j0), .second, .val (.long j1), .second, .val (.int i2), .val (.long (F_f1 j0 j1)), .second, .val (.long (f0_18_l7 j0 j1 i2)), .second, .val (.int (f0_58_l9 j0 j1 i2)), .val (.int (f0_58_l10 j0 j1 i2)), .unset, .unset] [(.long (f0_18_l7 j0 j1 i2)), (.int (f0_58_l9 j0 j1 i2)), (.long (F_f1 j0 j1)), (.ref b3), (.ref b3)])) _
    refine XS.iload X3.here hx rfl (hb hby at_77) rfl ?_
    show Steps p.tables e below (T3.setTop (mkF m 79 #[.val (.long j0), .second, .val (.long j1), .second, .val (.int i2), .val (.long (F_f1 j0 j1)), .second, .val (.long (f0_18_l7 j0 j1 i2)), .second, .val (.int (f0_58_l9 j0 j1 i2)), .val (.int (f0_58_l10 j0 j1 i2)), .unset, .unset] [(.int (f0_58_l10 j0 j1 i2)), (.long (f0_18_l7 j0 j1 i2)), (.int (f0_58_l9 j0 j1 i2)), (.long (F_f1 j0 j1)), (.ref b3), (.ref b3)])) _
    exact k
  obtain ⟨_, _, ⟨T4, L4, k4, n4⟩, -, X4, ⟨Lc4, hQ4, l4, y4, z4⟩, st4⟩ := X3.specialBack hx (y := (⟨"com/example/palimpsest/palimpsest/sql/KeyRange", "<init>", "(JZJZ)V"⟩ : MethodName)) rfl hown (mvT hZ (hw _ (List.mem_of_getElem? (i := 10) rfl))) (mvT hZ (hw _ (List.mem_of_getElem? (i := 11) rfl))) (mvT hZ (hw _ (List.mem_of_getElem? (i := 12) rfl))) (by decide) (backOf (W := 1) (rm3 l Z a0 hw [] b3 (F_f1 j0 j1) (f0_58_l9 j0 j1 i2) (f0_18_l7 j0 j1 i2) (f0_58_l10 j0 j1 i2) h3 n0 A3 g_b3 F3_17 F3_19 F3_21 F3_23) hZ (hw _ (List.mem_of_getElem? (i := 12) rfl)) (hw _ (List.mem_of_getElem? (i := 9) rfl)) (by decide) (by decide)) (g := (mkF m 79 #[.val (.long j0), .second, .val (.long j1), .second, .val (.int i2), .val (.long (F_f1 j0 j1)), .second, .val (.long (f0_18_l7 j0 j1 i2)), .second, .val (.int (f0_58_l9 j0 j1 i2)), .val (.int (f0_58_l10 j0 j1 i2)), .unset, .unset] [(.int (f0_58_l10 j0 j1 i2)), (.long (f0_18_l7 j0 j1 i2)), (.int (f0_58_l9 j0 j1 i2)), (.long (F_f1 j0 j1)), (.ref b3), (.ref b3)])) rfl (by rw [hml]; rfl) (Steps.refl _) (a := b3) (argsL := [(.long (F_f1 j0 j1)), (.int (f0_58_l9 j0 j1 i2)), (.long (f0_18_l7 j0 j1 i2)), (.int (f0_58_l10 j0 j1 i2))]) (rest := [(.ref b3)]) (lenOf pd_1 rfl) rfl (by show 2 * 0 + _ ≤ _; exact Nat.le_of_eq rfl) (hb hby at_79) (fun _ _ => ⟨rfl, e3, (by decide : 1 + 0 ≤ _), (by decide : 4 + 0 ≤ _)⟩)
  dsimp only [Pt.U, Pt.locs, Pt.cells, Pt.slots] at X4 l4 y4 z4 st4 hQ4
  subst l4 y4 z4
  obtain ⟨rfl, N4q, K4, u4_0, u4_1, u4_2, u4_3, u4_4⟩ := hQ4
  have N4 := Fr.app N2 N4q
  refine Outs.to st4 ?_
  show Outs p e below s _ _ _ (T4.setTop (mkF m 82 #[.val (.long j0), .second, .val (.long j1), .second, .val (.int i2), .val (.long (F_f1 j0 j1)), .second, .val (.long (f0_18_l7 j0 j1 i2)), .second, .val (.int (f0_58_l9 j0 j1 i2)), .val (.int (f0_58_l10 j0 j1 i2)), .unset, .unset] [(.ref b3)]))
  refine Outs.of (U' := T4.setTop (mkF m 107 #[.val (.long j0), .second, .val (.long j1), .second, .val (.int i2), .val (.long (F_f1 j0 j1)), .second, .val (.long (f0_18_l7 j0 j1 i2)), .second, .val (.int (f0_58_l9 j0 j1 i2)), .val (.int (f0_58_l10 j0 j1 i2)), .val (.ref b3), .unset] [(.int (f0_89_s0 j0 j1 i2))])) (fun t k => ?_) ?_
  · refine XS.astore X4.here hx rfl (hb hby at_82) rfl rfl (l' := #[.val (.long j0), .second, .val (.long j1), .second, .val (.int i2), .val (.long (F_f1 j0 j1)), .second, .val (.long (f0_18_l7 j0 j1 i2)), .second, .val (.int (f0_58_l9 j0 j1 i2)), .val (.int (f0_58_l10 j0 j1 i2)), .val (.ref b3), .unset]) rfl ?_
    show Steps p.tables e below (T4.setTop (mkF m 84 #[.val (.long j0), .second, .val (.long j1), .second, .val (.int i2), .val (.long (F_f1 j0 j1)), .second, .val (.long (f0_18_l7 j0 j1 i2)), .second, .val (.int (f0_58_l9 j0 j1 i2)), .val (.int (f0_58_l10 j0 j1 i2)), .val (.ref b3), .unset] [])) _
    refine XS.lload X4.here hx rfl (hb hby at_84) rfl ?_
    show Steps p.tables e below (T4.setTop (mkF m 86 #[.val (.long j0), .second, .val (.long j1), .second, .val (.int i2), .val (.long (F_f1 j0 j1)), .second, .val (.long (f0_18_l7 j0 j1 i2)), .second, .val (.int (f0_58_l9 j0 j1 i2)), .val (.int (f0_58_l10 j0 j1 i2)), .val (.ref b3), .unset] [(.long (F_f1 j0 j1))])) _
    refine XS.lload X4.here hx rfl (hb hby at_86) rfl ?_
    show Steps p.tables e below (T4.setTop (mkF m 88 #[.val (.long j0), .second, .val (.long j1), .second, .val (.int i2), .val (.long (F_f1 j0 j1)), .second, .val (.long (f0_18_l7 j0 j1 i2)), .second, .val (.int (f0_58_l9 j0 j1 i2)), .val (.int (f0_58_l10 j0 j1 i2)), .val (.ref b3), .unset] [(.long (f0_18_l7 j0 j1 i2)), (.long (F_f1 j0 j1))])) _
    refine XS.lcmp X4.here hx rfl (hb hby at_88) rfl ?_
    show Steps p.tables e below (T4.setTop (mkF m 89 #[.val (.long j0), .second, .val (.long j1), .second, .val (.int i2), .val (.long (F_f1 j0 j1)), .second, .val (.long (f0_18_l7 j0 j1 i2)), .second, .val (.int (f0_58_l9 j0 j1 i2)), .val (.int (f0_58_l10 j0 j1 i2)), .val (.ref b3), .unset] [(.int (lcmpW (F_f1 j0 j1) (f0_18_l7 j0 j1 i2)))])) _
    by_cases hc89 : (F_f1 j0 j1) = (f0_18_l7 j0 j1 i2)
    · refine XS.ifNo X4.here hx rfl (hb hby at_89) rfl ((if0 _ _).trans (teq ((lw_eq _ _).mpr hc89)).2) ?_
      show Steps p.tables e below (T4.setTop (mkF m 92 #[.val (.long j0), .second, .val (.long j1), .second, .val (.int i2), .val (.long (F_f1 j0 j1)), .second, .val (.long (f0_18_l7 j0 j1 i2)), .second, .val (.int (f0_58_l9 j0 j1 i2)), .val (.int (f0_58_l10 j0 j1 i2)), .val (.ref b3), .unset] [])) _
      refine XS.iload X4.here hx rfl (hb hby at_92) rfl ?_
      show Steps p.tables e below (T4.setTop (mkF m 94 #[.val (.long j0), .second, .val (.long j1), .second, .val (.int i2), .val (.long (F_f1 j0 j1)), .second, .val (.long (f0_18_l7 j0 j1 i2)), .second, .val (.int (f0_58_l9 j0 j1 i2)), .val (.int (f0_58_l10 j0 j1 i2)), .val (.ref b3), .unset] [(.int (f0_58_l9 j0 j1 i2))])) _
      by_cases hc94 : (f0_58_l9 j0 j1 i2) = (0 : Int32)
      · refine XS.ifYes X4.here hx rfl (pc0 := 94) (pc' := 106) rfl (hb hby at_94) rfl ((if0 _ _).trans (teq hc94).1) (by decide) (by decide) ?_
        show Steps p.tables e below (T4.setTop (mkF m 106 #[.val (.long j0), .second, .val (.long j1), .second, .val (.int i2), .val (.long (F_f1 j0 j1)), .second, .val (.long (f0_18_l7 j0 j1 i2)), .second, .val (.int (f0_58_l9 j0 j1 i2)), .val (.int (f0_58_l10 j0 j1 i2)), .val (.ref b3), .unset] [])) _
        refine XS.iconst X4.here hx rfl (hb hby at_106) ?_
        show Steps p.tables e below (T4.setTop (mkF m 107 #[.val (.long j0), .second, .val (.long j1), .second, .val (.int i2), .val (.long (F_f1 j0 j1)), .second, .val (.long (f0_18_l7 j0 j1 i2)), .second, .val (.int (f0_58_l9 j0 j1 i2)), .val (.int (f0_58_l10 j0 j1 i2)), .val (.ref b3), .unset] [(.int (0 : Int32))])) _
        rw [show (f0_89_s0 j0 j1 i2) = (0 : Int32) from ((if_pos hc89).trans (if_pos hc94))] at k
        exact k
      · refine XS.ifNo X4.here hx rfl (hb hby at_94) rfl ((if0 _ _).trans (feq hc94).1) ?_
        show Steps p.tables e below (T4.setTop (mkF m 97 #[.val (.long j0), .second, .val (.long j1), .second, .val (.int i2), .val (.long (F_f1 j0 j1)), .second, .val (.long (f0_18_l7 j0 j1 i2)), .second, .val (.int (f0_58_l9 j0 j1 i2)), .val (.int (f0_58_l10 j0 j1 i2)), .val (.ref b3), .unset] [])) _
        refine XS.iload X4.here hx rfl (hb hby at_97) rfl ?_
        show Steps p.tables e below (T4.setTop (mkF m 99 #[.val (.long j0), .second, .val (.long j1), .second, .val (.int i2), .val (.long (F_f1 j0 j1)), .second, .val (.long (f0_18_l7 j0 j1 i2)), .second, .val (.int (f0_58_l9 j0 j1 i2)), .val (.int (f0_58_l10 j0 j1 i2)), .val (.ref b3), .unset] [(.int (f0_58_l10 j0 j1 i2))])) _
        by_cases hc99 : (f0_58_l10 j0 j1 i2) = (0 : Int32)
        · refine XS.ifYes X4.here hx rfl (pc0 := 99) (pc' := 106) rfl (hb hby at_99) rfl ((if0 _ _).trans (teq hc99).1) (by decide) (by decide) ?_
          show Steps p.tables e below (T4.setTop (mkF m 106 #[.val (.long j0), .second, .val (.long j1), .second, .val (.int i2), .val (.long (F_f1 j0 j1)), .second, .val (.long (f0_18_l7 j0 j1 i2)), .second, .val (.int (f0_58_l9 j0 j1 i2)), .val (.int (f0_58_l10 j0 j1 i2)), .val (.ref b3), .unset] [])) _
          refine XS.iconst X4.here hx rfl (hb hby at_106) ?_
          show Steps p.tables e below (T4.setTop (mkF m 107 #[.val (.long j0), .second, .val (.long j1), .second, .val (.int i2), .val (.long (F_f1 j0 j1)), .second, .val (.long (f0_18_l7 j0 j1 i2)), .second, .val (.int (f0_58_l9 j0 j1 i2)), .val (.int (f0_58_l10 j0 j1 i2)), .val (.ref b3), .unset] [(.int (0 : Int32))])) _
          rw [show (f0_89_s0 j0 j1 i2) = (0 : Int32) from ((if_pos hc89).trans ((if_neg hc94).trans (if_pos hc99)))] at k
          exact k
        · refine XS.ifNo X4.here hx rfl (hb hby at_99) rfl ((if0 _ _).trans (feq hc99).1) ?_
          show Steps p.tables e below (T4.setTop (mkF m 102 #[.val (.long j0), .second, .val (.long j1), .second, .val (.int i2), .val (.long (F_f1 j0 j1)), .second, .val (.long (f0_18_l7 j0 j1 i2)), .second, .val (.int (f0_58_l9 j0 j1 i2)), .val (.int (f0_58_l10 j0 j1 i2)), .val (.ref b3), .unset] [])) _
          refine XS.iconst X4.here hx rfl (hb hby at_102) ?_
          show Steps p.tables e below (T4.setTop (mkF m 103 #[.val (.long j0), .second, .val (.long j1), .second, .val (.int i2), .val (.long (F_f1 j0 j1)), .second, .val (.long (f0_18_l7 j0 j1 i2)), .second, .val (.int (f0_58_l9 j0 j1 i2)), .val (.int (f0_58_l10 j0 j1 i2)), .val (.ref b3), .unset] [(.int (1 : Int32))])) _
          refine XS.goto X4.here hx rfl (pc0 := 103) (pc' := 107) rfl (hb hby at_103) (by decide) (by decide) ?_
          show Steps p.tables e below (T4.setTop (mkF m 107 #[.val (.long j0), .second, .val (.long j1), .second, .val (.int i2), .val (.long (F_f1 j0 j1)), .second, .val (.long (f0_18_l7 j0 j1 i2)), .second, .val (.int (f0_58_l9 j0 j1 i2)), .val (.int (f0_58_l10 j0 j1 i2)), .val (.ref b3), .unset] [(.int (1 : Int32))])) _
          rw [show (f0_89_s0 j0 j1 i2) = (1 : Int32) from ((if_pos hc89).trans ((if_neg hc94).trans (if_neg hc99)))] at k
          exact k
    · refine XS.ifYes X4.here hx rfl (pc0 := 89) (pc' := 106) rfl (hb hby at_89) rfl ((if0 _ _).trans (feq (fun q_ => hc89 ((lw_eq _ _).mp q_))).2) (by decide) (by decide) ?_
      show Steps p.tables e below (T4.setTop (mkF m 106 #[.val (.long j0), .second, .val (.long j1), .second, .val (.int i2), .val (.long (F_f1 j0 j1)), .second, .val (.long (f0_18_l7 j0 j1 i2)), .second, .val (.int (f0_58_l9 j0 j1 i2)), .val (.int (f0_58_l10 j0 j1 i2)), .val (.ref b3), .unset] [])) _
      refine XS.iconst X4.here hx rfl (hb hby at_106) ?_
      show Steps p.tables e below (T4.setTop (mkF m 107 #[.val (.long j0), .second, .val (.long j1), .second, .val (.int i2), .val (.long (F_f1 j0 j1)), .second, .val (.long (f0_18_l7 j0 j1 i2)), .second, .val (.int (f0_58_l9 j0 j1 i2)), .val (.int (f0_58_l10 j0 j1 i2)), .val (.ref b3), .unset] [(.int (0 : Int32))])) _
      rw [show (f0_89_s0 j0 j1 i2) = (0 : Int32) from (if_neg hc89)] at k
      exact k
  refine Outs.of (U' := T4.setTop (mkF m 111 #[.val (.long j0), .second, .val (.long j1), .second, .val (.int i2), .val (.long (F_f1 j0 j1)), .second, .val (.long (f0_18_l7 j0 j1 i2)), .second, .val (.int (f0_58_l9 j0 j1 i2)), .val (.int (f0_58_l10 j0 j1 i2)), .val (.ref b3), .val (.int (f0_89_s0 j0 j1 i2))] [(.ref b3)])) (fun t k => ?_) ?_
  · refine XS.istore X4.here hx rfl (hb hby at_107) rfl (l' := #[.val (.long j0), .second, .val (.long j1), .second, .val (.int i2), .val (.long (F_f1 j0 j1)), .second, .val (.long (f0_18_l7 j0 j1 i2)), .second, .val (.int (f0_58_l9 j0 j1 i2)), .val (.int (f0_58_l10 j0 j1 i2)), .val (.ref b3), .val (.int (f0_89_s0 j0 j1 i2))]) rfl ?_
    show Steps p.tables e below (T4.setTop (mkF m 109 #[.val (.long j0), .second, .val (.long j1), .second, .val (.int i2), .val (.long (F_f1 j0 j1)), .second, .val (.long (f0_18_l7 j0 j1 i2)), .second, .val (.int (f0_58_l9 j0 j1 i2)), .val (.int (f0_58_l10 j0 j1 i2)), .val (.ref b3), .val (.int (f0_89_s0 j0 j1 i2))] [])) _
    refine XS.aload X4.here hx rfl (hb hby at_109) rfl rfl ?_
    show Steps p.tables e below (T4.setTop (mkF m 111 #[.val (.long j0), .second, .val (.long j1), .second, .val (.int i2), .val (.long (F_f1 j0 j1)), .second, .val (.long (f0_18_l7 j0 j1 i2)), .second, .val (.int (f0_58_l9 j0 j1 i2)), .val (.int (f0_58_l10 j0 j1 i2)), .val (.ref b3), .val (.int (f0_89_s0 j0 j1 i2))] [(.ref b3)])) _
    exact k
  obtain ⟨cq5, kq5, q5a, q5b, q5c⟩ := isOf hZ rfl u4_0
  obtain ⟨_, _, ⟨T5, L5, k5, n5⟩, -, X5, ⟨Lc5, hQ5, l5, y5, z5⟩, st5⟩ := X4.virtualBack hx (y := (⟨"com/example/palimpsest/palimpsest/sql/KeyRange", "isPoint", "()Z"⟩ : MethodName)) (z := (⟨"com/example/palimpsest/palimpsest/sql/KeyRange", "isPoint", "()Z"⟩ : MethodName)) hown (mvT hZ (hw _ (List.mem_of_getElem? (i := 24) rfl))) (mvT hZ (hw _ (List.mem_of_getElem? (i := 25) rfl))) (notFace_of_selects (args := #[]) (mvT hZ (hw _ (List.mem_of_getElem? (i := 27) rfl)))) (mvT hZ (hw _ (List.mem_of_getElem? (i := 27) rfl))) (mvT hZ (hw _ (List.mem_of_getElem? (i := 26) rfl))) (by decide) (backOf (W := 0) (rm5 l Z a0 hw [] b3 (F_f1 j0 j1) (nar .boolean (f0_58_l9 j0 j1 i2)) (f0_18_l7 j0 j1 i2) T4.heap n0 u4_1 u4_2 u4_3) hZ (hw _ (List.mem_of_getElem? (i := 28) rfl)) (hw _ (List.mem_of_getElem? (i := 9) rfl)) (by decide) (by decide)) q5a q5c (g := (mkF m 111 #[.val (.long j0), .second, .val (.long j1), .second, .val (.int i2), .val (.long (F_f1 j0 j1)), .second, .val (.long (f0_18_l7 j0 j1 i2)), .second, .val (.int (f0_58_l9 j0 j1 i2)), .val (.int (f0_58_l10 j0 j1 i2)), .val (.ref b3), .val (.int (f0_89_s0 j0 j1 i2))] [(.ref b3)])) rfl (by rw [hml]; rfl) (Steps.refl _) (argsL := []) (rest := []) (lenOf pd_3 rfl) rfl (by show 2 * 0 + _ ≤ _; exact Nat.le_of_eq rfl) (hb hby at_111) (fun _ _ => ⟨rfl, rfl, (by decide : 1 + 0 ≤ _), (by decide : 4 + 0 ≤ _)⟩)
  dsimp only [Pt.U, Pt.locs, Pt.cells, Pt.slots] at X5 l5 y5 z5 st5 hQ5
  subst l5 y5 z5
  obtain ⟨rfl, N5q, e5⟩ := hQ5
  have N5 := Fr.app N4 N5q
  refine Outs.to st5 ?_
  show Outs p e below s _ _ _ (T5.setTop (mkF m 114 #[.val (.long j0), .second, .val (.long j1), .second, .val (.int i2), .val (.long (F_f1 j0 j1)), .second, .val (.long (f0_18_l7 j0 j1 i2)), .second, .val (.int (f0_58_l9 j0 j1 i2)), .val (.int (f0_58_l10 j0 j1 i2)), .val (.ref b3), .val (.int (f0_89_s0 j0 j1 i2))] [(.int (F_f5 (F_f1 j0 j1) (nar .boolean (f0_58_l9 j0 j1 i2)) (f0_18_l7 j0 j1 i2)))]))
  refine Outs.of (U' := T5.setTop (mkF m 124 #[.val (.long j0), .second, .val (.long j1), .second, .val (.int i2), .val (.long (F_f1 j0 j1)), .second, .val (.long (f0_18_l7 j0 j1 i2)), .second, .val (.int (f0_58_l9 j0 j1 i2)), .val (.int (f0_58_l10 j0 j1 i2)), .val (.ref b3), .val (.int (f0_89_s0 j0 j1 i2))] [(.int (f0_116_s0 j0 j1 i2))])) (fun t k => ?_) ?_
  · refine XS.iload X5.here hx rfl (hb hby at_114) rfl ?_
    show Steps p.tables e below (T5.setTop (mkF m 116 #[.val (.long j0), .second, .val (.long j1), .second, .val (.int i2), .val (.long (F_f1 j0 j1)), .second, .val (.long (f0_18_l7 j0 j1 i2)), .second, .val (.int (f0_58_l9 j0 j1 i2)), .val (.int (f0_58_l10 j0 j1 i2)), .val (.ref b3), .val (.int (f0_89_s0 j0 j1 i2))] [(.int (f0_89_s0 j0 j1 i2)), (.int (F_f5 (F_f1 j0 j1) (nar .boolean (f0_58_l9 j0 j1 i2)) (f0_18_l7 j0 j1 i2)))])) _
    by_cases hc116 : (F_f5 (F_f1 j0 j1) (nar .boolean (f0_58_l9 j0 j1 i2)) (f0_18_l7 j0 j1 i2)) = (f0_89_s0 j0 j1 i2)
    · refine XS.icmpNo X5.here hx rfl (hb hby at_116) rfl (teq hc116).2 ?_
      show Steps p.tables e below (T5.setTop (mkF m 119 #[.val (.long j0), .second, .val (.long j1), .second, .val (.int i2), .val (.long (F_f1 j0 j1)), .second, .val (.long (f0_18_l7 j0 j1 i2)), .second, .val (.int (f0_58_l9 j0 j1 i2)), .val (.int (f0_58_l10 j0 j1 i2)), .val (.ref b3), .val (.int (f0_89_s0 j0 j1 i2))] [])) _
      refine XS.iconst X5.here hx rfl (hb hby at_119) ?_
      show Steps p.tables e below (T5.setTop (mkF m 120 #[.val (.long j0), .second, .val (.long j1), .second, .val (.int i2), .val (.long (F_f1 j0 j1)), .second, .val (.long (f0_18_l7 j0 j1 i2)), .second, .val (.int (f0_58_l9 j0 j1 i2)), .val (.int (f0_58_l10 j0 j1 i2)), .val (.ref b3), .val (.int (f0_89_s0 j0 j1 i2))] [(.int (1 : Int32))])) _
      refine XS.goto X5.here hx rfl (pc0 := 120) (pc' := 124) rfl (hb hby at_120) (by decide) (by decide) ?_
      show Steps p.tables e below (T5.setTop (mkF m 124 #[.val (.long j0), .second, .val (.long j1), .second, .val (.int i2), .val (.long (F_f1 j0 j1)), .second, .val (.long (f0_18_l7 j0 j1 i2)), .second, .val (.int (f0_58_l9 j0 j1 i2)), .val (.int (f0_58_l10 j0 j1 i2)), .val (.ref b3), .val (.int (f0_89_s0 j0 j1 i2))] [(.int (1 : Int32))])) _
      rw [show (f0_116_s0 j0 j1 i2) = (1 : Int32) from (if_pos hc116)] at k
      exact k
    · refine XS.icmpYes X5.here hx rfl (pc0 := 116) (pc' := 123) rfl (hb hby at_116) rfl (feq hc116).2 (by decide) (by decide) ?_
      show Steps p.tables e below (T5.setTop (mkF m 123 #[.val (.long j0), .second, .val (.long j1), .second, .val (.int i2), .val (.long (F_f1 j0 j1)), .second, .val (.long (f0_18_l7 j0 j1 i2)), .second, .val (.int (f0_58_l9 j0 j1 i2)), .val (.int (f0_58_l10 j0 j1 i2)), .val (.ref b3), .val (.int (f0_89_s0 j0 j1 i2))] [])) _
      refine XS.iconst X5.here hx rfl (hb hby at_123) ?_
      show Steps p.tables e below (T5.setTop (mkF m 124 #[.val (.long j0), .second, .val (.long j1), .second, .val (.int i2), .val (.long (F_f1 j0 j1)), .second, .val (.long (f0_18_l7 j0 j1 i2)), .second, .val (.int (f0_58_l9 j0 j1 i2)), .val (.int (f0_58_l10 j0 j1 i2)), .val (.ref b3), .val (.int (f0_89_s0 j0 j1 i2))] [(.int (0 : Int32))])) _
      rw [show (f0_116_s0 j0 j1 i2) = (0 : Int32) from (if_neg hc116)] at k
      exact k
  exact Outs.retN (t := .boolean) (z := (f0_116_s0 j0 j1 i2)) X5 hx hret (by simp) (hb hby at_124) hlk (by decide) (by decide) e5 ⟨congrArg (fun z_ => some (Value.int z_)) (law_true j0 j1 i2), N5⟩
set_option maxRecDepth 65536 in
set_option maxHeartbeats 40000000 in
theorem comes_1 {Post : Tables → Env → Array Value → State → Outcome → State → Prop} (hpost : ∀ tb e args s v u, (limb_1_1.after args s (.returned v) u = true ∧ limb_1_2.after args s (.returned v) u = true ∧ True) → FrameEnd s (.returned v) u (Jvm.fieldLocs frame_1_writes args s ++ Jvm.arrayLocs frame_1_arrays args s ++ Jvm.staticLocs frame_1_statics s) 16 128 → Post tb e args s (.returned v) u) :
    ArmFor flags0 classFile x code maxLocals ret World_1 tables_1 room_1 Calls_1 rest_1 Pre_1 Post := by
  intro l hfl _ _ p e ha hc hk s m args below hf hA hF happ hP
  obtain ⟨hcalls, hrest, hpre⟩ := hP
  obtain ⟨-, -, -, hnamed, -, -, -, hat⟩ := (Spec.applies_iff hf).mp happ
  obtain ⟨hg, hn⟩ := and_e (Cond.before_iff.mp (show (Jvm.Cond.and given_1 narrow_1).before args s = true from hpre))
  obtain ⟨g1, g2⟩ := and_e hg
  obtain ⟨g3, g4⟩ := and_e g2
  obtain ⟨g5, g6⟩ := and_e g4
  obtain ⟨w0, w1, w2, rfl⟩ : ∃ w0 w1 w2 : Value, args = #[w0, w1, w2] := by
    have hs : args.size = 3 := by simpa [Cond.value, given_1] using g1
    obtain ⟨L⟩ := args
    match L, hs with
    | [w0, w1, w2], _ => exact ⟨w0, w1, w2, rfl⟩
  have hw := fun d (hd : d ∈ tables_1) => atoms_spec (ws := Jvm.Cond.code x code maxLocals ret :: tables_1) hat d (List.mem_cons_of_mem _ hd)
  obtain ⟨i0, ei0⟩ := isL_v g3
  obtain rfl : w0 = (.long i0) := Option.some.inj ei0
  obtain ⟨i1, ei1⟩ := isL_v g5
  obtain rfl : w1 = (.long i1) := Option.some.inj ei1
  obtain ⟨i2, ei2⟩ := is_v g6
  obtain rfl : w2 = (.int i2) := Option.some.inj ei2
  obtain ⟨n, o, h1, h2, h3, v, L, rfl, hQ0, hq⟩ := rm0 l s _ hw tables_1 i0 i1 i2 s.heap s.heap.size (Nat.le_refl _) p e ha hc hk s m _ below hf ((Spec.applies_iff_loose hf).mp happ).1 ⟨rfl, State.Warmed39.refl s, rfl⟩ trivial
  obtain ⟨rfl, N⟩ : v = some (.int 1) ∧ Fr s.heap.size L := hQ0
  refine ⟨n, _, h1, h2, h3, hpost _ _ _ _ _ _ ⟨Cond.after_iff.mpr rfl, Cond.after_iff.mpr (eq_i res_at (Term.int_eval (1)) rfl), trivial⟩ ⟨hq.1, hq.2.1, (hq.2.2.sift fun y hy => Or.inr (N y hy)).mono (by decide) (by decide)⟩⟩
theorem main_1_1 : Claimed_1_1 := comes_1 fun _ _ _ _ _ _ h hF => ⟨h.1, hF⟩
theorem main_1_2 : Claimed_1_2 := comes_1 fun _ _ _ _ _ _ h hF => ⟨h.2.1, hF⟩
end Jvm.Pilot.@@N@@
namespace Jvm.Pilot.@@N@@
open Jvm Jvm.ClassFile Sem Op Lib Jvm.Free Jvm.Stand Jvm.Pilot.@@N@@.Jvm.D
/-! MADE BY PROGRAM (witnessworld.py) out of the Statement's table words and the real class files: 10 classes; the members and pool entries that the words name. The judged class is class 1, her method 1. -/
namespace start1
open Jvm.ClassFile
def u (s : String) : CpInfo := .utf8 (stringToUtf16 s)
/-- a pool by its gaps: so many unusable entries, then the entry; so many at the end -/
def gap : Nat → List CpInfo → List CpInfo
  | 0, r => r
  | n + 1, r => .unusable :: gap n r
def poolList (es : List (Nat × CpInfo)) (last : Nat) : List CpInfo := es.foldr (fun e r => gap e.1 (e.2 :: r)) (gap last [])
def pool (es : List (Nat × CpInfo)) (last : Nat) : Array CpInfo := ⟨poolList es last⟩
def fileOf (pool : Array CpInfo) (this : Nat) (attrs : Array Attribute := #[]) (ms : Array MethodInfo := #[]) (fl : Nat := 33) (sup : Nat := 0) (ifs : Array Nat := #[]) (fds : Array FieldInfo := #[]) : ClassFile where
  minorVersion := 0
  majorVersion := 65
  constantPool := pool
  accessFlags := fl
  thisClass := this
  superClass := sup
  interfaces := ifs
  fields := fds
  methods := ms
  attributes := attrs
def plain (name : String) (sup : Option ClassId) : Class where
  name := name
  kind := .ordinary
  loader := none
  accessFlags := 33
  super := sup
  interfaces := #[]
  cf := none
  fields := #[]
  methods := #[]
  instanceTypes := #[]
  staticTypes := #[]
  resolved := #[]
  callSites := []
  init := .initialized
  statics := none
  mirror := none

def pool0 : Array CpInfo := pool [(5, u "<init>"), (0, u "()V"), (1, .class_ 10), (1, u "java/lang/Object")] 113

def k0c0 : Code := { maxStack := 0, maxLocals := 1, code := object_method_1_code, exceptionTable := #[], attributes := #[] }
def k0m0 : Method := { name := "<init>", desc := "()V", sig := { parameters := [], returnType := none }, accessFlags := 1, code := some k0c0 }
/-- java/lang/Object -/
def k0 : Class := { plain "java/lang/Object" none with
  accessFlags := 33
  interfaces := #[]
  cf := some (fileOf pool0 8 #[] #[{ accessFlags := 1, nameIndex := 5, descriptorIndex := 6, attributes := #[] }] 33 0 #[] #[])
  fields := #[]
  methods := #[k0m0]
  instanceTypes := #[]
  staticTypes := #[]
  resolved := Array.replicate 124 none
  statics := none }

def pool1 : Array CpInfo := pool [(2, .class_ 4), (1, u "java/lang/Object"), (0, u "<init>"), (0, u "()V"), (0, .methodref 8 9), (0, .class_ 10), (0, .nameAndType 11 12), (0, u "java/lang/Math"), (0, u "min"), (0, u "(JJ)J"), (0, .methodref 8 14), (0, .nameAndType 15 12), (0, u "max"), (0, .class_ 17), (0, u "com/example/palimpsest/palimpsest/sql/KeyRange"), (0, .methodref 16 19), (0, .nameAndType 5 20), (0, u "(JZJZ)V"), (0, .methodref 16 22), (0, .nameAndType 23 24), (0, u "isPoint"), (0, u "()Z"), (0, .class_ 26), (0, u "com/example/palimpsest/palimpsest/sql/KeyRangeIsPointPinLaw"), (2, u "law"), (0, u "(JJI)Z")] 3

def k1m0 : Method := { name := "<init>", desc := "()V", sig := { parameters := [], returnType := none }, accessFlags := 1, code := none }
def k1c1 : Code := { maxStack := 8, maxLocals := 13, code := code, exceptionTable := #[], attributes := #[] }
def k1m1 : Method := { name := "law", desc := "(JJI)Z", sig := { parameters := [.long, .long, .int], returnType := some .boolean }, accessFlags := 9, code := some k1c1 }
/-- com/example/palimpsest/palimpsest/sql/KeyRangeIsPointPinLaw -/
def k1 : Class := { plain "com/example/palimpsest/palimpsest/sql/KeyRangeIsPointPinLaw" (some 0) with
  accessFlags := 49
  interfaces := #[]
  cf := some (fileOf pool1 25 #[] #[{ accessFlags := 1, nameIndex := 5, descriptorIndex := 6, attributes := #[] }, { accessFlags := 9, nameIndex := 29, descriptorIndex := 30, attributes := #[] }] 49 2 #[] #[])
  fields := #[]
  methods := #[k1m0, k1m1]
  instanceTypes := #[]
  staticTypes := #[]
  resolved := Array.replicate 34 none
  statics := none }

def pool2 : Array CpInfo := pool [(1, .class_ 2), (0, u "java/lang/Math"), (1, .class_ 6), (1, u "java/lang/Object"), (0, u "<init>"), (0, u "()V"), (89, .class_ 100), (1, u "java/lang/Math$RandomNumberGeneratorHolder"), (20, u "(JJ)J"), (50, u "negativeZeroFloatBits"), (0, u "J"), (2, u "negativeZeroDoubleBits"), (21, u "max"), (2, u "min"), (43, u "$assertionsDisabled"), (0, u "Z"), (91, u "twoToTheDoubleScaleDown"), (0, u "D"), (4, u "twoToTheDoubleScaleUp"), (9, u "E"), (3, u "PI"), (2, u "TAU"), (2, u "DEGREES_TO_RADIANS"), (0, u "RADIANS_TO_DEGREES")] 94

def k2m0 : Method := { name := "<init>", desc := "()V", sig := { parameters := [], returnType := none }, accessFlags := 2, code := none }
def k2c1 : Code := { maxStack := 4, maxLocals := 4, code := jdk_29_method_66_code, exceptionTable := #[], attributes := #[] }
def k2m1 : Method := { name := "max", desc := "(JJ)J", sig := { parameters := [.long, .long], returnType := some .long }, accessFlags := 9, code := some k2c1 }
def k2c2 : Code := { maxStack := 4, maxLocals := 4, code := jdk_29_method_70_code, exceptionTable := #[], attributes := #[] }
def k2m2 : Method := { name := "min", desc := "(JJ)J", sig := { parameters := [.long, .long], returnType := some .long }, accessFlags := 9, code := some k2c2 }
/-- java/lang/Math -/
def k2 : Class := { plain "java/lang/Math" (some 0) with
  accessFlags := 49
  interfaces := #[]
  cf := some (fileOf pool2 1 #[.nestMembers #[98]] #[{ accessFlags := 2, nameIndex := 7, descriptorIndex := 8, attributes := #[] }, { accessFlags := 9, nameIndex := 198, descriptorIndex := 121, attributes := #[] }, { accessFlags := 9, nameIndex := 201, descriptorIndex := 121, attributes := #[] }] 49 4 #[] #[{ accessFlags := 25, nameIndex := 354, descriptorIndex := 339, attributes := #[] }, { accessFlags := 25, nameIndex := 358, descriptorIndex := 339, attributes := #[] }, { accessFlags := 25, nameIndex := 361, descriptorIndex := 339, attributes := #[] }, { accessFlags := 26, nameIndex := 364, descriptorIndex := 339, attributes := #[] }, { accessFlags := 26, nameIndex := 365, descriptorIndex := 339, attributes := #[] }, { accessFlags := 26, nameIndex := 172, descriptorIndex := 173, attributes := #[] }, { accessFlags := 26, nameIndex := 176, descriptorIndex := 173, attributes := #[] }, { accessFlags := 8, nameIndex := 344, descriptorIndex := 339, attributes := #[] }, { accessFlags := 8, nameIndex := 338, descriptorIndex := 339, attributes := #[] }, { accessFlags := 4120, nameIndex := 245, descriptorIndex := 246, attributes := #[] }])
  fields := #[{ name := "E", type := .double, accessFlags := 25, slot := 0, constantValue := 0 }, { name := "PI", type := .double, accessFlags := 25, slot := 1, constantValue := 0 }, { name := "TAU", type := .double, accessFlags := 25, slot := 2, constantValue := 0 }, { name := "DEGREES_TO_RADIANS", type := .double, accessFlags := 26, slot := 3, constantValue := 0 }, { name := "RADIANS_TO_DEGREES", type := .double, accessFlags := 26, slot := 4, constantValue := 0 }, { name := "negativeZeroFloatBits", type := .long, accessFlags := 26, slot := 5, constantValue := 0 }, { name := "negativeZeroDoubleBits", type := .long, accessFlags := 26, slot := 6, constantValue := 0 }, { name := "twoToTheDoubleScaleUp", type := .double, accessFlags := 8, slot := 7, constantValue := 0 }, { name := "twoToTheDoubleScaleDown", type := .double, accessFlags := 8, slot := 8, constantValue := 0 }, { name := "$assertionsDisabled", type := .boolean, accessFlags := 4120, slot := 9, constantValue := 0 }]
  methods := #[k2m0, k2m1, k2m2]
  instanceTypes := #[]
  staticTypes := #[.double, .double, .double, .double, .double, .long, .long, .double, .double, .boolean]
  resolved := Array.replicate 460 none
  statics := none }

def pool3 : Array CpInfo := pool [(1, .methodref 2 3), (0, .class_ 4), (0, .nameAndType 5 6), (0, u "java/lang/Object"), (0, u "<init>"), (0, u "()V"), (0, .fieldref 8 9), (0, .class_ 10), (0, .nameAndType 11 12), (0, u "com/example/palimpsest/palimpsest/sql/KeyRange"), (0, u "low"), (0, u "J"), (0, .fieldref 8 14), (0, .nameAndType 15 16), (0, u "lowInclusive"), (0, u "Z"), (0, .fieldref 8 18), (0, .nameAndType 19 12), (0, u "high"), (0, .fieldref 8 21), (0, .nameAndType 22 16), (0, u "highInclusive"), (28, u "(JZJZ)V"), (8, u "()Z"), (2, u "isPoint")] 21

def k3c0 : Code := { maxStack := 3, maxLocals := 7, code := prog_74_method_1_code, exceptionTable := #[], attributes := #[] }
def k3m0 : Method := { name := "<init>", desc := "(JZJZ)V", sig := { parameters := [.long, .boolean, .long, .boolean], returnType := none }, accessFlags := 0, code := some k3c0 }
def k3c1 : Code := { maxStack := 4, maxLocals := 1, code := prog_74_method_7_code, exceptionTable := #[], attributes := #[] }
def k3m1 : Method := { name := "isPoint", desc := "()Z", sig := { parameters := [], returnType := some .boolean }, accessFlags := 1, code := some k3c1 }
/-- com/example/palimpsest/palimpsest/sql/KeyRange -/
def k3 : Class := { plain "com/example/palimpsest/palimpsest/sql/KeyRange" (some 0) with
  accessFlags := 49
  interfaces := #[]
  cf := some (fileOf pool3 8 #[] #[{ accessFlags := 0, nameIndex := 5, descriptorIndex := 51, attributes := #[] }, { accessFlags := 1, nameIndex := 63, descriptorIndex := 60, attributes := #[] }] 49 2 #[] #[{ accessFlags := 18, nameIndex := 11, descriptorIndex := 12, attributes := #[] }, { accessFlags := 18, nameIndex := 15, descriptorIndex := 16, attributes := #[] }, { accessFlags := 18, nameIndex := 19, descriptorIndex := 12, attributes := #[] }, { accessFlags := 18, nameIndex := 22, descriptorIndex := 16, attributes := #[] }])
  fields := #[{ name := "low", type := .long, accessFlags := 18, slot := 0, constantValue := 0 }, { name := "lowInclusive", type := .boolean, accessFlags := 18, slot := 1, constantValue := 0 }, { name := "high", type := .long, accessFlags := 18, slot := 2, constantValue := 0 }, { name := "highInclusive", type := .boolean, accessFlags := 18, slot := 3, constantValue := 0 }]
  methods := #[k3m0, k3m1]
  instanceTypes := #[.long, .boolean, .long, .boolean]
  staticTypes := #[]
  resolved := Array.replicate 85 none
  statics := none }

def pool4 : Array CpInfo := pool [(1, u "java/lang/Cloneable"), (0, .class_ 1), (0, u "java/lang/Object"), (0, .class_ 3)] 3

/-- java/lang/Cloneable -/
def k4 : Class := { plain "java/lang/Cloneable" (some 0) with
  accessFlags := 1537
  interfaces := #[]
  cf := some (fileOf pool4 2 #[] #[] 1537 4 #[] #[])
  fields := #[]
  methods := #[]
  instanceTypes := #[]
  staticTypes := #[]
  resolved := Array.replicate 8 none
  statics := none }

def pool5 : Array CpInfo := pool [(1, u "java/io/Serializable"), (0, .class_ 1), (0, u "java/lang/Object"), (0, .class_ 3)] 3

/-- java/io/Serializable -/
def k5 : Class := { plain "java/io/Serializable" (some 0) with
  accessFlags := 1537
  interfaces := #[]
  cf := some (fileOf pool5 2 #[] #[] 1537 4 #[] #[])
  fields := #[]
  methods := #[]
  instanceTypes := #[]
  staticTypes := #[]
  resolved := Array.replicate 8 none
  statics := none }

/-- the primitive byte -/
def k6 : Class := { plain "byte" none with kind := .primitive 'B', accessFlags := 0x411 }
/-- [B -/
def k7 : Class := { plain "[B" (some 0) with kind := .array 6 .byte, interfaces := #[4, 5], accessFlags := 1041 }

/-- the primitive int -/
def k8 : Class := { plain "int" none with kind := .primitive 'I', accessFlags := 0x411 }
/-- [I -/
def k9 : Class := { plain "[I" (some 0) with kind := .array 8 .int, interfaces := #[4, 5], accessFlags := 1041 }

def heap : Heap := #[]
def classes : Array Class := #[k0, k1, k2, k3, k4, k5, k6, k7, k8, k9]
def interned : List (Array UInt16 × Addr) := []
def slotsUsed : Nat := 0
def theMethod : MethodId := ⟨1, 1⟩
def args0 : Array Value := #[.long 5, .long 7, .int 1]
def aboutOver (below : List Frame) : State where
  vm := { classes := classes, interned := interned.toArray }
  heap := heap
  slotsUsed := slotsUsed
  threads := #[{ frames := .invoking theMethod args0 :: below }]
def below0 : List Frame := [.native { method := ⟨0, 0⟩, args := #[] }]
def about1 : State := aboutOver below0
def p0 : Program := .bare "" "" ""
def e0 : Env := launch0.env 0 0 0
theorem w_frames : about1.frames = Frame.invoking theMethod args0 :: below0 := rfl
set_option maxRecDepth 65536 in
theorem w_args : argsFit about1.vm theMethod args0 = true := by decide +kernel
set_option maxRecDepth 65536 in
theorem w_heap : heapFits about1 = true := by decide +kernel
set_option maxRecDepth 65536 in
theorem w_runnable : about1.curStatus? = some .runnable := by decide +kernel
set_option maxRecDepth 65536 in
theorem w_alone : about1.alone = true := by decide +kernel
set_option maxRecDepth 65536 in
theorem w_named : about1.methodNamed? x = some theMethod := by decide +kernel
set_option maxRecDepth 65536 in
theorem w_hears : about1.hears theMethod below0 = true := by decide +kernel
set_option maxRecDepth 65536 in
theorem w_ripe : about1.ripe theMethod args0 below0 = true := by decide +kernel
theorem w_running : about1.status = .running := rfl
set_option maxRecDepth 65536 in
theorem w_room : about1.hasRoom e0.platform room_1 = true :=
  launch0.hasRoom_least _ room_1 (by decide +kernel) (by decide +kernel) (by decide +kernel) (by decide +kernel) (by decide +kernel) (by decide +kernel)
theorem allAtoms_all (ts : List Jvm.Cond) (a : Array Jvm.Value) (st : Jvm.State) : (allAtoms ts).before a st = ts.all (fun c => c.before a st) := by
  induction ts with
  | nil => rfl
  | cons c t ih =>
    show (Jvm.Cond.and c (allAtoms t)).before a st = _
    rw [Jvm.Cond.before_and, ih, List.all_cons]
def words1 : List Jvm.Cond := Jvm.Cond.code x code maxLocals ret :: tables_1
/-- a 'code' word, met by the world's own term for the bytes: nothing is compared byte by byte -/
theorem code_word {y : MethodName} {bytes : ByteArray} {mx : Nat} {rt : Option FieldType} {a : Array Value} {s : State} {m : MethodId} {meth : Method} {c : Code} (h1 : s.methodNamed? y = some m) (h2 : s.vm.method? m = some meth) (h3 : meth.code = some c) (h4 : c.code = bytes)
    (h5 : (c.maxLocals == mx && c.exceptionTable.isEmpty && decide (c.maxStack ≤ mostOperands) && decide (meth.sig.returnType = rt) && !meth.locks && decide (parseMethodDescriptor y.desc = some meth.sig)) = true) : (Jvm.Cond.code y bytes mx rt).before a s = true := by
  simp only [Bool.and_eq_true, beq_iff_eq, Bool.not_eq_true', decide_eq_true_eq] at h5
  obtain ⟨⟨⟨⟨⟨g1, g2⟩, g3⟩, g4⟩, g5⟩, g6⟩ := h5
  simp [Cond.before, Cond.holds, Cond.value, h1, h2, h3, h4, g1, g2, g3, g4, g5, g6]
def isCode : Jvm.Cond → Bool
  | .code _ _ _ _ => true
  | _ => false
theorem all_split {L : List Jvm.Cond} {P : Jvm.Cond → Bool} (h1 : L.all (fun c => isCode c || P c) = true) (h2 : ∀ c ∈ L.filter isCode, P c = true) : L.all P = true := by
  refine List.all_eq_true.mpr fun c hc => ?_
  have h := List.all_eq_true.mp h1 c hc
  rcases Bool.eq_false_or_eq_true (isCode c) with hi | hi
  · exact h2 c (List.mem_filter.mpr ⟨hc, hi⟩)
  · simpa [hi] using h
set_option maxRecDepth 65536 in
theorem w_c0 : (Jvm.Cond.code x code maxLocals ret).before args0 about1 = true := code_word (m := ⟨1, 1⟩) (meth := k1m1) (c := k1c1) (by decide +kernel) rfl rfl rfl (by decide +kernel)
set_option maxRecDepth 65536 in
theorem w_c1 : (Jvm.Cond.code ({ cls := "java/lang/Math", name := "min", desc := "(JJ)J" } : Jvm.MethodName) jdk_29_method_70_code (4 : Nat) (Option.some Jvm.ClassFile.FieldType.long)).before args0 about1 = true := code_word (m := ⟨2, 2⟩) (meth := k2m2) (c := k2c2) (by decide +kernel) rfl rfl rfl (by decide +kernel)
set_option maxRecDepth 65536 in
theorem w_c2 : (Jvm.Cond.code ({ cls := "java/lang/Math", name := "max", desc := "(JJ)J" } : Jvm.MethodName) jdk_29_method_66_code (4 : Nat) (Option.some Jvm.ClassFile.FieldType.long)).before args0 about1 = true := code_word (m := ⟨2, 1⟩) (meth := k2m1) (c := k2c1) (by decide +kernel) rfl rfl rfl (by decide +kernel)
set_option maxRecDepth 65536 in
theorem w_c3 : (Jvm.Cond.code ({ cls := "com/example/palimpsest/palimpsest/sql/KeyRange", name := "<init>", desc := "(JZJZ)V" } : Jvm.MethodName) prog_74_method_1_code (7 : Nat) (Option.none : Option Jvm.ClassFile.FieldType)).before args0 about1 = true := code_word (m := ⟨3, 0⟩) (meth := k3m0) (c := k3c0) (by decide +kernel) rfl rfl rfl (by decide +kernel)
set_option maxRecDepth 65536 in
theorem w_c4 : (Jvm.Cond.code ({ cls := "java/lang/Object", name := "<init>", desc := "()V" } : Jvm.MethodName) object_method_1_code (1 : Nat) (Option.none : Option Jvm.ClassFile.FieldType)).before args0 about1 = true := code_word (m := ⟨0, 0⟩) (meth := k0m0) (c := k0c0) (by decide +kernel) rfl rfl rfl (by decide +kernel)
set_option maxRecDepth 65536 in
theorem w_c5 : (Jvm.Cond.code ({ cls := "com/example/palimpsest/palimpsest/sql/KeyRange", name := "isPoint", desc := "()Z" } : Jvm.MethodName) prog_74_method_7_code (1 : Nat) (Option.some Jvm.ClassFile.FieldType.boolean)).before args0 about1 = true := code_word (m := ⟨3, 1⟩) (meth := k3m1) (c := k3c1) (by decide +kernel) rfl rfl rfl (by decide +kernel)
def codes1 : List Jvm.Cond := [Jvm.Cond.code x code maxLocals ret, Jvm.Cond.code ({ cls := "java/lang/Math", name := "min", desc := "(JJ)J" } : Jvm.MethodName) jdk_29_method_70_code (4 : Nat) (Option.some Jvm.ClassFile.FieldType.long), Jvm.Cond.code ({ cls := "java/lang/Math", name := "max", desc := "(JJ)J" } : Jvm.MethodName) jdk_29_method_66_code (4 : Nat) (Option.some Jvm.ClassFile.FieldType.long), Jvm.Cond.code ({ cls := "com/example/palimpsest/palimpsest/sql/KeyRange", name := "<init>", desc := "(JZJZ)V" } : Jvm.MethodName) prog_74_method_1_code (7 : Nat) (Option.none : Option Jvm.ClassFile.FieldType), Jvm.Cond.code ({ cls := "java/lang/Object", name := "<init>", desc := "()V" } : Jvm.MethodName) object_method_1_code (1 : Nat) (Option.none : Option Jvm.ClassFile.FieldType), Jvm.Cond.code ({ cls := "com/example/palimpsest/palimpsest/sql/KeyRange", name := "isPoint", desc := "()Z" } : Jvm.MethodName) prog_74_method_7_code (1 : Nat) (Option.some Jvm.ClassFile.FieldType.boolean)]
set_option maxRecDepth 65536 in
theorem codes_eq : words1.filter isCode = codes1 := rfl
theorem w_codes : ∀ c ∈ words1.filter isCode, c.before args0 about1 = true := by
  rw [codes_eq]
  intro c hc
  simp only [codes1, List.mem_cons, List.not_mem_nil, or_false] at hc
  rcases hc with rfl | rfl | rfl | rfl | rfl | rfl
  · exact w_c0
  · exact w_c1
  · exact w_c2
  · exact w_c3
  · exact w_c4
  · exact w_c5
set_option maxRecDepth 65536 in
theorem w_t1 : (words1.take 24).all (fun c => isCode c || c.before args0 about1) = true := by decide +kernel
set_option maxRecDepth 65536 in
theorem w_t2 : (words1.drop 24).all (fun c => isCode c || c.before args0 about1) = true := by decide +kernel
theorem w_tables : (allAtoms (Jvm.Cond.code x code maxLocals ret :: tables_1)).before args0 about1 = true := by
  rw [allAtoms_all]
  show words1.all (fun c => c.before args0 about1) = true
  refine all_split ?_ w_codes
  rw [← List.take_append_drop 24 words1, List.all_append, w_t1, w_t2]
  rfl
set_option maxRecDepth 65536 in
theorem w_case : (Jvm.Cond.and given_1 narrow_1).before args0 about1 = true := by decide +kernel
theorem w_applies : (headSpec (Jvm.Cond.code x code maxLocals ret :: tables_1) room_1).applies x e0.platform about1 = true :=
  (Spec.applies_iff w_frames).mpr ⟨w_running, w_runnable, w_alone, w_named, w_hears, w_ripe, w_room, w_tables⟩
theorem atStart : AtStart classFile x code maxLocals ret World_1 tables_1 room_1 Calls_1 rest_1 Pre_1 launch0 p0 e0 about1 theMethod args0 below0 :=
  ⟨lists_1, trivial, launch0.admits_env _ _ _, launch0.least_env, fairChoices_fair.cas, fairChoices_fair.clock, w_frames, w_args, w_heap, w_applies, trivial, trivial, w_case⟩
end start1
theorem witness_1 : WitnessClaimed_1 := ⟨start1.p0, start1.e0, start1.about1, start1.theMethod, start1.args0, start1.below0, start1.atStart⟩
end Jvm.Pilot.@@N@@
