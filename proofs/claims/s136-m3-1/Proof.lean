import JvmDerived
import JvmDerived.Pilot.@@N@@Statement
import JvmDerived.Pilot.@@N@@Code
set_option linter.unusedVariables false
set_option linter.unusedSimpArgs false
namespace Jvm.RoadKit
open Sem ClassFile Op Lib Jvm.Stand Jvm.Free Jvm.LawKit
section Own
variable {p : Program} {l : Launch} {e : Env} {R : Room} {s : State} {m : MethodId} {args : Array Value} {below : List Frame} {meth : Method} {c : Code} {T : State} {locs : List Loc} {cells slots : Nat}
/-- from U the run ends, and Q holds of what it returns -/
def Outs (p : Program) (e : Env) (below : List Frame) (s : State) (Q : Option Value → Heap → List Loc → Prop) (C S : Nat) (U : State) : Prop :=
  ∃ s₂ o, Steps p.tables e below U s₂ ∧ s₂.status = .running ∧ Ended s₂ below o ∧ ∃ v L, o = .returned v ∧ Q v s₂.heap L ∧ FrameEnd s o s₂ L C S
variable {Q : Option Value → Heap → List Loc → Prop} {C S : Nat}
theorem Outs.of {U U' : State} (h : ∀ t, Steps p.tables e below U' t → Steps p.tables e below U t) (k : Outs p e below s Q C S U') : Outs p e below s Q C S U := by
  obtain ⟨t, o, st, r⟩ := k
  exact ⟨t, o, h t st, r⟩
theorem Outs.to {U U' : State} (h : Steps p.tables e below U U') (k : Outs p e below s Q C S U') : Outs p e below s Q C S U := by
  obtain ⟨t, o, st, r⟩ := k
  exact ⟨t, o, h.trans st, r⟩
theorem Outs.mono {U : State} {Q' : Option Value → Heap → List Loc → Prop} (k : Outs p e below s Q C S U) (h : ∀ v h L, Q v h L → Q' v h L) : Outs p e below s Q' C S U := by
  obtain ⟨t, o, st, h1, h2, v, L, h3, h4, h5⟩ := k
  exact ⟨t, o, st, h1, h2, v, L, h3, h _ _ _ h4, h5⟩
theorem Outs.ret (X : Stand p l e R s m args below meth c T locs cells slots) {g : JFrame} {v : Option Value} (hv : meth.sig.returnType = none → v = none) (hlk : meth.locks = false) (hC : cells ≤ C) (hS : slots ≤ S)
    (st : ∀ fs, (∀ (f : JFrame) (acts : List Action), f.method = m → f.locked = none → f.entered = [] → (doReturn e (T.setTop f) acts v).1 = T.setFrames fs) → Steps p.tables e below (T.setTop g) (T.setFrames fs))
    {h : Heap} (eT : T.heap = h) (q : Q v h locs) : Outs p e below s Q C S (T.setTop g) := by
  subst eT
  obtain ⟨fs, hr, hrun, hended, hW, hsame⟩ := X.leave (v := v) hv hlk
  exact ⟨_, _, st fs hr, hrun, hended, v, locs, rfl, q, ⟨_, rfl⟩, hW, hsame.mono hC hS⟩
theorem Outs.retI (X : Stand p l e R s m args below meth c T locs cells slots) (hx : p.tables.exec = Jvm.exec) {pc : Nat} {Ls : Array Slot} {z : Int32} {rest : List Value} (hret : meth.sig.returnType = some .int) (hd : decode c.code pc = .ok (.ireturn, 1)) (hlk : meth.locks = false) (hC : cells ≤ C) (hS : slots ≤ S)
    {h : Heap} (eT : T.heap = h) (q : Q (some (.int z)) h locs) : Outs p e below s Q C S (T.setTop (mkF m pc Ls (.int z :: rest))) :=
  Outs.ret X (fun h => by rw [hret] at h; cases h) hlk hC hS (fun fs hl => retOut X hx hret rfl (Or.inl ⟨rfl, Or.inl rfl, z, rfl⟩) hd hl) eT q
theorem Outs.retL (X : Stand p l e R s m args below meth c T locs cells slots) (hx : p.tables.exec = Jvm.exec) {pc : Nat} {Ls : Array Slot} {z : Int64} {rest : List Value} (hret : meth.sig.returnType = some .long) (hd : decode c.code pc = .ok (.lreturn, 1)) (hlk : meth.locks = false) (hC : cells ≤ C) (hS : slots ≤ S)
    {h : Heap} (eT : T.heap = h) (q : Q (some (.long z)) h locs) : Outs p e below s Q C S (T.setTop (mkF m pc Ls (.long z :: rest))) :=
  Outs.ret X (fun h => by rw [hret] at h; cases h) hlk hC hS (fun fs hl => retOut X hx hret rfl (Or.inr (Or.inl ⟨rfl, rfl, z, rfl⟩)) hd hl) eT q
theorem Outs.retN (X : Stand p l e R s m args below meth c T locs cells slots) (hx : p.tables.exec = Jvm.exec) {pc : Nat} {Ls : Array Slot} {z : Int32} {t : FieldType} {rest : List Value} (hret : meth.sig.returnType = some t) (ht : t = .boolean ∨ t = .byte ∨ t = .char ∨ t = .short) (hd : decode c.code pc = .ok (.ireturn, 1)) (hlk : meth.locks = false) (hC : cells ≤ C) (hS : slots ≤ S)
    {h : Heap} (eT : T.heap = h) (q : Q (some (.int (nar t z))) h locs) : Outs p e below s Q C S (T.setTop (mkF m pc Ls (.int z :: rest))) :=
  Outs.ret X (fun h => by rw [hret] at h; cases h) hlk hC hS (fun fs hl => Jvm.RoadKit.retN X hx hret ht hd hl) eT q
theorem Outs.retV (X : Stand p l e R s m args below meth c T locs cells slots) (hx : p.tables.exec = Jvm.exec) {pc : Nat} {Ls : Array Slot} (hret : meth.sig.returnType = none) (hd : decode c.code pc = .ok (.return_, 1)) (hlk : meth.locks = false) (hC : cells ≤ C) (hS : slots ≤ S)
    {h : Heap} (eT : T.heap = h) (q : Q none h locs) : Outs p e below s Q C S (T.setTop (mkF m pc Ls [])) :=
  Outs.ret X (fun _ => rfl) hlk hC hS (fun fs hl => X.returnOut hx hret hd hl) eT q
theorem Outs.retA (X : Stand p l e R s m args below meth c T locs cells slots) (hx : p.tables.exec = Jvm.exec) {pc : Nat} {Ls : Array Slot} {w : Value} {t : FieldType} {rest : List Value} (hret : meth.sig.returnType = some t) (ht : t.isReference = true) (hw : w.isRef = true) (hn : narrow t w = w) (hd : decode c.code pc = .ok (.areturn, 1)) (hlk : meth.locks = false) (hC : cells ≤ C) (hS : slots ≤ S)
    {h : Heap} (eT : T.heap = h) (q : Q (some w) h locs) : Outs p e below s Q C S (T.setTop (mkF m pc Ls (w :: rest))) :=
  Outs.ret X (fun h => by rw [hret] at h; cases h) hlk hC hS (fun fs hl => retOut X hx hret hn (Or.inr (Or.inr (Or.inr (Or.inr ⟨rfl, ht, hw⟩)))) hd hl) eT q
theorem lremM {g : JFrame} {target : State} (X : Stand p l e R s m args below meth c T locs cells slots) (hx : p.tables.exec = Jvm.exec) (hg : g.method = m) {x y : Int64} {rest : List Value} (hd : decode c.code g.pc = .ok (.lrem, 1)) (hs : g.stack = .long y :: .long x :: rest) (hy : y ≠ 0)
    (hr : Steps p.tables e below (T.setTop { g with pc := g.pc + 1, stack := .long (x % y) :: rest }) target) : Steps p.tables e below (T.setTop g) target :=
  XS.lrem X.here hx hg hd hs hy (by rw [lrem_mod]; exact hr)
/-- a body that returns v and leaves the heap as it was -/
def QR (z : Option Value) (h0 : Heap) (n0 : Nat) (v : Option Value) (h : Heap) (L : List Loc) : Prop := v = z ∧ Fr n0 L ∧ h = h0
/-- the law's own -/
def QL (n0 : Nat) (v : Option Value) (h : Heap) (L : List Loc) : Prop := v = some (.int 1) ∧ Fr n0 L
end Own
end Jvm.RoadKit
namespace Jvm.RoadKit
open Sem ClassFile Op Lib Jvm.Stand Jvm.Free Jvm.LawKit
section OwnHeap
variable {p : Program} {l : Launch} {e : Env} {R : Room} {s : State} {m : MethodId} {args : Array Value} {below : List Frame} {meth : Method} {c : Code} {T : State} {locs : List Loc} {cells slots : Nat} {Z : State} {a0 : Array Value} {h h' : Heap} {a b : Addr} {ty : FieldType} {n : Nat}
def upd {α : Type} (g : Nat → α) (k : Nat) (v : α) : Nat → α := fun j => if j = k then v else g j
theorem upd_same {α : Type} (g : Nat → α) (k : Nat) (v : α) : upd g k v k = v := if_pos rfl
theorem upd_ne {α : Type} (g : Nat → α) {k j : Nat} (v : α) (q : j ≠ k) : upd g k v j = g j := if_neg q
/-- an array of n places; place j holds f j -/
def AF (Z : State) (h : Heap) (a : Addr) (ty : FieldType) (n : Nat) (f : Nat → Value) : Prop :=
  ∃ c : Cell, Arr Z h a c ty ∧ c.slots.size = n ∧ n < 2147483648 ∧ ∀ j, j < n → c.slots[j]? = some (f j)
def AI (Z : State) (h : Heap) (a : Addr) (ty : FieldType) (n : Nat) (g : Nat → Int32) : Prop := AF Z h a ty n (fun j => .int (g j))
def AJ (Z : State) (h : Heap) (a : Addr) (ty : FieldType) (n : Nat) (g : Nat → Int64) : Prop := AF Z h a ty n (fun j => .long (g j))
theorem AF.lt {f : Nat → Value} (F : AF Z h a ty n f) : a < h.size := by obtain ⟨c, A, -⟩ := F; exact A.lt
theorem AF.ext {f : Nat → Value} (F : AF Z h a ty n f) (E : Ext h h') : AF Z h' a ty n f := by obtain ⟨c, A, r⟩ := F; exact ⟨c, A.ext E, r⟩
theorem AF.other {f : Nat → Value} {sl : Nat} {v : Value} (F : AF Z h b ty n f) (W : Wr h h' a sl v) (q : b ≠ a) : AF Z h' b ty n f := by obtain ⟨c, A, r⟩ := F; exact ⟨c, A.other W q, r⟩
theorem AF.keep {f : Nat → Value} {ws : List Addr} (F : AF Z h a ty n f) (K : Keep h h' ws) (q : a ∉ ws) : AF Z h' a ty n f := by obtain ⟨c, A, r⟩ := F; exact ⟨c, ⟨K.2.1 a c A.1 q, A.2⟩, r⟩
theorem AF.len {f : Nat → Value} (F : AF Z h a ty n f) : n < 2147483648 := by obtain ⟨c, A, -, M, -⟩ := F; exact M
theorem AF.cong {f f' : Nat → Value} (F : AF Z h a ty n f) (q : ∀ j, j < n → f j = f' j) : AF Z h a ty n f' := by
  obtain ⟨c, A, S, M, G⟩ := F
  exact ⟨c, A, S, M, fun j hj => by rw [← q j hj]; exact G j hj⟩
theorem AI.cong {g g' : Nat → Int32} (F : AI Z h a ty n g) (q : ∀ j, j < n → g j = g' j) : AI Z h a ty n g' := AF.cong F fun j hj => by rw [q j hj]
theorem AJ.cong {g g' : Nat → Int64} (F : AJ Z h a ty n g) (q : ∀ j, j < n → g j = g' j) : AJ Z h a ty n g' := AF.cong F fun j hj => by rw [q j hj]
theorem own_nat {j : Int32} {k : Nat} (hk : j.toInt = k) : j.toNatClampNeg = k := by
  show j.toInt.toNat = k
  rw [hk]; rfl
theorem own_in {cl : Cell} {j : Int32} {k : Nat} (S : cl.slots.size = n) (hk : j.toInt = k) (hn : k < n) : ¬ (j < 0 ∨ cl.slots.size ≤ j.toNatClampNeg) := by
  rw [own_nat hk, S, Int32.lt_iff_toInt_lt, hk]
  have : (0 : Int32).toInt = 0 := rfl
  omega
theorem AF.set {f : Nat → Value} {k : Nat} {v : Value} (F : AF Z h a ty n f) (W : Wr h h' a k v) : AF Z h' a ty n (upd f k v) := by
  obtain ⟨c, A, S, M, G⟩ := F
  refine ⟨c.setSlot k v, A.same W, by rw [sz_set]; exact S, M, fun j hj => ?_⟩
  have hz : j < c.slots.size := by omega
  simp only [Cell.setSlot, upd, Array.getElem?_setIfInBounds]
  by_cases q : j = k
  · subst q; simp [hz]
  · rw [if_neg (Ne.symm q), if_neg q]; exact G j hj
theorem AI.set {g : Nat → Int32} {k : Nat} {x : Int32} (F : AI Z h a ty n g) (W : Wr h h' a k (.int x)) : AI Z h' a ty n (upd g k x) :=
  AF.cong (AF.set F W) fun j _ => by simp only [upd]; split <;> rfl
theorem AJ.set {g : Nat → Int64} {k : Nat} {x : Int64} (F : AJ Z h a ty n g) (W : Wr h h' a k (.long x)) : AJ Z h' a ty n (upd g k x) :=
  AF.cong (AF.set F W) fun j _ => by simp only [upd]; split <;> rfl
theorem AF.fresh {k : ClassId} {z : Int32} {i : Nat} (A : Arr Z h a (newA k ty z) ty) (q : z.toInt = i) : AF Z h a ty i (fun _ => defaultValue ty) := by
  have S : (newA k ty z).slots.size = i := by rw [sz_new, own_nat q]
  refine ⟨_, A, S, ?_, fun j hj => ?_⟩
  · have := z.toInt_lt; omega
  · have hz : j < (newA k ty z).slots.size := by omega
    simp only [newA] at hz ⊢
    rw [Array.getElem?_eq_getElem hz]; simp
section Loads
theorem ldI (X : Stand p l e R s m args below meth c T locs cells slots) (hx : p.tables.exec = Jvm.exec) (hZ : Z.Warmed39 s.vm) (eT : T.heap = h) {g : Nat → Int32} (F : AI Z h a .int n g) {j : Int32} {k : Nat} (hk : j.toInt = k) (hn : k < n) {f : JFrame} (hg : f.method = m) {rest : List Value} (hs : f.stack = .int j :: .ref a :: rest) (hd : decode c.code f.pc = .ok (.iaload, 1)) :
    ∀ target, Steps p.tables e below (T.setTop { f with pc := f.pc + 1, stack := .int (g k) :: rest }) target → Steps p.tables e below (T.setTop f) target := by
  obtain ⟨cl, A, S, M, G⟩ := F
  intro target kt
  exact X.iaload hx (by rw [eT]; exact A.1) (State.isArrayOf_alike hZ.alike A.2.1) A.2.2 (own_in S hk hn) (by rw [own_nat hk]; exact G k hn) hg hs hd target kt
theorem ldB (X : Stand p l e R s m args below meth c T locs cells slots) (hx : p.tables.exec = Jvm.exec) (hZ : Z.Warmed39 s.vm) (eT : T.heap = h) {g : Nat → Int32} (F : AI Z h a .byte n g) {j : Int32} {k : Nat} (hk : j.toInt = k) (hn : k < n) {f : JFrame} (hg : f.method = m) {rest : List Value} (hs : f.stack = .int j :: .ref a :: rest) (hd : decode c.code f.pc = .ok (.baload, 1)) :
    ∀ target, Steps p.tables e below (T.setTop { f with pc := f.pc + 1, stack := .int (g k) :: rest }) target → Steps p.tables e below (T.setTop f) target := by
  obtain ⟨cl, A, S, M, G⟩ := F
  intro target kt
  exact X.baloadBytes hx (by rw [eT]; exact A.1) (State.isArrayOf_alike hZ.alike A.2.1) A.2.2 (own_in S hk hn) (by rw [own_nat hk]; exact G k hn) hg hs hd target kt
theorem ldJ (X : Stand p l e R s m args below meth c T locs cells slots) (hx : p.tables.exec = Jvm.exec) (hZ : Z.Warmed39 s.vm) (eT : T.heap = h) {g : Nat → Int64} (F : AJ Z h a .long n g) {j : Int32} {k : Nat} (hk : j.toInt = k) (hn : k < n) {f : JFrame} (hg : f.method = m) {rest : List Value} (hs : f.stack = .int j :: .ref a :: rest) (hd : decode c.code f.pc = .ok (.laload, 1)) :
    ∀ target, Steps p.tables e below (T.setTop { f with pc := f.pc + 1, stack := .long (g k) :: rest }) target → Steps p.tables e below (T.setTop f) target := by
  obtain ⟨cl, A, S, M, G⟩ := F
  intro target kt
  exact X.laload hx (by rw [eT]; exact A.1) (State.isArrayOf_alike hZ.alike A.2.1) A.2.2 (own_in S hk hn) (by rw [own_nat hk]; exact G k hn) hg hs hd target kt
theorem ldR (X : Stand p l e R s m args below meth c T locs cells slots) (hx : p.tables.exec = Jvm.exec) (hZ : Z.Warmed39 s.vm) (eT : T.heap = h) {g : Nat → Value} (F : AF Z h a ty n g) (hty : ty.isReference = true) {j : Int32} {k : Nat} (hk : j.toInt = k) (hn : k < n) {f : JFrame} (hg : f.method = m) {rest : List Value} (hs : f.stack = .int j :: .ref a :: rest) (hd : decode c.code f.pc = .ok (.aaload, 1)) :
    ∀ target, Steps p.tables e below (T.setTop { f with pc := f.pc + 1, stack := g k :: rest }) target → Steps p.tables e below (T.setTop f) target := by
  obtain ⟨cl, A, S, M, G⟩ := F
  intro target kt
  exact X.aaload hx (by rw [eT]; exact A.1) (State.isArrayOf_alike hZ.alike A.2.1) hty A.2.2 (own_in S hk hn) (by rw [own_nat hk]; exact G k hn) hg hs hd target kt
theorem alen (X : Stand p l e R s m args below meth c T locs cells slots) (hx : p.tables.exec = Jvm.exec) (hZ : Z.Warmed39 s.vm) (eT : T.heap = h) {g : Nat → Value} (F : AF Z h a ty n g) {z : Int32} (hz : z.toInt = n) {f : JFrame} (hg : f.method = m) {rest : List Value} (hs : f.stack = .ref a :: rest) (hd : decode c.code f.pc = .ok (.arraylength, 1)) :
    ∀ target, Steps p.tables e below (T.setTop { f with pc := f.pc + 1, stack := .int z :: rest }) target → Steps p.tables e below (T.setTop f) target := by
  obtain ⟨cl, A, S, M, G⟩ := F
  intro target kt
  have h0 : ¬ z < 0 := by
    rw [Int32.lt_iff_toInt_lt, hz]
    have : (0 : Int32).toInt = 0 := rfl
    omega
  have q : cl.slots.size.toInt32 = z := by rw [S, ← own_nat hz]; exact (back32 h0).1
  refine X.arraylength hx (by rw [eT]; exact A.1) (State.isArrayOf_alike hZ.alike A.2.1) hg hs hd target ?_
  rw [q]; exact kt
end Loads
section Stores
theorem puI (X : Stand p l e R s m args below meth c T locs cells slots) (hx : p.tables.exec = Jvm.exec) (hZ : Z.Warmed39 s.vm) (eT : T.heap = h) {g : Nat → Int32} (F : AI Z h a .int n g) {j x : Int32} {k : Nat} (hk : j.toInt = k) (hn : k < n) {f : JFrame} (hg : f.method = m) {rest : List Value} (hs : f.stack = .int x :: .int j :: .ref a :: rest) (hd : decode c.code f.pc = .ok (.iastore, 1)) :
    ∃ T' h', Stand p l e R s m args below meth c T' (locs ++ [⟨a, k⟩]) cells slots ∧ T'.heap = h' ∧ Wr h h' a k (.int x) ∧ AI Z h' a .int n (upd g k x) ∧ ∀ target, Steps p.tables e below (T'.setTop { f with pc := f.pc + 1, stack := rest }) target → Steps p.tables e below (T.setTop f) target := by
  obtain ⟨cl, A, S, M, G⟩ := id F
  obtain ⟨T', h', X', e', W, st⟩ := stI X hx hZ eT A (j := j) (own_in S hk hn) hg hs hd
  rw [own_nat hk] at X' W
  exact ⟨T', h', X', e', W, AI.set F W, st⟩
theorem puB (X : Stand p l e R s m args below meth c T locs cells slots) (hx : p.tables.exec = Jvm.exec) (hZ : Z.Warmed39 s.vm) (eT : T.heap = h) {g : Nat → Int32} (F : AI Z h a .byte n g) {j x : Int32} {k : Nat} (hk : j.toInt = k) (hn : k < n) {f : JFrame} (hg : f.method = m) {rest : List Value} (hs : f.stack = .int x :: .int j :: .ref a :: rest) (hd : decode c.code f.pc = .ok (.bastore, 1)) :
    ∃ T' h', Stand p l e R s m args below meth c T' (locs ++ [⟨a, k⟩]) cells slots ∧ T'.heap = h' ∧ Wr h h' a k (.int x.toInt8.toInt32) ∧ AI Z h' a .byte n (upd g k x.toInt8.toInt32) ∧ ∀ target, Steps p.tables e below (T'.setTop { f with pc := f.pc + 1, stack := rest }) target → Steps p.tables e below (T.setTop f) target := by
  obtain ⟨cl, A, S, M, G⟩ := id F
  obtain ⟨T', h', X', e', W, st⟩ := stB X hx hZ eT A (j := j) (own_in S hk hn) hg hs hd
  rw [own_nat hk] at X' W
  exact ⟨T', h', X', e', W, AI.set F W, st⟩
theorem puJ (X : Stand p l e R s m args below meth c T locs cells slots) (hx : p.tables.exec = Jvm.exec) (hZ : Z.Warmed39 s.vm) (eT : T.heap = h) {g : Nat → Int64} (F : AJ Z h a .long n g) {j : Int32} {x : Int64} {k : Nat} (hk : j.toInt = k) (hn : k < n) {f : JFrame} (hg : f.method = m) {rest : List Value} (hs : f.stack = .long x :: .int j :: .ref a :: rest) (hd : decode c.code f.pc = .ok (.lastore, 1)) :
    ∃ T' h', Stand p l e R s m args below meth c T' (locs ++ [⟨a, k⟩]) cells slots ∧ T'.heap = h' ∧ Wr h h' a k (.long x) ∧ AJ Z h' a .long n (upd g k x) ∧ ∀ target, Steps p.tables e below (T'.setTop { f with pc := f.pc + 1, stack := rest }) target → Steps p.tables e below (T.setTop f) target := by
  obtain ⟨cl, A, S, M, G⟩ := id F
  obtain ⟨T', h', X', e', W, st⟩ := stJ X hx hZ eT A (j := j) (own_in S hk hn) hg hs hd
  rw [own_nat hk] at X' W
  exact ⟨T', h', X', e', W, AJ.set F W, st⟩
theorem puR (X : Stand p l e R s m args below meth c T locs cells slots) (hx : p.tables.exec = Jvm.exec) (hZ : Z.Warmed39 s.vm) (eT : T.heap = h) {g : Nat → Value} (F : AF Z h a ty n g) (hty : ty.isReference = true) {j : Int32} {x : Value} (O : Sto Z h a x) {k : Nat} (hk : j.toInt = k) (hn : k < n) {f : JFrame} (hg : f.method = m) {rest : List Value} (hs : f.stack = x :: .int j :: .ref a :: rest) (hd : decode c.code f.pc = .ok (.aastore, 1)) :
    ∃ T' h', Stand p l e R s m args below meth c T' (locs ++ [⟨a, k⟩]) cells slots ∧ T'.heap = h' ∧ Wr h h' a k x ∧ AF Z h' a ty n (upd g k x) ∧ ∀ target, Steps p.tables e below (T'.setTop { f with pc := f.pc + 1, stack := rest }) target → Steps p.tables e below (T.setTop f) target := by
  obtain ⟨cl, A, S, M, G⟩ := id F
  obtain ⟨T', h', X', e', W, st⟩ := stR X hx hZ eT A (j := j) (own_in S hk hn) hty O hg hs hd
  rw [own_nat hk] at X' W
  exact ⟨T', h', X', e', W, AF.set F W, st⟩
theorem newAF (X : Stand p l e R s m args below meth c T locs cells slots) (hx : p.tables.exec = Jvm.exec) (hZ : Z.Warmed39 s.vm) {aty : ArrayType} (w : (Cond.arrayClass (newarray.typeOf aty)).before a0 Z = true) (eT : T.heap = h) {f : JFrame} (hg : f.method = m) (hd : decode c.code f.pc = .ok (.newarray aty, 2)) {z : Int32} {rest : List Value} (hs : f.stack = .int z :: rest)
    {k : Nat} (hk : z.toInt = k) {cap : Nat} (hcap : k ≤ cap) (hb : cap * 8 ≤ 536870912) (hc : cells + 1 ≤ R.cells) (hl : slots + cap ≤ R.slots) :
    ∃ T' h', Stand p l e R s m args below meth c T' locs (cells + 1) (slots + cap) ∧ T'.heap = h' ∧ Ext h h' ∧ AF Z h' h.size (newarray.typeOf aty) k (fun _ => defaultValue (newarray.typeOf aty)) ∧
      ∀ target, Steps p.tables e below (T'.setTop { f with pc := f.pc + 2, stack := .ref h.size :: rest }) target → Steps p.tables e below (T.setTop f) target := by
  have h0 : ¬ z < 0 := by
    rw [Int32.lt_iff_toInt_lt, hk]
    have : (0 : Int32).toInt = 0 := rfl
    omega
  obtain ⟨T', h', cA, X', e', E, A, st⟩ := newP X hx hZ w eT hg hd hs h0 (cap := cap) (by rw [own_nat hk]; exact hcap) hb hc hl
  exact ⟨T', h', X', e', E, AF.fresh A hk, st⟩
end Stores
theorem own_selects {args' : Array Value} {U : State} {y : MethodName} {k : Nat} (wi : (Cond.instantiable y.cls k).before args' U = true) (hpriv : U.PrivateAt y) (hinst : (Cond.instanceMethod y).before args' U = true) (hy : y.cls ≠ "java/lang/invoke/MethodHandle" ∧ y.cls ≠ "java/lang/invoke/VarHandle") : (Cond.selects y.cls y y).before args' U = true := by
  obtain ⟨c1, k1, i1, i2, -, i3, -⟩ := Cond.instantiable_spec wi
  have hni : k1.isInterface = false := by cases q : k1.isInterface <;> simp [q] at i3 ⊢
  exact Jvm.Stand.selects_self_of_private i1 i2 hni hpriv hinst hy
theorem isRef_cat {w : Value} (q : w.isRef = true) : w.category = 1 := by
  rcases ref_cases q with rfl | ⟨x, rfl⟩ <;> rfl
theorem mem1 {α : Type} (x : α) (L : List α) : x ∈ x :: L := List.mem_cons_self
theorem mem2 {α : Type} (x y : α) (L : List α) : x ∈ y :: x :: L := List.mem_cons_of_mem _ List.mem_cons_self
end OwnHeap
end Jvm.RoadKit
namespace Jvm.Pilot.@@N@@
open Jvm Jvm.ClassFile Sem Op Lib Jvm.Free Jvm.Stand Jvm.LawKit Jvm.RoadKit Bundle Jvm.Pilot.@@N@@.Jvm.D
theorem ef_1 (m : MethodId) (x0 : Addr) (x1 : Int64) : entryFrame m #[(.ref x0), (.long x1)] 3 = mkF m 0 #[.val (.ref x0), .val (.long x1), .second] [] := by first | (simp [entryFrame, mkF, argsToLocals, Value.category]; done) | rfl
theorem d1_0 : decode prog_51_method_1_code 0 = .ok (.aload_n 0, 1) := by decide +kernel
theorem d1_1 : decode prog_51_method_1_code 1 = .ok (.invokespecial 1, 3) := by decide +kernel
theorem d1_4 : decode prog_51_method_1_code 4 = .ok (.aload_n 0, 1) := by decide +kernel
theorem d1_5 : decode prog_51_method_1_code 5 = .ok (.lload_n 1, 1) := by decide +kernel
theorem d1_6 : decode prog_51_method_1_code 6 = .ok (.putfield 7, 3) := by decide +kernel
theorem d1_9 : decode prog_51_method_1_code 9 = .ok (.return_, 1) := by decide +kernel
theorem pn_1 : plainName "com/example/bitmend/bitmend/SplitMix64" = true := by first | (simp [plainName, overriddenIn]; done) | decide +kernel
def Q_f1 (Z : State) (o0 : Addr) (j1 : Int64) (h0 : Heap) (n0 : Nat) (v : Option Value) (h : Heap) (L : List Loc) : Prop := v = none ∧ Fr n0 L ∧ Keep h0 h [o0] ∧ Exa Z h o0 "com/example/bitmend/bitmend/SplitMix64" ∧ Fld Z h o0 "com/example/bitmend/bitmend/SplitMix64" "state" "J" (.long j1)
set_option maxRecDepth 65536 in
set_option maxHeartbeats 40000000 in
theorem rm1 (l : Launch) (Z : State) (a0 : Array Value) (hw : ∀ d ∈ tables_1, d.before a0 Z = true) (ws : List Jvm.Cond) (o0 : Addr) (j1 : Int64)  (h0 : Heap) (n0 : Nat) (E_o0 : Exa Z h0 o0 "com/example/bitmend/bitmend/SplitMix64") (g_o0 : n0 ≤ o0) (F_o0_state : Fld Z h0 o0 "com/example/bitmend/bitmend/SplitMix64" "state" "J" (.long (0 : Int64))) :
    MetFree l (⟨"com/example/bitmend/bitmend/SplitMix64", "<init>", "(J)V"⟩ : MethodName) (head1 (Jvm.Cond.code (⟨"com/example/bitmend/bitmend/SplitMix64", "<init>", "(J)V"⟩ : MethodName) prog_51_method_1_code 3 none :: ws) ({ frames := 1, cells := 0, slots := 0, locals := 12 } : Room)) (fun a U => a = #[(.ref o0), (.long j1)] ∧ Z.Warmed39 U.vm ∧ U.heap = h0) (fun _ _ _ _ _ => True) (fun _ U o U' => ∃ v L, o = .returned v ∧ Q_f1 Z o0 j1 h0 n0 v U'.heap L ∧ FrameEnd U o U' L ({ frames := 1, cells := 0, slots := 0, locals := 12 } : Room).cells ({ frames := 1, cells := 0, slots := 0, locals := 12 } : Room).slots) := by
  refine MetFree.of_bodySF (plainFor_of_name pn_1) hisR ?_
  intro p e s m args below meth c s₁ Bd hml0 hP hK
  obtain ⟨rfl, hZ, hh⟩ := hP
  have hx := Bd.exec
  have hby := Bd.bytes
  have hml : c.maxLocals = 3 := hml0
  have hown : s.vm.findClass "com/example/bitmend/bitmend/SplitMix64" = some m.cls := findClass_of_methodNamed Bd.named
  have hnm := (name_of_methodNamed Bd.named Bd.method).1
  have hret := Bd.returns
  have hlk : meth.locks = false := BodyLoose.notSynchronized Bd
  have X0 : Stand p l e ({ frames := 1, cells := 0, slots := 0, locals := 12 } : Room) s m #[(.ref o0), (.long j1)] below meth c s₁ [] 0 0 := Stand.of_body Bd
  have e0 : s₁.heap = h0 := by rw [← hh, Bd.state]; rfl
  have N0 := Fr.nil n0
  show Outs p e below s (Q_f1 Z o0 j1 h0 n0) _ _ _
  refine Outs.of (U' := s₁.setTop (mkF m 0 #[.val (.ref o0), .val (.long j1), .second] [])) (fun t k => castTop (ef_1 m o0 j1) k) ?_
  refine Outs.of (U' := s₁.setTop (mkF m 1 #[.val (.ref o0), .val (.long j1), .second] [(.ref o0)])) (fun t k => ?_) ?_
  · refine XS.aloadN X0.here hx rfl (hb hby d1_0) rfl rfl ?_
    show Steps p.tables e below (s₁.setTop (mkF m 1 #[.val (.ref o0), .val (.long j1), .second] [(.ref o0)])) _
    exact k
  obtain ⟨T1, X1, e1, st1⟩ := initO X0 hx hZ hown (hw _ (List.mem_of_getElem? (i := 7) rfl)) (hw _ (List.mem_of_getElem? (i := 8) rfl)) (hw _ (List.mem_of_getElem? (i := 9) rfl)) e0 (g := (mkF m 1 #[.val (.ref o0), .val (.long j1), .second] [(.ref o0)])) rfl (by rw [hml]; rfl) rfl (hb hby d1_1) (by decide) (W := 0) (by show 2 * 0 + _ ≤ _; exact Nat.le_of_eq rfl) (by decide)
  refine Outs.of st1 ?_
  show Outs p e below s _ _ _ (T1.setTop (mkF m 4 #[.val (.ref o0), .val (.long j1), .second] []))
  refine Outs.of (U' := T1.setTop (mkF m 6 #[.val (.ref o0), .val (.long j1), .second] [(.long j1), (.ref o0)])) (fun t k => ?_) ?_
  · refine XS.aloadN X1.here hx rfl (hb hby d1_4) rfl rfl ?_
    show Steps p.tables e below (T1.setTop (mkF m 5 #[.val (.ref o0), .val (.long j1), .second] [(.ref o0)])) _
    refine XS.lloadN X1.here hx rfl (hb hby d1_5) rfl ?_
    show Steps p.tables e below (T1.setTop (mkF m 6 #[.val (.ref o0), .val (.long j1), .second] [(.long j1), (.ref o0)])) _
    exact k
  obtain ⟨T2, h2, X2, e2, W2, st2⟩ := putF X1 hx hZ hown (host := "") (Or.inl (hw _ (List.mem_of_getElem? (i := 10) rfl))) Via.refl e1 F_o0_state E_o0 (Or.inl (hw _ (List.mem_of_getElem? (i := 11) rfl))) (hw _ (List.mem_of_getElem? (i := 2) rfl)) (ty := .long) (by decide) rfl rfl (g := (mkF m 6 #[.val (.ref o0), .val (.long j1), .second] [(.long j1), (.ref o0)])) rfl rfl (hb hby d1_6)
  have F2 : Fld Z h2 o0 "com/example/bitmend/bitmend/SplitMix64" "state" "J" (.long j1) := F_o0_state.same W2
  have N2 := Fr.snoc X2 N0 g_o0
  refine Outs.of st2 ?_
  show Outs p e below s _ _ _ (T2.setTop (mkF m 9 #[.val (.ref o0), .val (.long j1), .second] []))
  have f3 : Exa Z h2 o0 "com/example/bitmend/bitmend/SplitMix64" := (E_o0.wr W2)
  exact Outs.retV X2 hx hret (hb hby d1_9) hlk (by decide) (by decide) e2 ⟨rfl, N2, ((Keep.refl h0 [o0]).wr W2 (Or.inl (List.mem_of_getElem? (i := 0) rfl))), f3, F2⟩
theorem ef_3 (m : MethodId) (x0 : Addr) : entryFrame m #[(.ref x0)] 3 = mkF m 0 #[.val (.ref x0), .unset, .unset] [] := by first | (simp [entryFrame, mkF, argsToLocals, Value.category]; done) | rfl
theorem d3_0 : decode prog_51_method_2_code 0 = .ok (.aload_n 0, 1) := by decide +kernel
theorem d3_1 : decode prog_51_method_2_code 1 = .ok (.dup, 1) := by decide +kernel
theorem d3_2 : decode prog_51_method_2_code 2 = .ok (.getfield 7, 3) := by decide +kernel
theorem d3_5 : decode prog_51_method_2_code 5 = .ok (.ldc2_w 13, 3) := by decide +kernel
theorem d3_8 : decode prog_51_method_2_code 8 = .ok (.ladd, 1) := by decide +kernel
theorem d3_9 : decode prog_51_method_2_code 9 = .ok (.putfield 7, 3) := by decide +kernel
theorem d3_12 : decode prog_51_method_2_code 12 = .ok (.aload_n 0, 1) := by decide +kernel
theorem d3_13 : decode prog_51_method_2_code 13 = .ok (.getfield 7, 3) := by decide +kernel
theorem d3_16 : decode prog_51_method_2_code 16 = .ok (.lstore_n 1, 1) := by decide +kernel
theorem d3_17 : decode prog_51_method_2_code 17 = .ok (.lload_n 1, 1) := by decide +kernel
theorem d3_18 : decode prog_51_method_2_code 18 = .ok (.lload_n 1, 1) := by decide +kernel
theorem d3_19 : decode prog_51_method_2_code 19 = .ok (.bipush 30, 2) := by decide +kernel
theorem d3_21 : decode prog_51_method_2_code 21 = .ok (.lushr, 1) := by decide +kernel
theorem d3_22 : decode prog_51_method_2_code 22 = .ok (.lxor, 1) := by decide +kernel
theorem d3_23 : decode prog_51_method_2_code 23 = .ok (.ldc2_w 15, 3) := by decide +kernel
theorem d3_26 : decode prog_51_method_2_code 26 = .ok (.lmul, 1) := by decide +kernel
theorem d3_27 : decode prog_51_method_2_code 27 = .ok (.lstore_n 1, 1) := by decide +kernel
theorem d3_28 : decode prog_51_method_2_code 28 = .ok (.lload_n 1, 1) := by decide +kernel
theorem d3_29 : decode prog_51_method_2_code 29 = .ok (.lload_n 1, 1) := by decide +kernel
theorem d3_30 : decode prog_51_method_2_code 30 = .ok (.bipush 27, 2) := by decide +kernel
theorem d3_32 : decode prog_51_method_2_code 32 = .ok (.lushr, 1) := by decide +kernel
theorem d3_33 : decode prog_51_method_2_code 33 = .ok (.lxor, 1) := by decide +kernel
theorem d3_34 : decode prog_51_method_2_code 34 = .ok (.ldc2_w 17, 3) := by decide +kernel
theorem d3_37 : decode prog_51_method_2_code 37 = .ok (.lmul, 1) := by decide +kernel
theorem d3_38 : decode prog_51_method_2_code 38 = .ok (.lstore_n 1, 1) := by decide +kernel
theorem d3_39 : decode prog_51_method_2_code 39 = .ok (.lload_n 1, 1) := by decide +kernel
theorem d3_40 : decode prog_51_method_2_code 40 = .ok (.lload_n 1, 1) := by decide +kernel
theorem d3_41 : decode prog_51_method_2_code 41 = .ok (.bipush 31, 2) := by decide +kernel
theorem d3_43 : decode prog_51_method_2_code 43 = .ok (.lushr, 1) := by decide +kernel
theorem d3_44 : decode prog_51_method_2_code 44 = .ok (.lxor, 1) := by decide +kernel
theorem d3_45 : decode prog_51_method_2_code 45 = .ok (.lreturn, 1) := by decide +kernel
def f3_v27 (x0 : Int64) : Int64 := (((x0 + (-7046029254386353131 : Int64)) ^^^ (((x0 + (-7046029254386353131 : Int64)).toUInt64 >>> ((30 : Int32) &&& 0x3f).toInt64.toUInt64).toInt64)) * (-4658895280553007687 : Int64))
def f3_v38 (x0 : Int64) : Int64 := (((f3_v27 x0) ^^^ (((f3_v27 x0).toUInt64 >>> ((27 : Int32) &&& 0x3f).toInt64.toUInt64).toInt64)) * (-7723592293110705685 : Int64))
def F_f3 (x0 : Int64) : Int64 := ((f3_v38 x0) ^^^ (((f3_v38 x0).toUInt64 >>> ((31 : Int32) &&& 0x3f).toInt64.toUInt64).toInt64))
def Q_f3 (Z : State) (o0 : Addr) (x0 : Int64) (h0 : Heap) (n0 : Nat) (v : Option Value) (h : Heap) (L : List Loc) : Prop := v = some (.long (F_f3 x0)) ∧ Fr n0 L ∧ Keep h0 h [o0] ∧ Exa Z h o0 "com/example/bitmend/bitmend/SplitMix64" ∧ Fld Z h o0 "com/example/bitmend/bitmend/SplitMix64" "state" "J" (.long (x0 + (-7046029254386353131 : Int64)))
set_option maxRecDepth 65536 in
set_option maxHeartbeats 40000000 in
theorem rm3 (l : Launch) (Z : State) (a0 : Array Value) (hw : ∀ d ∈ tables_1, d.before a0 Z = true) (ws : List Jvm.Cond) (o0 : Addr) (x0 : Int64) (h0 : Heap) (n0 : Nat) (E_o0 : Exa Z h0 o0 "com/example/bitmend/bitmend/SplitMix64") (g_o0 : n0 ≤ o0) (F_o0_state : Fld Z h0 o0 "com/example/bitmend/bitmend/SplitMix64" "state" "J" (.long x0)) :
    MetFree l (⟨"com/example/bitmend/bitmend/SplitMix64", "nextLong", "()J"⟩ : MethodName) (head1 (Jvm.Cond.code (⟨"com/example/bitmend/bitmend/SplitMix64", "nextLong", "()J"⟩ : MethodName) prog_51_method_2_code 3 (some .long) :: ws) ({ frames := 0, cells := 0, slots := 0, locals := 0 } : Room)) (fun a U => a = #[(.ref o0)] ∧ Z.Warmed39 U.vm ∧ U.heap = h0) (fun _ _ _ _ _ => True) (fun _ U o U' => ∃ v L, o = .returned v ∧ Q_f3 Z o0 x0 h0 n0 v U'.heap L ∧ FrameEnd U o U' L ({ frames := 0, cells := 0, slots := 0, locals := 0 } : Room).cells ({ frames := 0, cells := 0, slots := 0, locals := 0 } : Room).slots) := by
  refine MetFree.of_bodySF (plainFor_of_name pn_1) hisR ?_
  intro p e s m args below meth c s₁ Bd hml0 hP hK
  obtain ⟨rfl, hZ, hh⟩ := hP
  have hx := Bd.exec
  have hby := Bd.bytes
  have hml : c.maxLocals = 3 := hml0
  have hown : s.vm.findClass "com/example/bitmend/bitmend/SplitMix64" = some m.cls := findClass_of_methodNamed Bd.named
  have hnm := (name_of_methodNamed Bd.named Bd.method).1
  have hret := Bd.returns
  have hlk : meth.locks = false := BodyLoose.notSynchronized Bd
  have X0 : Stand p l e ({ frames := 0, cells := 0, slots := 0, locals := 0 } : Room) s m #[(.ref o0)] below meth c s₁ [] 0 0 := Stand.of_body Bd
  have e0 : s₁.heap = h0 := by rw [← hh, Bd.state]; rfl
  have N0 := Fr.nil n0
  show Outs p e below s (Q_f3 Z o0 x0 h0 n0) _ _ _
  refine Outs.of (U' := s₁.setTop (mkF m 0 #[.val (.ref o0), .unset, .unset] [])) (fun t k => castTop (ef_3 m o0) k) ?_
  refine Outs.of (U' := s₁.setTop (mkF m 2 #[.val (.ref o0), .unset, .unset] [(.ref o0), (.ref o0)])) (fun t k => ?_) ?_
  · refine XS.aloadN X0.here hx rfl (hb hby d3_0) rfl rfl ?_
    show Steps p.tables e below (s₁.setTop (mkF m 1 #[.val (.ref o0), .unset, .unset] [(.ref o0)])) _
    refine XS.dup X0.here hx rfl (hb hby d3_1) rfl rfl ?_
    show Steps p.tables e below (s₁.setTop (mkF m 2 #[.val (.ref o0), .unset, .unset] [(.ref o0), (.ref o0)])) _
    exact k
  obtain ⟨T1, X1, e1, st1⟩ := getF X0 hx hZ hown (host := "") (Or.inl (hw _ (List.mem_of_getElem? (i := 10) rfl))) Via.refl e0 F_o0_state (g := (mkF m 2 #[.val (.ref o0), .unset, .unset] [(.ref o0), (.ref o0)])) rfl rfl (hb hby d3_2)
  refine Outs.of st1 ?_
  show Outs p e below s _ _ _ (T1.setTop (mkF m 5 #[.val (.ref o0), .unset, .unset] [(.long x0), (.ref o0)]))
  refine Outs.of (U' := T1.setTop (mkF m 9 #[.val (.ref o0), .unset, .unset] [(.long (x0 + (-7046029254386353131 : Int64))), (.ref o0)])) (fun t k => ?_) ?_
  · refine X1.ldc2Long hx hown (mvT hZ (hw _ (List.mem_of_getElem? (i := 17) rfl))) (g := (mkF m 5 #[.val (.ref o0), .unset, .unset] [(.long x0), (.ref o0)])) rfl (hb hby d3_5) _ ?_
    show Steps p.tables e below (T1.setTop (mkF m 8 #[.val (.ref o0), .unset, .unset] [(.long (-7046029254386353131 : Int64)), (.long x0), (.ref o0)])) _
    refine XS.ladd X1.here hx rfl (hb hby d3_8) rfl ?_
    show Steps p.tables e below (T1.setTop (mkF m 9 #[.val (.ref o0), .unset, .unset] [(.long (x0 + (-7046029254386353131 : Int64))), (.ref o0)])) _
    exact k
  obtain ⟨T2, h2, X2, e2, W2, st2⟩ := putF X1 hx hZ hown (host := "") (Or.inl (hw _ (List.mem_of_getElem? (i := 10) rfl))) Via.refl e1 F_o0_state E_o0 (Or.inl (hw _ (List.mem_of_getElem? (i := 11) rfl))) (hw _ (List.mem_of_getElem? (i := 2) rfl)) (ty := .long) (by decide) rfl rfl (g := (mkF m 9 #[.val (.ref o0), .unset, .unset] [(.long (x0 + (-7046029254386353131 : Int64))), (.ref o0)])) rfl rfl (hb hby d3_9)
  have F2 : Fld Z h2 o0 "com/example/bitmend/bitmend/SplitMix64" "state" "J" (.long (x0 + (-7046029254386353131 : Int64))) := F_o0_state.same W2
  have N2 := Fr.snoc X2 N0 g_o0
  refine Outs.of st2 ?_
  show Outs p e below s _ _ _ (T2.setTop (mkF m 12 #[.val (.ref o0), .unset, .unset] []))
  refine Outs.of (U' := T2.setTop (mkF m 13 #[.val (.ref o0), .unset, .unset] [(.ref o0)])) (fun t k => ?_) ?_
  · refine XS.aloadN X2.here hx rfl (hb hby d3_12) rfl rfl ?_
    show Steps p.tables e below (T2.setTop (mkF m 13 #[.val (.ref o0), .unset, .unset] [(.ref o0)])) _
    exact k
  obtain ⟨T3, X3, e3, st3⟩ := getF X2 hx hZ hown (host := "") (Or.inl (hw _ (List.mem_of_getElem? (i := 10) rfl))) Via.refl e2 F2 (g := (mkF m 13 #[.val (.ref o0), .unset, .unset] [(.ref o0)])) rfl rfl (hb hby d3_13)
  refine Outs.of st3 ?_
  show Outs p e below s _ _ _ (T3.setTop (mkF m 16 #[.val (.ref o0), .unset, .unset] [(.long (x0 + (-7046029254386353131 : Int64)))]))
  refine Outs.of (U' := T3.setTop (mkF m 45 #[.val (.ref o0), .val (.long (f3_v38 x0)), .second] [(.long ((f3_v38 x0) ^^^ (((f3_v38 x0).toUInt64 >>> ((31 : Int32) &&& 0x3f).toInt64.toUInt64).toInt64)))])) (fun t k => ?_) ?_
  · refine XS.lstoreN X3.here hx rfl (hb hby d3_16) rfl (l' := #[.val (.ref o0), .val (.long (x0 + (-7046029254386353131 : Int64))), .second]) rfl ?_
    show Steps p.tables e below (T3.setTop (mkF m 17 #[.val (.ref o0), .val (.long (x0 + (-7046029254386353131 : Int64))), .second] [])) _
    refine XS.lloadN X3.here hx rfl (hb hby d3_17) rfl ?_
    show Steps p.tables e below (T3.setTop (mkF m 18 #[.val (.ref o0), .val (.long (x0 + (-7046029254386353131 : Int64))), .second] [(.long (x0 + (-7046029254386353131 : Int64)))])) _
    refine XS.lloadN X3.here hx rfl (hb hby d3_18) rfl ?_
    show Steps p.tables e below (T3.setTop (mkF m 19 #[.val (.ref o0), .val (.long (x0 + (-7046029254386353131 : Int64))), .second] [(.long (x0 + (-7046029254386353131 : Int64))), (.long (x0 + (-7046029254386353131 : Int64)))])) _
    refine XS.bipush X3.here hx rfl (hb hby d3_19) ?_
    show Steps p.tables e below (T3.setTop (mkF m 21 #[.val (.ref o0), .val (.long (x0 + (-7046029254386353131 : Int64))), .second] [(.int (30 : Int32)), (.long (x0 + (-7046029254386353131 : Int64))), (.long (x0 + (-7046029254386353131 : Int64)))])) _
    refine XS.lushr X3.here hx rfl (hb hby d3_21) rfl ?_
    show Steps p.tables e below (T3.setTop (mkF m 22 #[.val (.ref o0), .val (.long (x0 + (-7046029254386353131 : Int64))), .second] [(.long (((x0 + (-7046029254386353131 : Int64)).toUInt64 >>> ((30 : Int32) &&& 0x3f).toInt64.toUInt64).toInt64)), (.long (x0 + (-7046029254386353131 : Int64)))])) _
    refine XS.lxor X3.here hx rfl (hb hby d3_22) rfl ?_
    show Steps p.tables e below (T3.setTop (mkF m 23 #[.val (.ref o0), .val (.long (x0 + (-7046029254386353131 : Int64))), .second] [(.long ((x0 + (-7046029254386353131 : Int64)) ^^^ (((x0 + (-7046029254386353131 : Int64)).toUInt64 >>> ((30 : Int32) &&& 0x3f).toInt64.toUInt64).toInt64)))])) _
    refine X3.ldc2Long hx hown (mvT hZ (hw _ (List.mem_of_getElem? (i := 18) rfl))) (g := (mkF m 23 #[.val (.ref o0), .val (.long (x0 + (-7046029254386353131 : Int64))), .second] [(.long ((x0 + (-7046029254386353131 : Int64)) ^^^ (((x0 + (-7046029254386353131 : Int64)).toUInt64 >>> ((30 : Int32) &&& 0x3f).toInt64.toUInt64).toInt64)))])) rfl (hb hby d3_23) _ ?_
    show Steps p.tables e below (T3.setTop (mkF m 26 #[.val (.ref o0), .val (.long (x0 + (-7046029254386353131 : Int64))), .second] [(.long (-4658895280553007687 : Int64)), (.long ((x0 + (-7046029254386353131 : Int64)) ^^^ (((x0 + (-7046029254386353131 : Int64)).toUInt64 >>> ((30 : Int32) &&& 0x3f).toInt64.toUInt64).toInt64)))])) _
    refine XS.lmul X3.here hx rfl (hb hby d3_26) rfl ?_
    show Steps p.tables e below (T3.setTop (mkF m 27 #[.val (.ref o0), .val (.long (x0 + (-7046029254386353131 : Int64))), .second] [(.long (((x0 + (-7046029254386353131 : Int64)) ^^^ (((x0 + (-7046029254386353131 : Int64)).toUInt64 >>> ((30 : Int32) &&& 0x3f).toInt64.toUInt64).toInt64)) * (-4658895280553007687 : Int64)))])) _
    refine XS.lstoreN X3.here hx rfl (hb hby d3_27) rfl (l' := #[.val (.ref o0), .val (.long (f3_v27 x0)), .second]) rfl ?_
    show Steps p.tables e below (T3.setTop (mkF m 28 #[.val (.ref o0), .val (.long (f3_v27 x0)), .second] [])) _
    refine XS.lloadN X3.here hx rfl (hb hby d3_28) rfl ?_
    show Steps p.tables e below (T3.setTop (mkF m 29 #[.val (.ref o0), .val (.long (f3_v27 x0)), .second] [(.long (f3_v27 x0))])) _
    refine XS.lloadN X3.here hx rfl (hb hby d3_29) rfl ?_
    show Steps p.tables e below (T3.setTop (mkF m 30 #[.val (.ref o0), .val (.long (f3_v27 x0)), .second] [(.long (f3_v27 x0)), (.long (f3_v27 x0))])) _
    refine XS.bipush X3.here hx rfl (hb hby d3_30) ?_
    show Steps p.tables e below (T3.setTop (mkF m 32 #[.val (.ref o0), .val (.long (f3_v27 x0)), .second] [(.int (27 : Int32)), (.long (f3_v27 x0)), (.long (f3_v27 x0))])) _
    refine XS.lushr X3.here hx rfl (hb hby d3_32) rfl ?_
    show Steps p.tables e below (T3.setTop (mkF m 33 #[.val (.ref o0), .val (.long (f3_v27 x0)), .second] [(.long (((f3_v27 x0).toUInt64 >>> ((27 : Int32) &&& 0x3f).toInt64.toUInt64).toInt64)), (.long (f3_v27 x0))])) _
    refine XS.lxor X3.here hx rfl (hb hby d3_33) rfl ?_
    show Steps p.tables e below (T3.setTop (mkF m 34 #[.val (.ref o0), .val (.long (f3_v27 x0)), .second] [(.long ((f3_v27 x0) ^^^ (((f3_v27 x0).toUInt64 >>> ((27 : Int32) &&& 0x3f).toInt64.toUInt64).toInt64)))])) _
    refine X3.ldc2Long hx hown (mvT hZ (hw _ (List.mem_of_getElem? (i := 19) rfl))) (g := (mkF m 34 #[.val (.ref o0), .val (.long (f3_v27 x0)), .second] [(.long ((f3_v27 x0) ^^^ (((f3_v27 x0).toUInt64 >>> ((27 : Int32) &&& 0x3f).toInt64.toUInt64).toInt64)))])) rfl (hb hby d3_34) _ ?_
    show Steps p.tables e below (T3.setTop (mkF m 37 #[.val (.ref o0), .val (.long (f3_v27 x0)), .second] [(.long (-7723592293110705685 : Int64)), (.long ((f3_v27 x0) ^^^ (((f3_v27 x0).toUInt64 >>> ((27 : Int32) &&& 0x3f).toInt64.toUInt64).toInt64)))])) _
    refine XS.lmul X3.here hx rfl (hb hby d3_37) rfl ?_
    show Steps p.tables e below (T3.setTop (mkF m 38 #[.val (.ref o0), .val (.long (f3_v27 x0)), .second] [(.long (((f3_v27 x0) ^^^ (((f3_v27 x0).toUInt64 >>> ((27 : Int32) &&& 0x3f).toInt64.toUInt64).toInt64)) * (-7723592293110705685 : Int64)))])) _
    refine XS.lstoreN X3.here hx rfl (hb hby d3_38) rfl (l' := #[.val (.ref o0), .val (.long (f3_v38 x0)), .second]) rfl ?_
    show Steps p.tables e below (T3.setTop (mkF m 39 #[.val (.ref o0), .val (.long (f3_v38 x0)), .second] [])) _
    refine XS.lloadN X3.here hx rfl (hb hby d3_39) rfl ?_
    show Steps p.tables e below (T3.setTop (mkF m 40 #[.val (.ref o0), .val (.long (f3_v38 x0)), .second] [(.long (f3_v38 x0))])) _
    refine XS.lloadN X3.here hx rfl (hb hby d3_40) rfl ?_
    show Steps p.tables e below (T3.setTop (mkF m 41 #[.val (.ref o0), .val (.long (f3_v38 x0)), .second] [(.long (f3_v38 x0)), (.long (f3_v38 x0))])) _
    refine XS.bipush X3.here hx rfl (hb hby d3_41) ?_
    show Steps p.tables e below (T3.setTop (mkF m 43 #[.val (.ref o0), .val (.long (f3_v38 x0)), .second] [(.int (31 : Int32)), (.long (f3_v38 x0)), (.long (f3_v38 x0))])) _
    refine XS.lushr X3.here hx rfl (hb hby d3_43) rfl ?_
    show Steps p.tables e below (T3.setTop (mkF m 44 #[.val (.ref o0), .val (.long (f3_v38 x0)), .second] [(.long (((f3_v38 x0).toUInt64 >>> ((31 : Int32) &&& 0x3f).toInt64.toUInt64).toInt64)), (.long (f3_v38 x0))])) _
    refine XS.lxor X3.here hx rfl (hb hby d3_44) rfl ?_
    show Steps p.tables e below (T3.setTop (mkF m 45 #[.val (.ref o0), .val (.long (f3_v38 x0)), .second] [(.long ((f3_v38 x0) ^^^ (((f3_v38 x0).toUInt64 >>> ((31 : Int32) &&& 0x3f).toInt64.toUInt64).toInt64)))])) _
    exact k
  have f4 : Exa Z h2 o0 "com/example/bitmend/bitmend/SplitMix64" := (E_o0.wr W2)
  exact Outs.retL X3 hx hret (hb hby d3_45) hlk (by decide) (by decide) e3 ⟨congrArg (fun z_ => some (Value.long z_)) (show (F_f3 x0) = ((f3_v38 x0) ^^^ (((f3_v38 x0).toUInt64 >>> ((31 : Int32) &&& 0x3f).toInt64.toUInt64).toInt64)) from rfl).symm, N2, ((Keep.refl h0 [o0]).wr W2 (Or.inl (List.mem_of_getElem? (i := 0) rfl))), f4, F2⟩
theorem ef_5 (m : MethodId) (x0 : Int64) : entryFrame m #[(.long x0)] 4 = mkF m 0 #[.val (.long x0), .second, .unset, .unset] [] := by first | (simp [entryFrame, mkF, argsToLocals, Value.category]; done) | rfl
theorem d5_0 : decode method_2_code 0 = .ok (.lload_n 0, 1) := by decide +kernel
theorem d5_1 : decode method_2_code 1 = .ok (.lstore_n 2, 1) := by decide +kernel
theorem d5_2 : decode method_2_code 2 = .ok (.lload_n 2, 1) := by decide +kernel
theorem d5_3 : decode method_2_code 3 = .ok (.ldc2_w 7, 3) := by decide +kernel
theorem d5_6 : decode method_2_code 6 = .ok (.lload_n 0, 1) := by decide +kernel
theorem d5_7 : decode method_2_code 7 = .ok (.lload_n 2, 1) := by decide +kernel
theorem d5_8 : decode method_2_code 8 = .ok (.lmul, 1) := by decide +kernel
theorem d5_9 : decode method_2_code 9 = .ok (.lsub, 1) := by decide +kernel
theorem d5_10 : decode method_2_code 10 = .ok (.lmul, 1) := by decide +kernel
theorem d5_11 : decode method_2_code 11 = .ok (.lstore_n 2, 1) := by decide +kernel
theorem d5_12 : decode method_2_code 12 = .ok (.lload_n 2, 1) := by decide +kernel
theorem d5_13 : decode method_2_code 13 = .ok (.ldc2_w 7, 3) := by decide +kernel
theorem d5_16 : decode method_2_code 16 = .ok (.lload_n 0, 1) := by decide +kernel
theorem d5_17 : decode method_2_code 17 = .ok (.lload_n 2, 1) := by decide +kernel
theorem d5_18 : decode method_2_code 18 = .ok (.lmul, 1) := by decide +kernel
theorem d5_19 : decode method_2_code 19 = .ok (.lsub, 1) := by decide +kernel
theorem d5_20 : decode method_2_code 20 = .ok (.lmul, 1) := by decide +kernel
theorem d5_21 : decode method_2_code 21 = .ok (.lstore_n 2, 1) := by decide +kernel
theorem d5_22 : decode method_2_code 22 = .ok (.lload_n 2, 1) := by decide +kernel
theorem d5_23 : decode method_2_code 23 = .ok (.ldc2_w 7, 3) := by decide +kernel
theorem d5_26 : decode method_2_code 26 = .ok (.lload_n 0, 1) := by decide +kernel
theorem d5_27 : decode method_2_code 27 = .ok (.lload_n 2, 1) := by decide +kernel
theorem d5_28 : decode method_2_code 28 = .ok (.lmul, 1) := by decide +kernel
theorem d5_29 : decode method_2_code 29 = .ok (.lsub, 1) := by decide +kernel
theorem d5_30 : decode method_2_code 30 = .ok (.lmul, 1) := by decide +kernel
theorem d5_31 : decode method_2_code 31 = .ok (.lstore_n 2, 1) := by decide +kernel
theorem d5_32 : decode method_2_code 32 = .ok (.lload_n 2, 1) := by decide +kernel
theorem d5_33 : decode method_2_code 33 = .ok (.ldc2_w 7, 3) := by decide +kernel
theorem d5_36 : decode method_2_code 36 = .ok (.lload_n 0, 1) := by decide +kernel
theorem d5_37 : decode method_2_code 37 = .ok (.lload_n 2, 1) := by decide +kernel
theorem d5_38 : decode method_2_code 38 = .ok (.lmul, 1) := by decide +kernel
theorem d5_39 : decode method_2_code 39 = .ok (.lsub, 1) := by decide +kernel
theorem d5_40 : decode method_2_code 40 = .ok (.lmul, 1) := by decide +kernel
theorem d5_41 : decode method_2_code 41 = .ok (.lstore_n 2, 1) := by decide +kernel
theorem d5_42 : decode method_2_code 42 = .ok (.lload_n 2, 1) := by decide +kernel
theorem d5_43 : decode method_2_code 43 = .ok (.ldc2_w 7, 3) := by decide +kernel
theorem d5_46 : decode method_2_code 46 = .ok (.lload_n 0, 1) := by decide +kernel
theorem d5_47 : decode method_2_code 47 = .ok (.lload_n 2, 1) := by decide +kernel
theorem d5_48 : decode method_2_code 48 = .ok (.lmul, 1) := by decide +kernel
theorem d5_49 : decode method_2_code 49 = .ok (.lsub, 1) := by decide +kernel
theorem d5_50 : decode method_2_code 50 = .ok (.lmul, 1) := by decide +kernel
theorem d5_51 : decode method_2_code 51 = .ok (.lstore_n 2, 1) := by decide +kernel
theorem d5_52 : decode method_2_code 52 = .ok (.lload_n 2, 1) := by decide +kernel
theorem d5_53 : decode method_2_code 53 = .ok (.lreturn, 1) := by decide +kernel
theorem pn_0 : plainName "com/example/bitmend/bitmend/SplitMix64NextLongPinLaw" = true := by first | (simp [plainName, overriddenIn]; done) | decide +kernel
def f5_v21 (j0 : Int64) : Int64 := ((j0 * ((2 : Int64) - (j0 * j0))) * ((2 : Int64) - (j0 * (j0 * ((2 : Int64) - (j0 * j0))))))
def f5_v41 (j0 : Int64) : Int64 := (((f5_v21 j0) * ((2 : Int64) - (j0 * (f5_v21 j0)))) * ((2 : Int64) - (j0 * ((f5_v21 j0) * ((2 : Int64) - (j0 * (f5_v21 j0)))))))
def F_f5 (j0 : Int64) : Int64 := ((f5_v41 j0) * ((2 : Int64) - (j0 * (f5_v41 j0))))
set_option maxRecDepth 65536 in
set_option maxHeartbeats 40000000 in
theorem rm5 (l : Launch) (Z : State) (a0 : Array Value) (hw : ∀ d ∈ tables_1, d.before a0 Z = true) (ws : List Jvm.Cond) (j0 : Int64)  (h0 : Heap) (n0 : Nat)  :
    MetFree l (⟨"com/example/bitmend/bitmend/SplitMix64NextLongPinLaw", "inverse", "(J)J"⟩ : MethodName) (head1 (Jvm.Cond.code (⟨"com/example/bitmend/bitmend/SplitMix64NextLongPinLaw", "inverse", "(J)J"⟩ : MethodName) method_2_code 4 (some .long) :: ws) ({ frames := 0, cells := 0, slots := 0, locals := 0 } : Room)) (fun a U => a = #[(.long j0)] ∧ Z.Warmed39 U.vm ∧ U.heap = h0) (fun _ _ _ _ _ => True) (fun _ U o U' => ∃ v L, o = .returned v ∧ QR (some (.long (F_f5 j0))) h0 n0 v U'.heap L ∧ FrameEnd U o U' L ({ frames := 0, cells := 0, slots := 0, locals := 0 } : Room).cells ({ frames := 0, cells := 0, slots := 0, locals := 0 } : Room).slots) := by
  refine MetFree.of_bodySF (plainFor_of_name pn_0) hisR ?_
  intro p e s m args below meth c s₁ Bd hml0 hP hK
  obtain ⟨rfl, hZ, hh⟩ := hP
  have hx := Bd.exec
  have hby := Bd.bytes
  have hml : c.maxLocals = 4 := hml0
  have hown : s.vm.findClass "com/example/bitmend/bitmend/SplitMix64NextLongPinLaw" = some m.cls := findClass_of_methodNamed Bd.named
  have hnm := (name_of_methodNamed Bd.named Bd.method).1
  have hret := Bd.returns
  have hlk : meth.locks = false := BodyLoose.notSynchronized Bd
  have X0 : Stand p l e ({ frames := 0, cells := 0, slots := 0, locals := 0 } : Room) s m #[(.long j0)] below meth c s₁ [] 0 0 := Stand.of_body Bd
  have e0 : s₁.heap = h0 := by rw [← hh, Bd.state]; rfl
  have N0 := Fr.nil n0
  show Outs p e below s (QR (some (.long (F_f5 j0))) h0 n0) _ _ _
  refine Outs.of (U' := s₁.setTop (mkF m 0 #[.val (.long j0), .second, .unset, .unset] [])) (fun t k => castTop (ef_5 m j0) k) ?_
  refine Outs.of (U' := s₁.setTop (mkF m 53 #[.val (.long j0), .second, .val (.long ((f5_v41 j0) * ((2 : Int64) - (j0 * (f5_v41 j0))))), .second] [(.long ((f5_v41 j0) * ((2 : Int64) - (j0 * (f5_v41 j0)))))])) (fun t k => ?_) ?_
  · refine XS.lloadN X0.here hx rfl (hb hby d5_0) rfl ?_
    show Steps p.tables e below (s₁.setTop (mkF m 1 #[.val (.long j0), .second, .unset, .unset] [(.long j0)])) _
    refine XS.lstoreN X0.here hx rfl (hb hby d5_1) rfl (l' := #[.val (.long j0), .second, .val (.long j0), .second]) rfl ?_
    show Steps p.tables e below (s₁.setTop (mkF m 2 #[.val (.long j0), .second, .val (.long j0), .second] [])) _
    refine XS.lloadN X0.here hx rfl (hb hby d5_2) rfl ?_
    show Steps p.tables e below (s₁.setTop (mkF m 3 #[.val (.long j0), .second, .val (.long j0), .second] [(.long j0)])) _
    refine X0.ldc2Long hx hown (mvT hZ (hw _ (List.mem_of_getElem? (i := 28) rfl))) (g := (mkF m 3 #[.val (.long j0), .second, .val (.long j0), .second] [(.long j0)])) rfl (hb hby d5_3) _ ?_
    show Steps p.tables e below (s₁.setTop (mkF m 6 #[.val (.long j0), .second, .val (.long j0), .second] [(.long (2 : Int64)), (.long j0)])) _
    refine XS.lloadN X0.here hx rfl (hb hby d5_6) rfl ?_
    show Steps p.tables e below (s₁.setTop (mkF m 7 #[.val (.long j0), .second, .val (.long j0), .second] [(.long j0), (.long (2 : Int64)), (.long j0)])) _
    refine XS.lloadN X0.here hx rfl (hb hby d5_7) rfl ?_
    show Steps p.tables e below (s₁.setTop (mkF m 8 #[.val (.long j0), .second, .val (.long j0), .second] [(.long j0), (.long j0), (.long (2 : Int64)), (.long j0)])) _
    refine XS.lmul X0.here hx rfl (hb hby d5_8) rfl ?_
    show Steps p.tables e below (s₁.setTop (mkF m 9 #[.val (.long j0), .second, .val (.long j0), .second] [(.long (j0 * j0)), (.long (2 : Int64)), (.long j0)])) _
    refine XS.lsub X0.here hx rfl (hb hby d5_9) rfl ?_
    show Steps p.tables e below (s₁.setTop (mkF m 10 #[.val (.long j0), .second, .val (.long j0), .second] [(.long ((2 : Int64) - (j0 * j0))), (.long j0)])) _
    refine XS.lmul X0.here hx rfl (hb hby d5_10) rfl ?_
    show Steps p.tables e below (s₁.setTop (mkF m 11 #[.val (.long j0), .second, .val (.long j0), .second] [(.long (j0 * ((2 : Int64) - (j0 * j0))))])) _
    refine XS.lstoreN X0.here hx rfl (hb hby d5_11) rfl (l' := #[.val (.long j0), .second, .val (.long (j0 * ((2 : Int64) - (j0 * j0)))), .second]) rfl ?_
    show Steps p.tables e below (s₁.setTop (mkF m 12 #[.val (.long j0), .second, .val (.long (j0 * ((2 : Int64) - (j0 * j0)))), .second] [])) _
    refine XS.lloadN X0.here hx rfl (hb hby d5_12) rfl ?_
    show Steps p.tables e below (s₁.setTop (mkF m 13 #[.val (.long j0), .second, .val (.long (j0 * ((2 : Int64) - (j0 * j0)))), .second] [(.long (j0 * ((2 : Int64) - (j0 * j0))))])) _
    refine X0.ldc2Long hx hown (mvT hZ (hw _ (List.mem_of_getElem? (i := 28) rfl))) (g := (mkF m 13 #[.val (.long j0), .second, .val (.long (j0 * ((2 : Int64) - (j0 * j0)))), .second] [(.long (j0 * ((2 : Int64) - (j0 * j0))))])) rfl (hb hby d5_13) _ ?_
    show Steps p.tables e below (s₁.setTop (mkF m 16 #[.val (.long j0), .second, .val (.long (j0 * ((2 : Int64) - (j0 * j0)))), .second] [(.long (2 : Int64)), (.long (j0 * ((2 : Int64) - (j0 * j0))))])) _
    refine XS.lloadN X0.here hx rfl (hb hby d5_16) rfl ?_
    show Steps p.tables e below (s₁.setTop (mkF m 17 #[.val (.long j0), .second, .val (.long (j0 * ((2 : Int64) - (j0 * j0)))), .second] [(.long j0), (.long (2 : Int64)), (.long (j0 * ((2 : Int64) - (j0 * j0))))])) _
    refine XS.lloadN X0.here hx rfl (hb hby d5_17) rfl ?_
    show Steps p.tables e below (s₁.setTop (mkF m 18 #[.val (.long j0), .second, .val (.long (j0 * ((2 : Int64) - (j0 * j0)))), .second] [(.long (j0 * ((2 : Int64) - (j0 * j0)))), (.long j0), (.long (2 : Int64)), (.long (j0 * ((2 : Int64) - (j0 * j0))))])) _
    refine XS.lmul X0.here hx rfl (hb hby d5_18) rfl ?_
    show Steps p.tables e below (s₁.setTop (mkF m 19 #[.val (.long j0), .second, .val (.long (j0 * ((2 : Int64) - (j0 * j0)))), .second] [(.long (j0 * (j0 * ((2 : Int64) - (j0 * j0))))), (.long (2 : Int64)), (.long (j0 * ((2 : Int64) - (j0 * j0))))])) _
    refine XS.lsub X0.here hx rfl (hb hby d5_19) rfl ?_
    show Steps p.tables e below (s₁.setTop (mkF m 20 #[.val (.long j0), .second, .val (.long (j0 * ((2 : Int64) - (j0 * j0)))), .second] [(.long ((2 : Int64) - (j0 * (j0 * ((2 : Int64) - (j0 * j0)))))), (.long (j0 * ((2 : Int64) - (j0 * j0))))])) _
    refine XS.lmul X0.here hx rfl (hb hby d5_20) rfl ?_
    show Steps p.tables e below (s₁.setTop (mkF m 21 #[.val (.long j0), .second, .val (.long (j0 * ((2 : Int64) - (j0 * j0)))), .second] [(.long ((j0 * ((2 : Int64) - (j0 * j0))) * ((2 : Int64) - (j0 * (j0 * ((2 : Int64) - (j0 * j0)))))))])) _
    refine XS.lstoreN X0.here hx rfl (hb hby d5_21) rfl (l' := #[.val (.long j0), .second, .val (.long (f5_v21 j0)), .second]) rfl ?_
    show Steps p.tables e below (s₁.setTop (mkF m 22 #[.val (.long j0), .second, .val (.long (f5_v21 j0)), .second] [])) _
    refine XS.lloadN X0.here hx rfl (hb hby d5_22) rfl ?_
    show Steps p.tables e below (s₁.setTop (mkF m 23 #[.val (.long j0), .second, .val (.long (f5_v21 j0)), .second] [(.long (f5_v21 j0))])) _
    refine X0.ldc2Long hx hown (mvT hZ (hw _ (List.mem_of_getElem? (i := 28) rfl))) (g := (mkF m 23 #[.val (.long j0), .second, .val (.long (f5_v21 j0)), .second] [(.long (f5_v21 j0))])) rfl (hb hby d5_23) _ ?_
    show Steps p.tables e below (s₁.setTop (mkF m 26 #[.val (.long j0), .second, .val (.long (f5_v21 j0)), .second] [(.long (2 : Int64)), (.long (f5_v21 j0))])) _
    refine XS.lloadN X0.here hx rfl (hb hby d5_26) rfl ?_
    show Steps p.tables e below (s₁.setTop (mkF m 27 #[.val (.long j0), .second, .val (.long (f5_v21 j0)), .second] [(.long j0), (.long (2 : Int64)), (.long (f5_v21 j0))])) _
    refine XS.lloadN X0.here hx rfl (hb hby d5_27) rfl ?_
    show Steps p.tables e below (s₁.setTop (mkF m 28 #[.val (.long j0), .second, .val (.long (f5_v21 j0)), .second] [(.long (f5_v21 j0)), (.long j0), (.long (2 : Int64)), (.long (f5_v21 j0))])) _
    refine XS.lmul X0.here hx rfl (hb hby d5_28) rfl ?_
    show Steps p.tables e below (s₁.setTop (mkF m 29 #[.val (.long j0), .second, .val (.long (f5_v21 j0)), .second] [(.long (j0 * (f5_v21 j0))), (.long (2 : Int64)), (.long (f5_v21 j0))])) _
    refine XS.lsub X0.here hx rfl (hb hby d5_29) rfl ?_
    show Steps p.tables e below (s₁.setTop (mkF m 30 #[.val (.long j0), .second, .val (.long (f5_v21 j0)), .second] [(.long ((2 : Int64) - (j0 * (f5_v21 j0)))), (.long (f5_v21 j0))])) _
    refine XS.lmul X0.here hx rfl (hb hby d5_30) rfl ?_
    show Steps p.tables e below (s₁.setTop (mkF m 31 #[.val (.long j0), .second, .val (.long (f5_v21 j0)), .second] [(.long ((f5_v21 j0) * ((2 : Int64) - (j0 * (f5_v21 j0)))))])) _
    refine XS.lstoreN X0.here hx rfl (hb hby d5_31) rfl (l' := #[.val (.long j0), .second, .val (.long ((f5_v21 j0) * ((2 : Int64) - (j0 * (f5_v21 j0))))), .second]) rfl ?_
    show Steps p.tables e below (s₁.setTop (mkF m 32 #[.val (.long j0), .second, .val (.long ((f5_v21 j0) * ((2 : Int64) - (j0 * (f5_v21 j0))))), .second] [])) _
    refine XS.lloadN X0.here hx rfl (hb hby d5_32) rfl ?_
    show Steps p.tables e below (s₁.setTop (mkF m 33 #[.val (.long j0), .second, .val (.long ((f5_v21 j0) * ((2 : Int64) - (j0 * (f5_v21 j0))))), .second] [(.long ((f5_v21 j0) * ((2 : Int64) - (j0 * (f5_v21 j0)))))])) _
    refine X0.ldc2Long hx hown (mvT hZ (hw _ (List.mem_of_getElem? (i := 28) rfl))) (g := (mkF m 33 #[.val (.long j0), .second, .val (.long ((f5_v21 j0) * ((2 : Int64) - (j0 * (f5_v21 j0))))), .second] [(.long ((f5_v21 j0) * ((2 : Int64) - (j0 * (f5_v21 j0)))))])) rfl (hb hby d5_33) _ ?_
    show Steps p.tables e below (s₁.setTop (mkF m 36 #[.val (.long j0), .second, .val (.long ((f5_v21 j0) * ((2 : Int64) - (j0 * (f5_v21 j0))))), .second] [(.long (2 : Int64)), (.long ((f5_v21 j0) * ((2 : Int64) - (j0 * (f5_v21 j0)))))])) _
    refine XS.lloadN X0.here hx rfl (hb hby d5_36) rfl ?_
    show Steps p.tables e below (s₁.setTop (mkF m 37 #[.val (.long j0), .second, .val (.long ((f5_v21 j0) * ((2 : Int64) - (j0 * (f5_v21 j0))))), .second] [(.long j0), (.long (2 : Int64)), (.long ((f5_v21 j0) * ((2 : Int64) - (j0 * (f5_v21 j0)))))])) _
    refine XS.lloadN X0.here hx rfl (hb hby d5_37) rfl ?_
    show Steps p.tables e below (s₁.setTop (mkF m 38 #[.val (.long j0), .second, .val (.long ((f5_v21 j0) * ((2 : Int64) - (j0 * (f5_v21 j0))))), .second] [(.long ((f5_v21 j0) * ((2 : Int64) - (j0 * (f5_v21 j0))))), (.long j0), (.long (2 : Int64)), (.long ((f5_v21 j0) * ((2 : Int64) - (j0 * (f5_v21 j0)))))])) _
    refine XS.lmul X0.here hx rfl (hb hby d5_38) rfl ?_
    show Steps p.tables e below (s₁.setTop (mkF m 39 #[.val (.long j0), .second, .val (.long ((f5_v21 j0) * ((2 : Int64) - (j0 * (f5_v21 j0))))), .second] [(.long (j0 * ((f5_v21 j0) * ((2 : Int64) - (j0 * (f5_v21 j0)))))), (.long (2 : Int64)), (.long ((f5_v21 j0) * ((2 : Int64) - (j0 * (f5_v21 j0)))))])) _
    refine XS.lsub X0.here hx rfl (hb hby d5_39) rfl ?_
    show Steps p.tables e below (s₁.setTop (mkF m 40 #[.val (.long j0), .second, .val (.long ((f5_v21 j0) * ((2 : Int64) - (j0 * (f5_v21 j0))))), .second] [(.long ((2 : Int64) - (j0 * ((f5_v21 j0) * ((2 : Int64) - (j0 * (f5_v21 j0))))))), (.long ((f5_v21 j0) * ((2 : Int64) - (j0 * (f5_v21 j0)))))])) _
    refine XS.lmul X0.here hx rfl (hb hby d5_40) rfl ?_
    show Steps p.tables e below (s₁.setTop (mkF m 41 #[.val (.long j0), .second, .val (.long ((f5_v21 j0) * ((2 : Int64) - (j0 * (f5_v21 j0))))), .second] [(.long (((f5_v21 j0) * ((2 : Int64) - (j0 * (f5_v21 j0)))) * ((2 : Int64) - (j0 * ((f5_v21 j0) * ((2 : Int64) - (j0 * (f5_v21 j0))))))))])) _
    refine XS.lstoreN X0.here hx rfl (hb hby d5_41) rfl (l' := #[.val (.long j0), .second, .val (.long (f5_v41 j0)), .second]) rfl ?_
    show Steps p.tables e below (s₁.setTop (mkF m 42 #[.val (.long j0), .second, .val (.long (f5_v41 j0)), .second] [])) _
    refine XS.lloadN X0.here hx rfl (hb hby d5_42) rfl ?_
    show Steps p.tables e below (s₁.setTop (mkF m 43 #[.val (.long j0), .second, .val (.long (f5_v41 j0)), .second] [(.long (f5_v41 j0))])) _
    refine X0.ldc2Long hx hown (mvT hZ (hw _ (List.mem_of_getElem? (i := 28) rfl))) (g := (mkF m 43 #[.val (.long j0), .second, .val (.long (f5_v41 j0)), .second] [(.long (f5_v41 j0))])) rfl (hb hby d5_43) _ ?_
    show Steps p.tables e below (s₁.setTop (mkF m 46 #[.val (.long j0), .second, .val (.long (f5_v41 j0)), .second] [(.long (2 : Int64)), (.long (f5_v41 j0))])) _
    refine XS.lloadN X0.here hx rfl (hb hby d5_46) rfl ?_
    show Steps p.tables e below (s₁.setTop (mkF m 47 #[.val (.long j0), .second, .val (.long (f5_v41 j0)), .second] [(.long j0), (.long (2 : Int64)), (.long (f5_v41 j0))])) _
    refine XS.lloadN X0.here hx rfl (hb hby d5_47) rfl ?_
    show Steps p.tables e below (s₁.setTop (mkF m 48 #[.val (.long j0), .second, .val (.long (f5_v41 j0)), .second] [(.long (f5_v41 j0)), (.long j0), (.long (2 : Int64)), (.long (f5_v41 j0))])) _
    refine XS.lmul X0.here hx rfl (hb hby d5_48) rfl ?_
    show Steps p.tables e below (s₁.setTop (mkF m 49 #[.val (.long j0), .second, .val (.long (f5_v41 j0)), .second] [(.long (j0 * (f5_v41 j0))), (.long (2 : Int64)), (.long (f5_v41 j0))])) _
    refine XS.lsub X0.here hx rfl (hb hby d5_49) rfl ?_
    show Steps p.tables e below (s₁.setTop (mkF m 50 #[.val (.long j0), .second, .val (.long (f5_v41 j0)), .second] [(.long ((2 : Int64) - (j0 * (f5_v41 j0)))), (.long (f5_v41 j0))])) _
    refine XS.lmul X0.here hx rfl (hb hby d5_50) rfl ?_
    show Steps p.tables e below (s₁.setTop (mkF m 51 #[.val (.long j0), .second, .val (.long (f5_v41 j0)), .second] [(.long ((f5_v41 j0) * ((2 : Int64) - (j0 * (f5_v41 j0)))))])) _
    refine XS.lstoreN X0.here hx rfl (hb hby d5_51) rfl (l' := #[.val (.long j0), .second, .val (.long ((f5_v41 j0) * ((2 : Int64) - (j0 * (f5_v41 j0))))), .second]) rfl ?_
    show Steps p.tables e below (s₁.setTop (mkF m 52 #[.val (.long j0), .second, .val (.long ((f5_v41 j0) * ((2 : Int64) - (j0 * (f5_v41 j0))))), .second] [])) _
    refine XS.lloadN X0.here hx rfl (hb hby d5_52) rfl ?_
    show Steps p.tables e below (s₁.setTop (mkF m 53 #[.val (.long j0), .second, .val (.long ((f5_v41 j0) * ((2 : Int64) - (j0 * (f5_v41 j0))))), .second] [(.long ((f5_v41 j0) * ((2 : Int64) - (j0 * (f5_v41 j0)))))])) _
    exact k
  exact Outs.retL X0 hx hret (hb hby d5_53) hlk (by decide) (by decide) e0 ⟨congrArg (fun z_ => some (Value.long z_)) (show (F_f5 j0) = ((f5_v41 j0) * ((2 : Int64) - (j0 * (f5_v41 j0)))) from rfl).symm, N0, rfl⟩
theorem ef_4 (m : MethodId) (x0 : Int64) : entryFrame m #[(.long x0)] 14 = mkF m 0 #[.val (.long x0), .second, .unset, .unset, .unset, .unset, .unset, .unset, .unset, .unset, .unset, .unset, .unset, .unset] [] := by first | (simp [entryFrame, mkF, argsToLocals, Value.category]; done) | rfl
theorem d4_0 : decode method_3_code 0 = .ok (.ldc2_w 9, 3) := by decide +kernel
theorem pd_3 : parseMethodDescriptor "(J)J" = some ⟨[.long], some .long⟩ := by decide +kernel
theorem d4_3 : decode method_3_code 3 = .ok (.invokestatic 11, 3) := by decide +kernel
theorem d4_6 : decode method_3_code 6 = .ok (.lstore_n 2, 1) := by decide +kernel
theorem d4_7 : decode method_3_code 7 = .ok (.ldc2_w 17, 3) := by decide +kernel
theorem d4_10 : decode method_3_code 10 = .ok (.invokestatic 11, 3) := by decide +kernel
theorem d4_13 : decode method_3_code 13 = .ok (.lstore 4, 2) := by decide +kernel
theorem d4_15 : decode method_3_code 15 = .ok (.lload_n 0, 1) := by decide +kernel
theorem d4_16 : decode method_3_code 16 = .ok (.lload_n 0, 1) := by decide +kernel
theorem d4_17 : decode method_3_code 17 = .ok (.bipush 31, 2) := by decide +kernel
theorem d4_19 : decode method_3_code 19 = .ok (.lushr, 1) := by decide +kernel
theorem d4_20 : decode method_3_code 20 = .ok (.lxor, 1) := by decide +kernel
theorem d4_21 : decode method_3_code 21 = .ok (.lload_n 0, 1) := by decide +kernel
theorem d4_22 : decode method_3_code 22 = .ok (.bipush 62, 2) := by decide +kernel
theorem d4_24 : decode method_3_code 24 = .ok (.lushr, 1) := by decide +kernel
theorem d4_25 : decode method_3_code 25 = .ok (.lxor, 1) := by decide +kernel
theorem d4_26 : decode method_3_code 26 = .ok (.lstore 6, 2) := by decide +kernel
theorem d4_28 : decode method_3_code 28 = .ok (.lload 6, 2) := by decide +kernel
theorem d4_30 : decode method_3_code 30 = .ok (.lload 4, 2) := by decide +kernel
theorem d4_32 : decode method_3_code 32 = .ok (.lmul, 1) := by decide +kernel
theorem d4_33 : decode method_3_code 33 = .ok (.lstore 8, 2) := by decide +kernel
theorem d4_35 : decode method_3_code 35 = .ok (.lload 8, 2) := by decide +kernel
theorem d4_37 : decode method_3_code 37 = .ok (.lload 8, 2) := by decide +kernel
theorem d4_39 : decode method_3_code 39 = .ok (.bipush 27, 2) := by decide +kernel
theorem d4_41 : decode method_3_code 41 = .ok (.lushr, 1) := by decide +kernel
theorem d4_42 : decode method_3_code 42 = .ok (.lxor, 1) := by decide +kernel
theorem d4_43 : decode method_3_code 43 = .ok (.lload 8, 2) := by decide +kernel
theorem d4_45 : decode method_3_code 45 = .ok (.bipush 54, 2) := by decide +kernel
theorem d4_47 : decode method_3_code 47 = .ok (.lushr, 1) := by decide +kernel
theorem d4_48 : decode method_3_code 48 = .ok (.lxor, 1) := by decide +kernel
theorem d4_49 : decode method_3_code 49 = .ok (.lstore 10, 2) := by decide +kernel
theorem d4_51 : decode method_3_code 51 = .ok (.lload 10, 2) := by decide +kernel
theorem d4_53 : decode method_3_code 53 = .ok (.lload_n 2, 1) := by decide +kernel
theorem d4_54 : decode method_3_code 54 = .ok (.lmul, 1) := by decide +kernel
theorem d4_55 : decode method_3_code 55 = .ok (.lstore 12, 2) := by decide +kernel
theorem d4_57 : decode method_3_code 57 = .ok (.lload 12, 2) := by decide +kernel
theorem d4_59 : decode method_3_code 59 = .ok (.lload 12, 2) := by decide +kernel
theorem d4_61 : decode method_3_code 61 = .ok (.bipush 30, 2) := by decide +kernel
theorem d4_63 : decode method_3_code 63 = .ok (.lushr, 1) := by decide +kernel
theorem d4_64 : decode method_3_code 64 = .ok (.lxor, 1) := by decide +kernel
theorem d4_65 : decode method_3_code 65 = .ok (.lload 12, 2) := by decide +kernel
theorem d4_67 : decode method_3_code 67 = .ok (.bipush 60, 2) := by decide +kernel
theorem d4_69 : decode method_3_code 69 = .ok (.lushr, 1) := by decide +kernel
theorem d4_70 : decode method_3_code 70 = .ok (.lxor, 1) := by decide +kernel
theorem d4_71 : decode method_3_code 71 = .ok (.lreturn, 1) := by decide +kernel
def f4_v26 (j0 : Int64) : Int64 := ((j0 ^^^ ((j0.toUInt64 >>> ((31 : Int32) &&& 0x3f).toInt64.toUInt64).toInt64)) ^^^ ((j0.toUInt64 >>> ((62 : Int32) &&& 0x3f).toInt64.toUInt64).toInt64))
def f4_v49 (j0 : Int64) : Int64 := ((((f4_v26 j0) * (F_f5 (-7723592293110705685 : Int64))) ^^^ ((((f4_v26 j0) * (F_f5 (-7723592293110705685 : Int64))).toUInt64 >>> ((27 : Int32) &&& 0x3f).toInt64.toUInt64).toInt64)) ^^^ ((((f4_v26 j0) * (F_f5 (-7723592293110705685 : Int64))).toUInt64 >>> ((54 : Int32) &&& 0x3f).toInt64.toUInt64).toInt64))
def F_f4 (j0 : Int64) : Int64 := ((((f4_v49 j0) * (F_f5 (-4658895280553007687 : Int64))) ^^^ ((((f4_v49 j0) * (F_f5 (-4658895280553007687 : Int64))).toUInt64 >>> ((30 : Int32) &&& 0x3f).toInt64.toUInt64).toInt64)) ^^^ ((((f4_v49 j0) * (F_f5 (-4658895280553007687 : Int64))).toUInt64 >>> ((60 : Int32) &&& 0x3f).toInt64.toUInt64).toInt64))
set_option maxRecDepth 65536 in
set_option maxHeartbeats 40000000 in
theorem rm4 (l : Launch) (Z : State) (a0 : Array Value) (hw : ∀ d ∈ tables_1, d.before a0 Z = true) (ws : List Jvm.Cond) (j0 : Int64)  (h0 : Heap) (n0 : Nat)  :
    MetFree l (⟨"com/example/bitmend/bitmend/SplitMix64NextLongPinLaw", "unmix", "(J)J"⟩ : MethodName) (head1 (Jvm.Cond.code (⟨"com/example/bitmend/bitmend/SplitMix64NextLongPinLaw", "unmix", "(J)J"⟩ : MethodName) method_3_code 14 (some .long) :: ws) ({ frames := 1, cells := 0, slots := 0, locals := 15 } : Room)) (fun a U => a = #[(.long j0)] ∧ Z.Warmed39 U.vm ∧ U.heap = h0) (fun _ _ _ _ _ => True) (fun _ U o U' => ∃ v L, o = .returned v ∧ QR (some (.long (F_f4 j0))) h0 n0 v U'.heap L ∧ FrameEnd U o U' L ({ frames := 1, cells := 0, slots := 0, locals := 15 } : Room).cells ({ frames := 1, cells := 0, slots := 0, locals := 15 } : Room).slots) := by
  refine MetFree.of_bodySF (plainFor_of_name pn_0) hisR ?_
  intro p e s m args below meth c s₁ Bd hml0 hP hK
  obtain ⟨rfl, hZ, hh⟩ := hP
  have hx := Bd.exec
  have hby := Bd.bytes
  have hml : c.maxLocals = 14 := hml0
  have hown : s.vm.findClass "com/example/bitmend/bitmend/SplitMix64NextLongPinLaw" = some m.cls := findClass_of_methodNamed Bd.named
  have hnm := (name_of_methodNamed Bd.named Bd.method).1
  have hret := Bd.returns
  have hlk : meth.locks = false := BodyLoose.notSynchronized Bd
  have X0 : Stand p l e ({ frames := 1, cells := 0, slots := 0, locals := 15 } : Room) s m #[(.long j0)] below meth c s₁ [] 0 0 := Stand.of_body Bd
  have e0 : s₁.heap = h0 := by rw [← hh, Bd.state]; rfl
  have N0 := Fr.nil n0
  show Outs p e below s (QR (some (.long (F_f4 j0))) h0 n0) _ _ _
  refine Outs.of (U' := s₁.setTop (mkF m 0 #[.val (.long j0), .second, .unset, .unset, .unset, .unset, .unset, .unset, .unset, .unset, .unset, .unset, .unset, .unset] [])) (fun t k => castTop (ef_4 m j0) k) ?_
  refine Outs.of (U' := s₁.setTop (mkF m 3 #[.val (.long j0), .second, .unset, .unset, .unset, .unset, .unset, .unset, .unset, .unset, .unset, .unset, .unset, .unset] [(.long (-4658895280553007687 : Int64))])) (fun t k => ?_) ?_
  · refine X0.ldc2Long hx hown (mvT hZ (hw _ (List.mem_of_getElem? (i := 24) rfl))) (g := (mkF m 0 #[.val (.long j0), .second, .unset, .unset, .unset, .unset, .unset, .unset, .unset, .unset, .unset, .unset, .unset, .unset] [])) rfl (hb hby d4_0) _ ?_
    show Steps p.tables e below (s₁.setTop (mkF m 3 #[.val (.long j0), .second, .unset, .unset, .unset, .unset, .unset, .unset, .unset, .unset, .unset, .unset, .unset, .unset] [(.long (-4658895280553007687 : Int64))])) _
    exact k
  obtain ⟨_, _, ⟨T1, L1, k1, n1⟩, -, X1, ⟨Lc1, hQ1, l1, y1, z1⟩, st1⟩ := Jvm.LawKit.callS X0 hx (y := (⟨"com/example/bitmend/bitmend/SplitMix64NextLongPinLaw", "inverse", "(J)J"⟩ : MethodName)) hown (mvT hZ (hw _ (List.mem_of_getElem? (i := 25) rfl))) (mvT hZ (hw _ (List.mem_of_getElem? (i := 26) rfl))) (mvT hZ (hw _ (List.mem_of_getElem? (i := 22) rfl))) (mvT hZ (hw _ (List.mem_of_getElem? (i := 27) rfl))) (by decide) (backOf (W := 0) (rm5 l Z a0 hw [] (-4658895280553007687 : Int64) h0 n0 ) hZ (hw _ (List.mem_of_getElem? (i := 27) rfl)) (hw _ (List.mem_of_getElem? (i := 22) rfl)) (by decide) (by decide)) (g := (mkF m 3 #[.val (.long j0), .second, .unset, .unset, .unset, .unset, .unset, .unset, .unset, .unset, .unset, .unset, .unset, .unset] [(.long (-4658895280553007687 : Int64))])) rfl (by rw [hml]; rfl) (argsL := [(.long (-4658895280553007687 : Int64))]) (rest := []) (lenOf pd_3 rfl) rfl (by show 2 * 0 + _ ≤ _; exact Nat.le_of_eq rfl) (hb hby d4_3) (fun _ _ => ⟨rfl, e0, (by decide : 0 + 0 ≤ _), (by decide : 0 + 0 ≤ _)⟩)
  dsimp only [Pt.U, Pt.locs, Pt.cells, Pt.slots] at X1 l1 y1 z1 st1 hQ1
  subst l1 y1 z1
  obtain ⟨rfl, N1q, e1⟩ := hQ1
  have N1 := Fr.app N0 N1q
  refine Outs.of st1 ?_
  show Outs p e below s _ _ _ (T1.setTop (mkF m 6 #[.val (.long j0), .second, .unset, .unset, .unset, .unset, .unset, .unset, .unset, .unset, .unset, .unset, .unset, .unset] [(.long (F_f5 (-4658895280553007687 : Int64)))]))
  refine Outs.of (U' := T1.setTop (mkF m 10 #[.val (.long j0), .second, .val (.long (F_f5 (-4658895280553007687 : Int64))), .second, .unset, .unset, .unset, .unset, .unset, .unset, .unset, .unset, .unset, .unset] [(.long (-7723592293110705685 : Int64))])) (fun t k => ?_) ?_
  · refine XS.lstoreN X1.here hx rfl (hb hby d4_6) rfl (l' := #[.val (.long j0), .second, .val (.long (F_f5 (-4658895280553007687 : Int64))), .second, .unset, .unset, .unset, .unset, .unset, .unset, .unset, .unset, .unset, .unset]) rfl ?_
    show Steps p.tables e below (T1.setTop (mkF m 7 #[.val (.long j0), .second, .val (.long (F_f5 (-4658895280553007687 : Int64))), .second, .unset, .unset, .unset, .unset, .unset, .unset, .unset, .unset, .unset, .unset] [])) _
    refine X1.ldc2Long hx hown (mvT hZ (hw _ (List.mem_of_getElem? (i := 29) rfl))) (g := (mkF m 7 #[.val (.long j0), .second, .val (.long (F_f5 (-4658895280553007687 : Int64))), .second, .unset, .unset, .unset, .unset, .unset, .unset, .unset, .unset, .unset, .unset] [])) rfl (hb hby d4_7) _ ?_
    show Steps p.tables e below (T1.setTop (mkF m 10 #[.val (.long j0), .second, .val (.long (F_f5 (-4658895280553007687 : Int64))), .second, .unset, .unset, .unset, .unset, .unset, .unset, .unset, .unset, .unset, .unset] [(.long (-7723592293110705685 : Int64))])) _
    exact k
  obtain ⟨_, _, ⟨T2, L2, k2, n2⟩, -, X2, ⟨Lc2, hQ2, l2, y2, z2⟩, st2⟩ := Jvm.LawKit.callS X1 hx (y := (⟨"com/example/bitmend/bitmend/SplitMix64NextLongPinLaw", "inverse", "(J)J"⟩ : MethodName)) hown (mvT hZ (hw _ (List.mem_of_getElem? (i := 25) rfl))) (mvT hZ (hw _ (List.mem_of_getElem? (i := 26) rfl))) (mvT hZ (hw _ (List.mem_of_getElem? (i := 22) rfl))) (mvT hZ (hw _ (List.mem_of_getElem? (i := 27) rfl))) (by decide) (backOf (W := 0) (rm5 l Z a0 hw [] (-7723592293110705685 : Int64) h0 n0 ) hZ (hw _ (List.mem_of_getElem? (i := 27) rfl)) (hw _ (List.mem_of_getElem? (i := 22) rfl)) (by decide) (by decide)) (g := (mkF m 10 #[.val (.long j0), .second, .val (.long (F_f5 (-4658895280553007687 : Int64))), .second, .unset, .unset, .unset, .unset, .unset, .unset, .unset, .unset, .unset, .unset] [(.long (-7723592293110705685 : Int64))])) rfl (by rw [hml]; rfl) (argsL := [(.long (-7723592293110705685 : Int64))]) (rest := []) (lenOf pd_3 rfl) rfl (by show 2 * 0 + _ ≤ _; exact Nat.le_of_eq rfl) (hb hby d4_10) (fun _ _ => ⟨rfl, e1, (by decide : 0 + 0 ≤ _), (by decide : 0 + 0 ≤ _)⟩)
  dsimp only [Pt.U, Pt.locs, Pt.cells, Pt.slots] at X2 l2 y2 z2 st2 hQ2
  subst l2 y2 z2
  obtain ⟨rfl, N2q, e2⟩ := hQ2
  have N2 := Fr.app N1 N2q
  refine Outs.of st2 ?_
  show Outs p e below s _ _ _ (T2.setTop (mkF m 13 #[.val (.long j0), .second, .val (.long (F_f5 (-4658895280553007687 : Int64))), .second, .unset, .unset, .unset, .unset, .unset, .unset, .unset, .unset, .unset, .unset] [(.long (F_f5 (-7723592293110705685 : Int64)))]))
  refine Outs.of (U' := T2.setTop (mkF m 71 #[.val (.long j0), .second, .val (.long (F_f5 (-4658895280553007687 : Int64))), .second, .val (.long (F_f5 (-7723592293110705685 : Int64))), .second, .val (.long (f4_v26 j0)), .second, .val (.long ((f4_v26 j0) * (F_f5 (-7723592293110705685 : Int64)))), .second, .val (.long (f4_v49 j0)), .second, .val (.long ((f4_v49 j0) * (F_f5 (-4658895280553007687 : Int64)))), .second] [(.long ((((f4_v49 j0) * (F_f5 (-4658895280553007687 : Int64))) ^^^ ((((f4_v49 j0) * (F_f5 (-4658895280553007687 : Int64))).toUInt64 >>> ((30 : Int32) &&& 0x3f).toInt64.toUInt64).toInt64)) ^^^ ((((f4_v49 j0) * (F_f5 (-4658895280553007687 : Int64))).toUInt64 >>> ((60 : Int32) &&& 0x3f).toInt64.toUInt64).toInt64)))])) (fun t k => ?_) ?_
  · refine XS.lstore X2.here hx rfl (hb hby d4_13) rfl (l' := #[.val (.long j0), .second, .val (.long (F_f5 (-4658895280553007687 : Int64))), .second, .val (.long (F_f5 (-7723592293110705685 : Int64))), .second, .unset, .unset, .unset, .unset, .unset, .unset, .unset, .unset]) rfl ?_
    show Steps p.tables e below (T2.setTop (mkF m 15 #[.val (.long j0), .second, .val (.long (F_f5 (-4658895280553007687 : Int64))), .second, .val (.long (F_f5 (-7723592293110705685 : Int64))), .second, .unset, .unset, .unset, .unset, .unset, .unset, .unset, .unset] [])) _
    refine XS.lloadN X2.here hx rfl (hb hby d4_15) rfl ?_
    show Steps p.tables e below (T2.setTop (mkF m 16 #[.val (.long j0), .second, .val (.long (F_f5 (-4658895280553007687 : Int64))), .second, .val (.long (F_f5 (-7723592293110705685 : Int64))), .second, .unset, .unset, .unset, .unset, .unset, .unset, .unset, .unset] [(.long j0)])) _
    refine XS.lloadN X2.here hx rfl (hb hby d4_16) rfl ?_
    show Steps p.tables e below (T2.setTop (mkF m 17 #[.val (.long j0), .second, .val (.long (F_f5 (-4658895280553007687 : Int64))), .second, .val (.long (F_f5 (-7723592293110705685 : Int64))), .second, .unset, .unset, .unset, .unset, .unset, .unset, .unset, .unset] [(.long j0), (.long j0)])) _
    refine XS.bipush X2.here hx rfl (hb hby d4_17) ?_
    show Steps p.tables e below (T2.setTop (mkF m 19 #[.val (.long j0), .second, .val (.long (F_f5 (-4658895280553007687 : Int64))), .second, .val (.long (F_f5 (-7723592293110705685 : Int64))), .second, .unset, .unset, .unset, .unset, .unset, .unset, .unset, .unset] [(.int (31 : Int32)), (.long j0), (.long j0)])) _
    refine XS.lushr X2.here hx rfl (hb hby d4_19) rfl ?_
    show Steps p.tables e below (T2.setTop (mkF m 20 #[.val (.long j0), .second, .val (.long (F_f5 (-4658895280553007687 : Int64))), .second, .val (.long (F_f5 (-7723592293110705685 : Int64))), .second, .unset, .unset, .unset, .unset, .unset, .unset, .unset, .unset] [(.long ((j0.toUInt64 >>> ((31 : Int32) &&& 0x3f).toInt64.toUInt64).toInt64)), (.long j0)])) _
    refine XS.lxor X2.here hx rfl (hb hby d4_20) rfl ?_
    show Steps p.tables e below (T2.setTop (mkF m 21 #[.val (.long j0), .second, .val (.long (F_f5 (-4658895280553007687 : Int64))), .second, .val (.long (F_f5 (-7723592293110705685 : Int64))), .second, .unset, .unset, .unset, .unset, .unset, .unset, .unset, .unset] [(.long (j0 ^^^ ((j0.toUInt64 >>> ((31 : Int32) &&& 0x3f).toInt64.toUInt64).toInt64)))])) _
    refine XS.lloadN X2.here hx rfl (hb hby d4_21) rfl ?_
    show Steps p.tables e below (T2.setTop (mkF m 22 #[.val (.long j0), .second, .val (.long (F_f5 (-4658895280553007687 : Int64))), .second, .val (.long (F_f5 (-7723592293110705685 : Int64))), .second, .unset, .unset, .unset, .unset, .unset, .unset, .unset, .unset] [(.long j0), (.long (j0 ^^^ ((j0.toUInt64 >>> ((31 : Int32) &&& 0x3f).toInt64.toUInt64).toInt64)))])) _
    refine XS.bipush X2.here hx rfl (hb hby d4_22) ?_
    show Steps p.tables e below (T2.setTop (mkF m 24 #[.val (.long j0), .second, .val (.long (F_f5 (-4658895280553007687 : Int64))), .second, .val (.long (F_f5 (-7723592293110705685 : Int64))), .second, .unset, .unset, .unset, .unset, .unset, .unset, .unset, .unset] [(.int (62 : Int32)), (.long j0), (.long (j0 ^^^ ((j0.toUInt64 >>> ((31 : Int32) &&& 0x3f).toInt64.toUInt64).toInt64)))])) _
    refine XS.lushr X2.here hx rfl (hb hby d4_24) rfl ?_
    show Steps p.tables e below (T2.setTop (mkF m 25 #[.val (.long j0), .second, .val (.long (F_f5 (-4658895280553007687 : Int64))), .second, .val (.long (F_f5 (-7723592293110705685 : Int64))), .second, .unset, .unset, .unset, .unset, .unset, .unset, .unset, .unset] [(.long ((j0.toUInt64 >>> ((62 : Int32) &&& 0x3f).toInt64.toUInt64).toInt64)), (.long (j0 ^^^ ((j0.toUInt64 >>> ((31 : Int32) &&& 0x3f).toInt64.toUInt64).toInt64)))])) _
    refine XS.lxor X2.here hx rfl (hb hby d4_25) rfl ?_
    show Steps p.tables e below (T2.setTop (mkF m 26 #[.val (.long j0), .second, .val (.long (F_f5 (-4658895280553007687 : Int64))), .second, .val (.long (F_f5 (-7723592293110705685 : Int64))), .second, .unset, .unset, .unset, .unset, .unset, .unset, .unset, .unset] [(.long ((j0 ^^^ ((j0.toUInt64 >>> ((31 : Int32) &&& 0x3f).toInt64.toUInt64).toInt64)) ^^^ ((j0.toUInt64 >>> ((62 : Int32) &&& 0x3f).toInt64.toUInt64).toInt64)))])) _
    refine XS.lstore X2.here hx rfl (hb hby d4_26) rfl (l' := #[.val (.long j0), .second, .val (.long (F_f5 (-4658895280553007687 : Int64))), .second, .val (.long (F_f5 (-7723592293110705685 : Int64))), .second, .val (.long (f4_v26 j0)), .second, .unset, .unset, .unset, .unset, .unset, .unset]) rfl ?_
    show Steps p.tables e below (T2.setTop (mkF m 28 #[.val (.long j0), .second, .val (.long (F_f5 (-4658895280553007687 : Int64))), .second, .val (.long (F_f5 (-7723592293110705685 : Int64))), .second, .val (.long (f4_v26 j0)), .second, .unset, .unset, .unset, .unset, .unset, .unset] [])) _
    refine XS.lload X2.here hx rfl (hb hby d4_28) rfl ?_
    show Steps p.tables e below (T2.setTop (mkF m 30 #[.val (.long j0), .second, .val (.long (F_f5 (-4658895280553007687 : Int64))), .second, .val (.long (F_f5 (-7723592293110705685 : Int64))), .second, .val (.long (f4_v26 j0)), .second, .unset, .unset, .unset, .unset, .unset, .unset] [(.long (f4_v26 j0))])) _
    refine XS.lload X2.here hx rfl (hb hby d4_30) rfl ?_
    show Steps p.tables e below (T2.setTop (mkF m 32 #[.val (.long j0), .second, .val (.long (F_f5 (-4658895280553007687 : Int64))), .second, .val (.long (F_f5 (-7723592293110705685 : Int64))), .second, .val (.long (f4_v26 j0)), .second, .unset, .unset, .unset, .unset, .unset, .unset] [(.long (F_f5 (-7723592293110705685 : Int64))), (.long (f4_v26 j0))])) _
    refine XS.lmul X2.here hx rfl (hb hby d4_32) rfl ?_
    show Steps p.tables e below (T2.setTop (mkF m 33 #[.val (.long j0), .second, .val (.long (F_f5 (-4658895280553007687 : Int64))), .second, .val (.long (F_f5 (-7723592293110705685 : Int64))), .second, .val (.long (f4_v26 j0)), .second, .unset, .unset, .unset, .unset, .unset, .unset] [(.long ((f4_v26 j0) * (F_f5 (-7723592293110705685 : Int64))))])) _
    refine XS.lstore X2.here hx rfl (hb hby d4_33) rfl (l' := #[.val (.long j0), .second, .val (.long (F_f5 (-4658895280553007687 : Int64))), .second, .val (.long (F_f5 (-7723592293110705685 : Int64))), .second, .val (.long (f4_v26 j0)), .second, .val (.long ((f4_v26 j0) * (F_f5 (-7723592293110705685 : Int64)))), .second, .unset, .unset, .unset, .unset]) rfl ?_
    show Steps p.tables e below (T2.setTop (mkF m 35 #[.val (.long j0), .second, .val (.long (F_f5 (-4658895280553007687 : Int64))), .second, .val (.long (F_f5 (-7723592293110705685 : Int64))), .second, .val (.long (f4_v26 j0)), .second, .val (.long ((f4_v26 j0) * (F_f5 (-7723592293110705685 : Int64)))), .second, .unset, .unset, .unset, .unset] [])) _
    refine XS.lload X2.here hx rfl (hb hby d4_35) rfl ?_
    show Steps p.tables e below (T2.setTop (mkF m 37 #[.val (.long j0), .second, .val (.long (F_f5 (-4658895280553007687 : Int64))), .second, .val (.long (F_f5 (-7723592293110705685 : Int64))), .second, .val (.long (f4_v26 j0)), .second, .val (.long ((f4_v26 j0) * (F_f5 (-7723592293110705685 : Int64)))), .second, .unset, .unset, .unset, .unset] [(.long ((f4_v26 j0) * (F_f5 (-7723592293110705685 : Int64))))])) _
    refine XS.lload X2.here hx rfl (hb hby d4_37) rfl ?_
    show Steps p.tables e below (T2.setTop (mkF m 39 #[.val (.long j0), .second, .val (.long (F_f5 (-4658895280553007687 : Int64))), .second, .val (.long (F_f5 (-7723592293110705685 : Int64))), .second, .val (.long (f4_v26 j0)), .second, .val (.long ((f4_v26 j0) * (F_f5 (-7723592293110705685 : Int64)))), .second, .unset, .unset, .unset, .unset] [(.long ((f4_v26 j0) * (F_f5 (-7723592293110705685 : Int64)))), (.long ((f4_v26 j0) * (F_f5 (-7723592293110705685 : Int64))))])) _
    refine XS.bipush X2.here hx rfl (hb hby d4_39) ?_
    show Steps p.tables e below (T2.setTop (mkF m 41 #[.val (.long j0), .second, .val (.long (F_f5 (-4658895280553007687 : Int64))), .second, .val (.long (F_f5 (-7723592293110705685 : Int64))), .second, .val (.long (f4_v26 j0)), .second, .val (.long ((f4_v26 j0) * (F_f5 (-7723592293110705685 : Int64)))), .second, .unset, .unset, .unset, .unset] [(.int (27 : Int32)), (.long ((f4_v26 j0) * (F_f5 (-7723592293110705685 : Int64)))), (.long ((f4_v26 j0) * (F_f5 (-7723592293110705685 : Int64))))])) _
    refine XS.lushr X2.here hx rfl (hb hby d4_41) rfl ?_
    show Steps p.tables e below (T2.setTop (mkF m 42 #[.val (.long j0), .second, .val (.long (F_f5 (-4658895280553007687 : Int64))), .second, .val (.long (F_f5 (-7723592293110705685 : Int64))), .second, .val (.long (f4_v26 j0)), .second, .val (.long ((f4_v26 j0) * (F_f5 (-7723592293110705685 : Int64)))), .second, .unset, .unset, .unset, .unset] [(.long ((((f4_v26 j0) * (F_f5 (-7723592293110705685 : Int64))).toUInt64 >>> ((27 : Int32) &&& 0x3f).toInt64.toUInt64).toInt64)), (.long ((f4_v26 j0) * (F_f5 (-7723592293110705685 : Int64))))])) _
    refine XS.lxor X2.here hx rfl (hb hby d4_42) rfl ?_
    show Steps p.tables e below (T2.setTop (mkF m 43 #[.val (.long j0), .second, .val (.long (F_f5 (-4658895280553007687 : Int64))), .second, .val (.long (F_f5 (-7723592293110705685 : Int64))), .second, .val (.long (f4_v26 j0)), .second, .val (.long ((f4_v26 j0) * (F_f5 (-7723592293110705685 : Int64)))), .second, .unset, .unset, .unset, .unset] [(.long (((f4_v26 j0) * (F_f5 (-7723592293110705685 : Int64))) ^^^ ((((f4_v26 j0) * (F_f5 (-7723592293110705685 : Int64))).toUInt64 >>> ((27 : Int32) &&& 0x3f).toInt64.toUInt64).toInt64)))])) _
    refine XS.lload X2.here hx rfl (hb hby d4_43) rfl ?_
    show Steps p.tables e below (T2.setTop (mkF m 45 #[.val (.long j0), .second, .val (.long (F_f5 (-4658895280553007687 : Int64))), .second, .val (.long (F_f5 (-7723592293110705685 : Int64))), .second, .val (.long (f4_v26 j0)), .second, .val (.long ((f4_v26 j0) * (F_f5 (-7723592293110705685 : Int64)))), .second, .unset, .unset, .unset, .unset] [(.long ((f4_v26 j0) * (F_f5 (-7723592293110705685 : Int64)))), (.long (((f4_v26 j0) * (F_f5 (-7723592293110705685 : Int64))) ^^^ ((((f4_v26 j0) * (F_f5 (-7723592293110705685 : Int64))).toUInt64 >>> ((27 : Int32) &&& 0x3f).toInt64.toUInt64).toInt64)))])) _
    refine XS.bipush X2.here hx rfl (hb hby d4_45) ?_
    show Steps p.tables e below (T2.setTop (mkF m 47 #[.val (.long j0), .second, .val (.long (F_f5 (-4658895280553007687 : Int64))), .second, .val (.long (F_f5 (-7723592293110705685 : Int64))), .second, .val (.long (f4_v26 j0)), .second, .val (.long ((f4_v26 j0) * (F_f5 (-7723592293110705685 : Int64)))), .second, .unset, .unset, .unset, .unset] [(.int (54 : Int32)), (.long ((f4_v26 j0) * (F_f5 (-7723592293110705685 : Int64)))), (.long (((f4_v26 j0) * (F_f5 (-7723592293110705685 : Int64))) ^^^ ((((f4_v26 j0) * (F_f5 (-7723592293110705685 : Int64))).toUInt64 >>> ((27 : Int32) &&& 0x3f).toInt64.toUInt64).toInt64)))])) _
    refine XS.lushr X2.here hx rfl (hb hby d4_47) rfl ?_
    show Steps p.tables e below (T2.setTop (mkF m 48 #[.val (.long j0), .second, .val (.long (F_f5 (-4658895280553007687 : Int64))), .second, .val (.long (F_f5 (-7723592293110705685 : Int64))), .second, .val (.long (f4_v26 j0)), .second, .val (.long ((f4_v26 j0) * (F_f5 (-7723592293110705685 : Int64)))), .second, .unset, .unset, .unset, .unset] [(.long ((((f4_v26 j0) * (F_f5 (-7723592293110705685 : Int64))).toUInt64 >>> ((54 : Int32) &&& 0x3f).toInt64.toUInt64).toInt64)), (.long (((f4_v26 j0) * (F_f5 (-7723592293110705685 : Int64))) ^^^ ((((f4_v26 j0) * (F_f5 (-7723592293110705685 : Int64))).toUInt64 >>> ((27 : Int32) &&& 0x3f).toInt64.toUInt64).toInt64)))])) _
    refine XS.lxor X2.here hx rfl (hb hby d4_48) rfl ?_
    show Steps p.tables e below (T2.setTop (mkF m 49 #[.val (.long j0), .second, .val (.long (F_f5 (-4658895280553007687 : Int64))), .second, .val (.long (F_f5 (-7723592293110705685 : Int64))), .second, .val (.long (f4_v26 j0)), .second, .val (.long ((f4_v26 j0) * (F_f5 (-7723592293110705685 : Int64)))), .second, .unset, .unset, .unset, .unset] [(.long ((((f4_v26 j0) * (F_f5 (-7723592293110705685 : Int64))) ^^^ ((((f4_v26 j0) * (F_f5 (-7723592293110705685 : Int64))).toUInt64 >>> ((27 : Int32) &&& 0x3f).toInt64.toUInt64).toInt64)) ^^^ ((((f4_v26 j0) * (F_f5 (-7723592293110705685 : Int64))).toUInt64 >>> ((54 : Int32) &&& 0x3f).toInt64.toUInt64).toInt64)))])) _
    refine XS.lstore X2.here hx rfl (hb hby d4_49) rfl (l' := #[.val (.long j0), .second, .val (.long (F_f5 (-4658895280553007687 : Int64))), .second, .val (.long (F_f5 (-7723592293110705685 : Int64))), .second, .val (.long (f4_v26 j0)), .second, .val (.long ((f4_v26 j0) * (F_f5 (-7723592293110705685 : Int64)))), .second, .val (.long (f4_v49 j0)), .second, .unset, .unset]) rfl ?_
    show Steps p.tables e below (T2.setTop (mkF m 51 #[.val (.long j0), .second, .val (.long (F_f5 (-4658895280553007687 : Int64))), .second, .val (.long (F_f5 (-7723592293110705685 : Int64))), .second, .val (.long (f4_v26 j0)), .second, .val (.long ((f4_v26 j0) * (F_f5 (-7723592293110705685 : Int64)))), .second, .val (.long (f4_v49 j0)), .second, .unset, .unset] [])) _
    refine XS.lload X2.here hx rfl (hb hby d4_51) rfl ?_
    show Steps p.tables e below (T2.setTop (mkF m 53 #[.val (.long j0), .second, .val (.long (F_f5 (-4658895280553007687 : Int64))), .second, .val (.long (F_f5 (-7723592293110705685 : Int64))), .second, .val (.long (f4_v26 j0)), .second, .val (.long ((f4_v26 j0) * (F_f5 (-7723592293110705685 : Int64)))), .second, .val (.long (f4_v49 j0)), .second, .unset, .unset] [(.long (f4_v49 j0))])) _
    refine XS.lloadN X2.here hx rfl (hb hby d4_53) rfl ?_
    show Steps p.tables e below (T2.setTop (mkF m 54 #[.val (.long j0), .second, .val (.long (F_f5 (-4658895280553007687 : Int64))), .second, .val (.long (F_f5 (-7723592293110705685 : Int64))), .second, .val (.long (f4_v26 j0)), .second, .val (.long ((f4_v26 j0) * (F_f5 (-7723592293110705685 : Int64)))), .second, .val (.long (f4_v49 j0)), .second, .unset, .unset] [(.long (F_f5 (-4658895280553007687 : Int64))), (.long (f4_v49 j0))])) _
    refine XS.lmul X2.here hx rfl (hb hby d4_54) rfl ?_
    show Steps p.tables e below (T2.setTop (mkF m 55 #[.val (.long j0), .second, .val (.long (F_f5 (-4658895280553007687 : Int64))), .second, .val (.long (F_f5 (-7723592293110705685 : Int64))), .second, .val (.long (f4_v26 j0)), .second, .val (.long ((f4_v26 j0) * (F_f5 (-7723592293110705685 : Int64)))), .second, .val (.long (f4_v49 j0)), .second, .unset, .unset] [(.long ((f4_v49 j0) * (F_f5 (-4658895280553007687 : Int64))))])) _
    refine XS.lstore X2.here hx rfl (hb hby d4_55) rfl (l' := #[.val (.long j0), .second, .val (.long (F_f5 (-4658895280553007687 : Int64))), .second, .val (.long (F_f5 (-7723592293110705685 : Int64))), .second, .val (.long (f4_v26 j0)), .second, .val (.long ((f4_v26 j0) * (F_f5 (-7723592293110705685 : Int64)))), .second, .val (.long (f4_v49 j0)), .second, .val (.long ((f4_v49 j0) * (F_f5 (-4658895280553007687 : Int64)))), .second]) rfl ?_
    show Steps p.tables e below (T2.setTop (mkF m 57 #[.val (.long j0), .second, .val (.long (F_f5 (-4658895280553007687 : Int64))), .second, .val (.long (F_f5 (-7723592293110705685 : Int64))), .second, .val (.long (f4_v26 j0)), .second, .val (.long ((f4_v26 j0) * (F_f5 (-7723592293110705685 : Int64)))), .second, .val (.long (f4_v49 j0)), .second, .val (.long ((f4_v49 j0) * (F_f5 (-4658895280553007687 : Int64)))), .second] [])) _
    refine XS.lload X2.here hx rfl (hb hby d4_57) rfl ?_
    show Steps p.tables e below (T2.setTop (mkF m 59 #[.val (.long j0), .second, .val (.long (F_f5 (-4658895280553007687 : Int64))), .second, .val (.long (F_f5 (-7723592293110705685 : Int64))), .second, .val (.long (f4_v26 j0)), .second, .val (.long ((f4_v26 j0) * (F_f5 (-7723592293110705685 : Int64)))), .second, .val (.long (f4_v49 j0)), .second, .val (.long ((f4_v49 j0) * (F_f5 (-4658895280553007687 : Int64)))), .second] [(.long ((f4_v49 j0) * (F_f5 (-4658895280553007687 : Int64))))])) _
    refine XS.lload X2.here hx rfl (hb hby d4_59) rfl ?_
    show Steps p.tables e below (T2.setTop (mkF m 61 #[.val (.long j0), .second, .val (.long (F_f5 (-4658895280553007687 : Int64))), .second, .val (.long (F_f5 (-7723592293110705685 : Int64))), .second, .val (.long (f4_v26 j0)), .second, .val (.long ((f4_v26 j0) * (F_f5 (-7723592293110705685 : Int64)))), .second, .val (.long (f4_v49 j0)), .second, .val (.long ((f4_v49 j0) * (F_f5 (-4658895280553007687 : Int64)))), .second] [(.long ((f4_v49 j0) * (F_f5 (-4658895280553007687 : Int64)))), (.long ((f4_v49 j0) * (F_f5 (-4658895280553007687 : Int64))))])) _
    refine XS.bipush X2.here hx rfl (hb hby d4_61) ?_
    show Steps p.tables e below (T2.setTop (mkF m 63 #[.val (.long j0), .second, .val (.long (F_f5 (-4658895280553007687 : Int64))), .second, .val (.long (F_f5 (-7723592293110705685 : Int64))), .second, .val (.long (f4_v26 j0)), .second, .val (.long ((f4_v26 j0) * (F_f5 (-7723592293110705685 : Int64)))), .second, .val (.long (f4_v49 j0)), .second, .val (.long ((f4_v49 j0) * (F_f5 (-4658895280553007687 : Int64)))), .second] [(.int (30 : Int32)), (.long ((f4_v49 j0) * (F_f5 (-4658895280553007687 : Int64)))), (.long ((f4_v49 j0) * (F_f5 (-4658895280553007687 : Int64))))])) _
    refine XS.lushr X2.here hx rfl (hb hby d4_63) rfl ?_
    show Steps p.tables e below (T2.setTop (mkF m 64 #[.val (.long j0), .second, .val (.long (F_f5 (-4658895280553007687 : Int64))), .second, .val (.long (F_f5 (-7723592293110705685 : Int64))), .second, .val (.long (f4_v26 j0)), .second, .val (.long ((f4_v26 j0) * (F_f5 (-7723592293110705685 : Int64)))), .second, .val (.long (f4_v49 j0)), .second, .val (.long ((f4_v49 j0) * (F_f5 (-4658895280553007687 : Int64)))), .second] [(.long ((((f4_v49 j0) * (F_f5 (-4658895280553007687 : Int64))).toUInt64 >>> ((30 : Int32) &&& 0x3f).toInt64.toUInt64).toInt64)), (.long ((f4_v49 j0) * (F_f5 (-4658895280553007687 : Int64))))])) _
    refine XS.lxor X2.here hx rfl (hb hby d4_64) rfl ?_
    show Steps p.tables e below (T2.setTop (mkF m 65 #[.val (.long j0), .second, .val (.long (F_f5 (-4658895280553007687 : Int64))), .second, .val (.long (F_f5 (-7723592293110705685 : Int64))), .second, .val (.long (f4_v26 j0)), .second, .val (.long ((f4_v26 j0) * (F_f5 (-7723592293110705685 : Int64)))), .second, .val (.long (f4_v49 j0)), .second, .val (.long ((f4_v49 j0) * (F_f5 (-4658895280553007687 : Int64)))), .second] [(.long (((f4_v49 j0) * (F_f5 (-4658895280553007687 : Int64))) ^^^ ((((f4_v49 j0) * (F_f5 (-4658895280553007687 : Int64))).toUInt64 >>> ((30 : Int32) &&& 0x3f).toInt64.toUInt64).toInt64)))])) _
    refine XS.lload X2.here hx rfl (hb hby d4_65) rfl ?_
    show Steps p.tables e below (T2.setTop (mkF m 67 #[.val (.long j0), .second, .val (.long (F_f5 (-4658895280553007687 : Int64))), .second, .val (.long (F_f5 (-7723592293110705685 : Int64))), .second, .val (.long (f4_v26 j0)), .second, .val (.long ((f4_v26 j0) * (F_f5 (-7723592293110705685 : Int64)))), .second, .val (.long (f4_v49 j0)), .second, .val (.long ((f4_v49 j0) * (F_f5 (-4658895280553007687 : Int64)))), .second] [(.long ((f4_v49 j0) * (F_f5 (-4658895280553007687 : Int64)))), (.long (((f4_v49 j0) * (F_f5 (-4658895280553007687 : Int64))) ^^^ ((((f4_v49 j0) * (F_f5 (-4658895280553007687 : Int64))).toUInt64 >>> ((30 : Int32) &&& 0x3f).toInt64.toUInt64).toInt64)))])) _
    refine XS.bipush X2.here hx rfl (hb hby d4_67) ?_
    show Steps p.tables e below (T2.setTop (mkF m 69 #[.val (.long j0), .second, .val (.long (F_f5 (-4658895280553007687 : Int64))), .second, .val (.long (F_f5 (-7723592293110705685 : Int64))), .second, .val (.long (f4_v26 j0)), .second, .val (.long ((f4_v26 j0) * (F_f5 (-7723592293110705685 : Int64)))), .second, .val (.long (f4_v49 j0)), .second, .val (.long ((f4_v49 j0) * (F_f5 (-4658895280553007687 : Int64)))), .second] [(.int (60 : Int32)), (.long ((f4_v49 j0) * (F_f5 (-4658895280553007687 : Int64)))), (.long (((f4_v49 j0) * (F_f5 (-4658895280553007687 : Int64))) ^^^ ((((f4_v49 j0) * (F_f5 (-4658895280553007687 : Int64))).toUInt64 >>> ((30 : Int32) &&& 0x3f).toInt64.toUInt64).toInt64)))])) _
    refine XS.lushr X2.here hx rfl (hb hby d4_69) rfl ?_
    show Steps p.tables e below (T2.setTop (mkF m 70 #[.val (.long j0), .second, .val (.long (F_f5 (-4658895280553007687 : Int64))), .second, .val (.long (F_f5 (-7723592293110705685 : Int64))), .second, .val (.long (f4_v26 j0)), .second, .val (.long ((f4_v26 j0) * (F_f5 (-7723592293110705685 : Int64)))), .second, .val (.long (f4_v49 j0)), .second, .val (.long ((f4_v49 j0) * (F_f5 (-4658895280553007687 : Int64)))), .second] [(.long ((((f4_v49 j0) * (F_f5 (-4658895280553007687 : Int64))).toUInt64 >>> ((60 : Int32) &&& 0x3f).toInt64.toUInt64).toInt64)), (.long (((f4_v49 j0) * (F_f5 (-4658895280553007687 : Int64))) ^^^ ((((f4_v49 j0) * (F_f5 (-4658895280553007687 : Int64))).toUInt64 >>> ((30 : Int32) &&& 0x3f).toInt64.toUInt64).toInt64)))])) _
    refine XS.lxor X2.here hx rfl (hb hby d4_70) rfl ?_
    show Steps p.tables e below (T2.setTop (mkF m 71 #[.val (.long j0), .second, .val (.long (F_f5 (-4658895280553007687 : Int64))), .second, .val (.long (F_f5 (-7723592293110705685 : Int64))), .second, .val (.long (f4_v26 j0)), .second, .val (.long ((f4_v26 j0) * (F_f5 (-7723592293110705685 : Int64)))), .second, .val (.long (f4_v49 j0)), .second, .val (.long ((f4_v49 j0) * (F_f5 (-4658895280553007687 : Int64)))), .second] [(.long ((((f4_v49 j0) * (F_f5 (-4658895280553007687 : Int64))) ^^^ ((((f4_v49 j0) * (F_f5 (-4658895280553007687 : Int64))).toUInt64 >>> ((30 : Int32) &&& 0x3f).toInt64.toUInt64).toInt64)) ^^^ ((((f4_v49 j0) * (F_f5 (-4658895280553007687 : Int64))).toUInt64 >>> ((60 : Int32) &&& 0x3f).toInt64.toUInt64).toInt64)))])) _
    exact k
  exact Outs.retL X2 hx hret (hb hby d4_71) hlk (by decide) (by decide) e2 ⟨congrArg (fun z_ => some (Value.long z_)) (show (F_f4 j0) = ((((f4_v49 j0) * (F_f5 (-4658895280553007687 : Int64))) ^^^ ((((f4_v49 j0) * (F_f5 (-4658895280553007687 : Int64))).toUInt64 >>> ((30 : Int32) &&& 0x3f).toInt64.toUInt64).toInt64)) ^^^ ((((f4_v49 j0) * (F_f5 (-4658895280553007687 : Int64))).toUInt64 >>> ((60 : Int32) &&& 0x3f).toInt64.toUInt64).toInt64)) from rfl).symm, N2, rfl⟩
theorem own_shr (x : Int64) (q : Int32) (k : Nat) (hk : q.toBitVec.toNat % 64 = k) : ((x.toUInt64 >>> (q &&& 0x3f).toInt64.toUInt64).toInt64).toBitVec = x.toBitVec >>> k := by
  have h5 := (sm64 q k hk).2
  show (x.toBitVec >>> ((q &&& 0x3f).toInt64.toBitVec % 64)) = x.toBitVec >>> k
  rw [BitVec.ushiftRight_eq', BitVec.toNat_umod, (sm64 q k hk).1, BitVec.toNat_ofNat]
  congr 1
  show k % 2 ^ 64 % 64 = k
  omega
theorem own_bv (x : BitVec 64) (k : Nat) (hk : 64 ≤ 3 * k) : ((x ^^^ (x >>> k)) ^^^ ((x ^^^ (x >>> k)) >>> k)) ^^^ ((x ^^^ (x >>> k)) >>> (2 * k)) = x := by
  ext i hi
  have e1 : k + (k + i) = 2 * k + i := by omega
  have e2 : x.getLsbD (k + (2 * k + i)) = false := BitVec.getLsbD_of_ge _ _ (by omega)
  simp only [BitVec.getElem_xor, BitVec.getElem_ushiftRight, BitVec.getLsbD_xor, BitVec.getLsbD_ushiftRight, e1, e2]
  cases x[i] <;> cases x.getLsbD (k + i) <;> cases x.getLsbD (2 * k + i) <;> rfl
theorem own_unx (x : Int64) (q q2 : Int32) (k : Nat) (hk : q.toBitVec.toNat % 64 = k) (hk2 : q2.toBitVec.toNat % 64 = 2 * k) (h3 : 64 ≤ 3 * k) (y : Int64) (hy : y = x ^^^ ((x.toUInt64 >>> (q &&& 0x3f).toInt64.toUInt64).toInt64)) :
    (y ^^^ ((y.toUInt64 >>> (q &&& 0x3f).toInt64.toUInt64).toInt64)) ^^^ ((y.toUInt64 >>> (q2 &&& 0x3f).toInt64.toUInt64).toInt64) = x := by
  apply Int64.toBitVec_inj.mp
  have e : y.toBitVec = x.toBitVec ^^^ (x.toBitVec >>> k) := by rw [hy, Int64.toBitVec_xor, own_shr x q k hk]
  rw [Int64.toBitVec_xor, Int64.toBitVec_xor, own_shr y q k hk, own_shr y q2 _ hk2, e]
  exact own_bv _ _ h3
theorem own_inv1 : (-4658895280553007687 : Int64) * F_f5 (-4658895280553007687 : Int64) = 1 := by decide +kernel
theorem own_inv2 : (-7723592293110705685 : Int64) * F_f5 (-7723592293110705685 : Int64) = 1 := by decide +kernel
theorem own_round (x : Int64) : F_f4 (F_f3 x) = x + (-7046029254386353131 : Int64) := by
  have e1 : f4_v26 (F_f3 x) = f3_v38 x := own_unx (f3_v38 x) 31 62 31 (by decide) (by decide) (by decide) _ rfl
  have m1 : f4_v26 (F_f3 x) * F_f5 (-7723592293110705685 : Int64) = (f3_v27 x) ^^^ (((f3_v27 x).toUInt64 >>> ((27 : Int32) &&& 0x3f).toInt64.toUInt64).toInt64) := by
    rw [e1]; unfold f3_v38; rw [Int64.mul_assoc, own_inv2, Int64.mul_one]
  have e2 : f4_v49 (F_f3 x) = f3_v27 x := by
    unfold f4_v49
    exact own_unx (f3_v27 x) 27 54 27 (by decide) (by decide) (by decide) _ m1
  have m2 : f4_v49 (F_f3 x) * F_f5 (-4658895280553007687 : Int64) = (x + (-7046029254386353131 : Int64)) ^^^ (((x + (-7046029254386353131 : Int64)).toUInt64 >>> ((30 : Int32) &&& 0x3f).toInt64.toUInt64).toInt64) := by
    rw [e2]; unfold f3_v27; rw [Int64.mul_assoc, own_inv1, Int64.mul_one]
  unfold F_f4
  exact own_unx _ 30 60 30 (by decide) (by decide) (by decide) _ m2
theorem law_a (j0 : Int64) : F_f4 (F_f3 j0) = j0 + (-7046029254386353131 : Int64) := own_round j0
theorem law_b (j0 : Int64) : F_f4 (F_f3 (j0 + (-7046029254386353131 : Int64))) = j0 + (4354685564936845354 : Int64) := by
  rw [own_round, Int64.add_assoc]; rfl
theorem ef_0 (m : MethodId) (x0 : Int64) : entryFrame m #[(.long x0)] maxLocals = mkF m 0 #[.val (.long x0), .second, .unset, .unset, .unset, .unset, .unset, .unset, .unset] [] := by first | (simp [entryFrame, mkF, argsToLocals, Value.category, maxLocals]; done) | rfl
theorem pd_0 : parseMethodDescriptor "(J)V" = some ⟨[.long], none⟩ := by decide +kernel
theorem pd_2 : parseMethodDescriptor "()J" = some ⟨[], some .long⟩ := by decide +kernel
set_option maxRecDepth 65536 in
set_option maxHeartbeats 40000000 in
theorem rm0 (l : Launch) (Z : State) (a0 : Array Value) (hw : ∀ d ∈ tables_1, d.before a0 Z = true) (ws : List Jvm.Cond) (j0 : Int64)  (h0 : Heap) (n0 : Nat) (Z0 : n0 ≤ h0.size) :
    MetFree l x (head1 (Jvm.Cond.code x code maxLocals ret :: ws) room_1) (fun a U => a = #[(.long j0)] ∧ Z.Warmed39 U.vm ∧ U.heap = h0) (fun _ _ _ _ _ => True) (fun _ U o U' => ∃ v L, o = .returned v ∧ QL n0 v U'.heap L ∧ FrameEnd U o U' L room_1.cells room_1.slots) := by
  refine MetFree.of_bodySF (plainFor_of_name pn_0) hisR ?_
  intro p e s m args below meth c s₁ Bd hml0 hP hK
  obtain ⟨rfl, hZ, hh⟩ := hP
  have hx := Bd.exec
  have hby := Bd.bytes
  have hml : c.maxLocals = 9 := hml0
  have hown : s.vm.findClass "com/example/bitmend/bitmend/SplitMix64NextLongPinLaw" = some m.cls := findClass_of_methodNamed Bd.named
  have hnm := (name_of_methodNamed Bd.named Bd.method).1
  have hret := Bd.returns
  have hlk : meth.locks = false := BodyLoose.notSynchronized Bd
  have X0 : Stand p l e room_1 s m #[(.long j0)] below meth c s₁ [] 0 0 := Stand.of_body Bd
  have e0 : s₁.heap = h0 := by rw [← hh, Bd.state]; rfl
  have N0 := Fr.nil n0
  show Outs p e below s (QL n0) _ _ _
  refine Outs.of (U' := s₁.setTop (mkF m 0 #[.val (.long j0), .second, .unset, .unset, .unset, .unset, .unset, .unset, .unset] [])) (fun t k => castTop (ef_0 m j0) k) ?_
  refine Outs.of (U' := s₁.setTop (mkF m 4 #[.val (.long j0), .second, .val (.long (-7046029254386353131 : Int64)), .second, .unset, .unset, .unset, .unset, .unset] [])) (fun t k => ?_) ?_
  · refine X0.ldc2Long hx hown (mvT hZ (hw _ (List.mem_of_getElem? (i := 0) rfl))) (g := (mkF m 0 #[.val (.long j0), .second, .unset, .unset, .unset, .unset, .unset, .unset, .unset] [])) rfl (hb hby at_0) _ ?_
    show Steps p.tables e below (s₁.setTop (mkF m 3 #[.val (.long j0), .second, .unset, .unset, .unset, .unset, .unset, .unset, .unset] [(.long (-7046029254386353131 : Int64))])) _
    refine XS.lstoreN X0.here hx rfl (hb hby at_3) rfl (l' := #[.val (.long j0), .second, .val (.long (-7046029254386353131 : Int64)), .second, .unset, .unset, .unset, .unset, .unset]) rfl ?_
    show Steps p.tables e below (s₁.setTop (mkF m 4 #[.val (.long j0), .second, .val (.long (-7046029254386353131 : Int64)), .second, .unset, .unset, .unset, .unset, .unset] [])) _
    exact k
  obtain ⟨T1, h1, X1, e1, E1, A1, D1, -, st1⟩ := newO X0 hx hZ hown (hw _ (List.mem_of_getElem? (i := 1) rfl)) (hw _ (List.mem_of_getElem? (i := 2) rfl)) (hw _ (List.mem_of_getElem? (i := 3) rfl)) e0 (g := (mkF m 4 #[.val (.long j0), .second, .val (.long (-7046029254386353131 : Int64)), .second, .unset, .unset, .unset, .unset, .unset] [])) rfl (hb hby at_4) (by decide) (by decide)
  obtain ⟨b1, g1⟩ : ∃ z, z = h0.size := ⟨_, rfl⟩
  rw [← g1] at A1 D1 st1
  have g_b1 : n0 ≤ b1 := Nat.le_trans Z0 (Nat.le_of_eq g1.symm)
  have F1_11 : Fld Z h1 b1 "com/example/bitmend/bitmend/SplitMix64" "state" "J" (.long (0 : Int64)) := D1 (Or.inl (hw _ (List.mem_of_getElem? (i := 11) rfl))) (ty := .long) (by decide)
  refine Outs.of st1 ?_
  show Outs p e below s _ _ _ (T1.setTop (mkF m 7 #[.val (.long j0), .second, .val (.long (-7046029254386353131 : Int64)), .second, .unset, .unset, .unset, .unset, .unset] [(.ref b1)]))
  refine Outs.of (U' := T1.setTop (mkF m 9 #[.val (.long j0), .second, .val (.long (-7046029254386353131 : Int64)), .second, .unset, .unset, .unset, .unset, .unset] [(.long j0), (.ref b1), (.ref b1)])) (fun t k => ?_) ?_
  · refine XS.dup X1.here hx rfl (hb hby at_7) rfl rfl ?_
    show Steps p.tables e below (T1.setTop (mkF m 8 #[.val (.long j0), .second, .val (.long (-7046029254386353131 : Int64)), .second, .unset, .unset, .unset, .unset, .unset] [(.ref b1), (.ref b1)])) _
    refine XS.lloadN X1.here hx rfl (hb hby at_8) rfl ?_
    show Steps p.tables e below (T1.setTop (mkF m 9 #[.val (.long j0), .second, .val (.long (-7046029254386353131 : Int64)), .second, .unset, .unset, .unset, .unset, .unset] [(.long j0), (.ref b1), (.ref b1)])) _
    exact k
  obtain ⟨_, _, ⟨T2, L2, k2, n2⟩, -, X2, ⟨Lc2, hQ2, l2, y2, z2⟩, st2⟩ := X1.specialBack hx (y := (⟨"com/example/bitmend/bitmend/SplitMix64", "<init>", "(J)V"⟩ : MethodName)) rfl hown (mvT hZ (hw _ (List.mem_of_getElem? (i := 4) rfl))) (mvT hZ (hw _ (List.mem_of_getElem? (i := 5) rfl))) (mvT hZ (hw _ (List.mem_of_getElem? (i := 6) rfl))) (by decide) (backOf (W := 1) (rm1 l Z a0 hw [] b1 j0 h1 n0 A1 g_b1 F1_11) hZ (hw _ (List.mem_of_getElem? (i := 6) rfl)) (hw _ (List.mem_of_getElem? (i := 3) rfl)) (by decide) (by decide)) (g := (mkF m 9 #[.val (.long j0), .second, .val (.long (-7046029254386353131 : Int64)), .second, .unset, .unset, .unset, .unset, .unset] [(.long j0), (.ref b1), (.ref b1)])) rfl (by rw [hml]; rfl) (Steps.refl _) (a := b1) (argsL := [(.long j0)]) (rest := [(.ref b1)]) (lenOf pd_0 rfl) rfl (by show 2 * 0 + _ ≤ _; exact Nat.le_of_eq rfl) (hb hby at_9) (fun _ _ => ⟨rfl, e1, (by decide : 1 + 0 ≤ _), (by decide : 1 + 0 ≤ _)⟩)
  dsimp only [Pt.U, Pt.locs, Pt.cells, Pt.slots] at X2 l2 y2 z2 st2 hQ2
  subst l2 y2 z2
  obtain ⟨rfl, N2q, K2, u2_0, u2_1⟩ := hQ2
  have N2 := Fr.app N0 N2q
  refine Outs.to st2 ?_
  show Outs p e below s _ _ _ (T2.setTop (mkF m 12 #[.val (.long j0), .second, .val (.long (-7046029254386353131 : Int64)), .second, .unset, .unset, .unset, .unset, .unset] [(.ref b1)]))
  refine Outs.of (U' := T2.setTop (mkF m 16 #[.val (.long j0), .second, .val (.long (-7046029254386353131 : Int64)), .second, .val (.ref b1), .unset, .unset, .unset, .unset] [(.ref b1)])) (fun t k => ?_) ?_
  · refine XS.astore X2.here hx rfl (hb hby at_12) rfl rfl (l' := #[.val (.long j0), .second, .val (.long (-7046029254386353131 : Int64)), .second, .val (.ref b1), .unset, .unset, .unset, .unset]) rfl ?_
    show Steps p.tables e below (T2.setTop (mkF m 14 #[.val (.long j0), .second, .val (.long (-7046029254386353131 : Int64)), .second, .val (.ref b1), .unset, .unset, .unset, .unset] [])) _
    refine XS.aload X2.here hx rfl (hb hby at_14) rfl rfl ?_
    show Steps p.tables e below (T2.setTop (mkF m 16 #[.val (.long j0), .second, .val (.long (-7046029254386353131 : Int64)), .second, .val (.ref b1), .unset, .unset, .unset, .unset] [(.ref b1)])) _
    exact k
  obtain ⟨cq3, kq3, q3a, q3b, q3c⟩ := isOf hZ rfl u2_0
  obtain ⟨_, _, ⟨T3, L3, k3, n3⟩, -, X3, ⟨Lc3, hQ3, l3, y3, z3⟩, st3⟩ := X2.virtualBack hx (y := (⟨"com/example/bitmend/bitmend/SplitMix64", "nextLong", "()J"⟩ : MethodName)) (z := (⟨"com/example/bitmend/bitmend/SplitMix64", "nextLong", "()J"⟩ : MethodName)) hown (mvT hZ (hw _ (List.mem_of_getElem? (i := 12) rfl))) (mvT hZ (hw _ (List.mem_of_getElem? (i := 13) rfl))) (notFace_of_selects (args := #[]) (mvT hZ (hw _ (List.mem_of_getElem? (i := 15) rfl)))) (mvT hZ (hw _ (List.mem_of_getElem? (i := 15) rfl))) (mvT hZ (hw _ (List.mem_of_getElem? (i := 14) rfl))) (by decide) (backOf (W := 0) (rm3 l Z a0 hw [] b1 j0 T2.heap n0 u2_0 g_b1 u2_1) hZ (hw _ (List.mem_of_getElem? (i := 16) rfl)) (hw _ (List.mem_of_getElem? (i := 3) rfl)) (by decide) (by decide)) q3a q3c (g := (mkF m 16 #[.val (.long j0), .second, .val (.long (-7046029254386353131 : Int64)), .second, .val (.ref b1), .unset, .unset, .unset, .unset] [(.ref b1)])) rfl (by rw [hml]; rfl) (Steps.refl _) (argsL := []) (rest := []) (lenOf pd_2 rfl) rfl (by show 2 * 0 + _ ≤ _; exact Nat.le_of_eq rfl) (hb hby at_16) (fun _ _ => ⟨rfl, rfl, (by decide : 1 + 0 ≤ _), (by decide : 1 + 0 ≤ _)⟩)
  dsimp only [Pt.U, Pt.locs, Pt.cells, Pt.slots] at X3 l3 y3 z3 st3 hQ3
  subst l3 y3 z3
  obtain ⟨rfl, N3q, K3, u3_0, u3_1⟩ := hQ3
  have N3 := Fr.app N2 N3q
  refine Outs.to st3 ?_
  show Outs p e below s _ _ _ (T3.setTop (mkF m 19 #[.val (.long j0), .second, .val (.long (-7046029254386353131 : Int64)), .second, .val (.ref b1), .unset, .unset, .unset, .unset] [(.long (F_f3 j0))]))
  refine Outs.of (U' := T3.setTop (mkF m 23 #[.val (.long j0), .second, .val (.long (-7046029254386353131 : Int64)), .second, .val (.ref b1), .val (.long (F_f3 j0)), .second, .unset, .unset] [(.ref b1)])) (fun t k => ?_) ?_
  · refine XS.lstore X3.here hx rfl (hb hby at_19) rfl (l' := #[.val (.long j0), .second, .val (.long (-7046029254386353131 : Int64)), .second, .val (.ref b1), .val (.long (F_f3 j0)), .second, .unset, .unset]) rfl ?_
    show Steps p.tables e below (T3.setTop (mkF m 21 #[.val (.long j0), .second, .val (.long (-7046029254386353131 : Int64)), .second, .val (.ref b1), .val (.long (F_f3 j0)), .second, .unset, .unset] [])) _
    refine XS.aload X3.here hx rfl (hb hby at_21) rfl rfl ?_
    show Steps p.tables e below (T3.setTop (mkF m 23 #[.val (.long j0), .second, .val (.long (-7046029254386353131 : Int64)), .second, .val (.ref b1), .val (.long (F_f3 j0)), .second, .unset, .unset] [(.ref b1)])) _
    exact k
  obtain ⟨cq4, kq4, q4a, q4b, q4c⟩ := isOf hZ rfl u3_0
  obtain ⟨_, _, ⟨T4, L4, k4, n4⟩, -, X4, ⟨Lc4, hQ4, l4, y4, z4⟩, st4⟩ := X3.virtualBack hx (y := (⟨"com/example/bitmend/bitmend/SplitMix64", "nextLong", "()J"⟩ : MethodName)) (z := (⟨"com/example/bitmend/bitmend/SplitMix64", "nextLong", "()J"⟩ : MethodName)) hown (mvT hZ (hw _ (List.mem_of_getElem? (i := 12) rfl))) (mvT hZ (hw _ (List.mem_of_getElem? (i := 13) rfl))) (notFace_of_selects (args := #[]) (mvT hZ (hw _ (List.mem_of_getElem? (i := 15) rfl)))) (mvT hZ (hw _ (List.mem_of_getElem? (i := 15) rfl))) (mvT hZ (hw _ (List.mem_of_getElem? (i := 14) rfl))) (by decide) (backOf (W := 0) (rm3 l Z a0 hw [] b1 (j0 + (-7046029254386353131 : Int64)) T3.heap n0 u3_0 g_b1 u3_1) hZ (hw _ (List.mem_of_getElem? (i := 16) rfl)) (hw _ (List.mem_of_getElem? (i := 3) rfl)) (by decide) (by decide)) q4a q4c (g := (mkF m 23 #[.val (.long j0), .second, .val (.long (-7046029254386353131 : Int64)), .second, .val (.ref b1), .val (.long (F_f3 j0)), .second, .unset, .unset] [(.ref b1)])) rfl (by rw [hml]; rfl) (Steps.refl _) (argsL := []) (rest := []) (lenOf pd_2 rfl) rfl (by show 2 * 0 + _ ≤ _; exact Nat.le_of_eq rfl) (hb hby at_23) (fun _ _ => ⟨rfl, rfl, (by decide : 1 + 0 ≤ _), (by decide : 1 + 0 ≤ _)⟩)
  dsimp only [Pt.U, Pt.locs, Pt.cells, Pt.slots] at X4 l4 y4 z4 st4 hQ4
  subst l4 y4 z4
  obtain ⟨rfl, N4q, K4, u4_0, u4_1⟩ := hQ4
  have N4 := Fr.app N3 N4q
  refine Outs.to st4 ?_
  show Outs p e below s _ _ _ (T4.setTop (mkF m 26 #[.val (.long j0), .second, .val (.long (-7046029254386353131 : Int64)), .second, .val (.ref b1), .val (.long (F_f3 j0)), .second, .unset, .unset] [(.long (F_f3 (j0 + (-7046029254386353131 : Int64))))]))
  refine Outs.of (U' := T4.setTop (mkF m 30 #[.val (.long j0), .second, .val (.long (-7046029254386353131 : Int64)), .second, .val (.ref b1), .val (.long (F_f3 j0)), .second, .val (.long (F_f3 (j0 + (-7046029254386353131 : Int64)))), .second] [(.long (F_f3 j0))])) (fun t k => ?_) ?_
  · refine XS.lstore X4.here hx rfl (hb hby at_26) rfl (l' := #[.val (.long j0), .second, .val (.long (-7046029254386353131 : Int64)), .second, .val (.ref b1), .val (.long (F_f3 j0)), .second, .val (.long (F_f3 (j0 + (-7046029254386353131 : Int64)))), .second]) rfl ?_
    show Steps p.tables e below (T4.setTop (mkF m 28 #[.val (.long j0), .second, .val (.long (-7046029254386353131 : Int64)), .second, .val (.ref b1), .val (.long (F_f3 j0)), .second, .val (.long (F_f3 (j0 + (-7046029254386353131 : Int64)))), .second] [])) _
    refine XS.lload X4.here hx rfl (hb hby at_28) rfl ?_
    show Steps p.tables e below (T4.setTop (mkF m 30 #[.val (.long j0), .second, .val (.long (-7046029254386353131 : Int64)), .second, .val (.ref b1), .val (.long (F_f3 j0)), .second, .val (.long (F_f3 (j0 + (-7046029254386353131 : Int64)))), .second] [(.long (F_f3 j0))])) _
    exact k
  obtain ⟨_, _, ⟨T5, L5, k5, n5⟩, -, X5, ⟨Lc5, hQ5, l5, y5, z5⟩, st5⟩ := Jvm.LawKit.callS X4 hx (y := (⟨"com/example/bitmend/bitmend/SplitMix64NextLongPinLaw", "unmix", "(J)J"⟩ : MethodName)) hown (mvT hZ (hw _ (List.mem_of_getElem? (i := 20) rfl))) (mvT hZ (hw _ (List.mem_of_getElem? (i := 21) rfl))) (mvT hZ (hw _ (List.mem_of_getElem? (i := 22) rfl))) (mvT hZ (hw _ (List.mem_of_getElem? (i := 23) rfl))) (by decide) (backOf (W := 0) (rm4 l Z a0 hw [] (F_f3 j0) T4.heap n0 ) hZ (hw _ (List.mem_of_getElem? (i := 23) rfl)) (hw _ (List.mem_of_getElem? (i := 22) rfl)) (by decide) (by decide)) (g := (mkF m 30 #[.val (.long j0), .second, .val (.long (-7046029254386353131 : Int64)), .second, .val (.ref b1), .val (.long (F_f3 j0)), .second, .val (.long (F_f3 (j0 + (-7046029254386353131 : Int64)))), .second] [(.long (F_f3 j0))])) rfl (by rw [hml]; rfl) (argsL := [(.long (F_f3 j0))]) (rest := []) (lenOf pd_3 rfl) rfl (by show 2 * 0 + _ ≤ _; exact Nat.le_of_eq rfl) (hb hby at_30) (fun _ _ => ⟨rfl, rfl, (by decide : 1 + 0 ≤ _), (by decide : 1 + 0 ≤ _)⟩)
  dsimp only [Pt.U, Pt.locs, Pt.cells, Pt.slots] at X5 l5 y5 z5 st5 hQ5
  subst l5 y5 z5
  obtain ⟨rfl, N5q, e5⟩ := hQ5
  have N5 := Fr.app N4 N5q
  refine Outs.of st5 ?_
  show Outs p e below s _ _ _ (T5.setTop (mkF m 33 #[.val (.long j0), .second, .val (.long (-7046029254386353131 : Int64)), .second, .val (.ref b1), .val (.long (F_f3 j0)), .second, .val (.long (F_f3 (j0 + (-7046029254386353131 : Int64)))), .second] [(.long (F_f4 (F_f3 j0)))]))
  refine Outs.of (U' := T5.setTop (mkF m 42 #[.val (.long j0), .second, .val (.long (-7046029254386353131 : Int64)), .second, .val (.ref b1), .val (.long (F_f3 j0)), .second, .val (.long (F_f3 (j0 + (-7046029254386353131 : Int64)))), .second] [(.long (F_f3 (j0 + (-7046029254386353131 : Int64))))])) (fun t k => ?_) ?_
  · refine XS.lloadN X5.here hx rfl (hb hby at_33) rfl ?_
    show Steps p.tables e below (T5.setTop (mkF m 34 #[.val (.long j0), .second, .val (.long (-7046029254386353131 : Int64)), .second, .val (.ref b1), .val (.long (F_f3 j0)), .second, .val (.long (F_f3 (j0 + (-7046029254386353131 : Int64)))), .second] [(.long j0), (.long (F_f4 (F_f3 j0)))])) _
    refine XS.lloadN X5.here hx rfl (hb hby at_34) rfl ?_
    show Steps p.tables e below (T5.setTop (mkF m 35 #[.val (.long j0), .second, .val (.long (-7046029254386353131 : Int64)), .second, .val (.ref b1), .val (.long (F_f3 j0)), .second, .val (.long (F_f3 (j0 + (-7046029254386353131 : Int64)))), .second] [(.long (-7046029254386353131 : Int64)), (.long j0), (.long (F_f4 (F_f3 j0)))])) _
    refine XS.ladd X5.here hx rfl (hb hby at_35) rfl ?_
    show Steps p.tables e below (T5.setTop (mkF m 36 #[.val (.long j0), .second, .val (.long (-7046029254386353131 : Int64)), .second, .val (.ref b1), .val (.long (F_f3 j0)), .second, .val (.long (F_f3 (j0 + (-7046029254386353131 : Int64)))), .second] [(.long (j0 + (-7046029254386353131 : Int64))), (.long (F_f4 (F_f3 j0)))])) _
    refine XS.lcmp X5.here hx rfl (hb hby at_36) rfl ?_
    show Steps p.tables e below (T5.setTop (mkF m 37 #[.val (.long j0), .second, .val (.long (-7046029254386353131 : Int64)), .second, .val (.ref b1), .val (.long (F_f3 j0)), .second, .val (.long (F_f3 (j0 + (-7046029254386353131 : Int64)))), .second] [(.int (lcmpW (F_f4 (F_f3 j0)) (j0 + (-7046029254386353131 : Int64))))])) _
    refine XS.ifNo X5.here hx rfl (hb hby at_37) rfl ((if0 _ _).trans (teq ((lw_eq _ _).mpr (law_a j0))).2) ?_
    show Steps p.tables e below (T5.setTop (mkF m 40 #[.val (.long j0), .second, .val (.long (-7046029254386353131 : Int64)), .second, .val (.ref b1), .val (.long (F_f3 j0)), .second, .val (.long (F_f3 (j0 + (-7046029254386353131 : Int64)))), .second] [])) _
    refine XS.lload X5.here hx rfl (hb hby at_40) rfl ?_
    show Steps p.tables e below (T5.setTop (mkF m 42 #[.val (.long j0), .second, .val (.long (-7046029254386353131 : Int64)), .second, .val (.ref b1), .val (.long (F_f3 j0)), .second, .val (.long (F_f3 (j0 + (-7046029254386353131 : Int64)))), .second] [(.long (F_f3 (j0 + (-7046029254386353131 : Int64))))])) _
    exact k
  obtain ⟨_, _, ⟨T6, L6, k6, n6⟩, -, X6, ⟨Lc6, hQ6, l6, y6, z6⟩, st6⟩ := Jvm.LawKit.callS X5 hx (y := (⟨"com/example/bitmend/bitmend/SplitMix64NextLongPinLaw", "unmix", "(J)J"⟩ : MethodName)) hown (mvT hZ (hw _ (List.mem_of_getElem? (i := 20) rfl))) (mvT hZ (hw _ (List.mem_of_getElem? (i := 21) rfl))) (mvT hZ (hw _ (List.mem_of_getElem? (i := 22) rfl))) (mvT hZ (hw _ (List.mem_of_getElem? (i := 23) rfl))) (by decide) (backOf (W := 0) (rm4 l Z a0 hw [] (F_f3 (j0 + (-7046029254386353131 : Int64))) T4.heap n0 ) hZ (hw _ (List.mem_of_getElem? (i := 23) rfl)) (hw _ (List.mem_of_getElem? (i := 22) rfl)) (by decide) (by decide)) (g := (mkF m 42 #[.val (.long j0), .second, .val (.long (-7046029254386353131 : Int64)), .second, .val (.ref b1), .val (.long (F_f3 j0)), .second, .val (.long (F_f3 (j0 + (-7046029254386353131 : Int64)))), .second] [(.long (F_f3 (j0 + (-7046029254386353131 : Int64))))])) rfl (by rw [hml]; rfl) (argsL := [(.long (F_f3 (j0 + (-7046029254386353131 : Int64))))]) (rest := []) (lenOf pd_3 rfl) rfl (by show 2 * 0 + _ ≤ _; exact Nat.le_of_eq rfl) (hb hby at_42) (fun _ _ => ⟨rfl, e5, (by decide : 1 + 0 ≤ _), (by decide : 1 + 0 ≤ _)⟩)
  dsimp only [Pt.U, Pt.locs, Pt.cells, Pt.slots] at X6 l6 y6 z6 st6 hQ6
  subst l6 y6 z6
  obtain ⟨rfl, N6q, e6⟩ := hQ6
  have N6 := Fr.app N5 N6q
  refine Outs.of st6 ?_
  show Outs p e below s _ _ _ (T6.setTop (mkF m 45 #[.val (.long j0), .second, .val (.long (-7046029254386353131 : Int64)), .second, .val (.ref b1), .val (.long (F_f3 j0)), .second, .val (.long (F_f3 (j0 + (-7046029254386353131 : Int64)))), .second] [(.long (F_f4 (F_f3 (j0 + (-7046029254386353131 : Int64)))))]))
  refine Outs.of (U' := T6.setTop (mkF m 61 #[.val (.long j0), .second, .val (.long (-7046029254386353131 : Int64)), .second, .val (.ref b1), .val (.long (F_f3 j0)), .second, .val (.long (F_f3 (j0 + (-7046029254386353131 : Int64)))), .second] [(.int (1 : Int32))])) (fun t k => ?_) ?_
  · refine XS.lloadN X6.here hx rfl (hb hby at_45) rfl ?_
    show Steps p.tables e below (T6.setTop (mkF m 46 #[.val (.long j0), .second, .val (.long (-7046029254386353131 : Int64)), .second, .val (.ref b1), .val (.long (F_f3 j0)), .second, .val (.long (F_f3 (j0 + (-7046029254386353131 : Int64)))), .second] [(.long j0), (.long (F_f4 (F_f3 (j0 + (-7046029254386353131 : Int64)))))])) _
    refine X6.ldc2Long hx hown (mvT hZ (hw _ (List.mem_of_getElem? (i := 28) rfl))) (g := (mkF m 46 #[.val (.long j0), .second, .val (.long (-7046029254386353131 : Int64)), .second, .val (.ref b1), .val (.long (F_f3 j0)), .second, .val (.long (F_f3 (j0 + (-7046029254386353131 : Int64)))), .second] [(.long j0), (.long (F_f4 (F_f3 (j0 + (-7046029254386353131 : Int64)))))])) rfl (hb hby at_46) _ ?_
    show Steps p.tables e below (T6.setTop (mkF m 49 #[.val (.long j0), .second, .val (.long (-7046029254386353131 : Int64)), .second, .val (.ref b1), .val (.long (F_f3 j0)), .second, .val (.long (F_f3 (j0 + (-7046029254386353131 : Int64)))), .second] [(.long (2 : Int64)), (.long j0), (.long (F_f4 (F_f3 (j0 + (-7046029254386353131 : Int64)))))])) _
    refine XS.lloadN X6.here hx rfl (hb hby at_49) rfl ?_
    show Steps p.tables e below (T6.setTop (mkF m 50 #[.val (.long j0), .second, .val (.long (-7046029254386353131 : Int64)), .second, .val (.ref b1), .val (.long (F_f3 j0)), .second, .val (.long (F_f3 (j0 + (-7046029254386353131 : Int64)))), .second] [(.long (-7046029254386353131 : Int64)), (.long (2 : Int64)), (.long j0), (.long (F_f4 (F_f3 (j0 + (-7046029254386353131 : Int64)))))])) _
    refine XS.lmul X6.here hx rfl (hb hby at_50) rfl ?_
    show Steps p.tables e below (T6.setTop (mkF m 51 #[.val (.long j0), .second, .val (.long (-7046029254386353131 : Int64)), .second, .val (.ref b1), .val (.long (F_f3 j0)), .second, .val (.long (F_f3 (j0 + (-7046029254386353131 : Int64)))), .second] [(.long (4354685564936845354 : Int64)), (.long j0), (.long (F_f4 (F_f3 (j0 + (-7046029254386353131 : Int64)))))])) _
    refine XS.ladd X6.here hx rfl (hb hby at_51) rfl ?_
    show Steps p.tables e below (T6.setTop (mkF m 52 #[.val (.long j0), .second, .val (.long (-7046029254386353131 : Int64)), .second, .val (.ref b1), .val (.long (F_f3 j0)), .second, .val (.long (F_f3 (j0 + (-7046029254386353131 : Int64)))), .second] [(.long (j0 + (4354685564936845354 : Int64))), (.long (F_f4 (F_f3 (j0 + (-7046029254386353131 : Int64)))))])) _
    refine XS.lcmp X6.here hx rfl (hb hby at_52) rfl ?_
    show Steps p.tables e below (T6.setTop (mkF m 53 #[.val (.long j0), .second, .val (.long (-7046029254386353131 : Int64)), .second, .val (.ref b1), .val (.long (F_f3 j0)), .second, .val (.long (F_f3 (j0 + (-7046029254386353131 : Int64)))), .second] [(.int (lcmpW (F_f4 (F_f3 (j0 + (-7046029254386353131 : Int64)))) (j0 + (4354685564936845354 : Int64))))])) _
    refine XS.ifNo X6.here hx rfl (hb hby at_53) rfl ((if0 _ _).trans (teq ((lw_eq _ _).mpr (law_b j0))).2) ?_
    show Steps p.tables e below (T6.setTop (mkF m 56 #[.val (.long j0), .second, .val (.long (-7046029254386353131 : Int64)), .second, .val (.ref b1), .val (.long (F_f3 j0)), .second, .val (.long (F_f3 (j0 + (-7046029254386353131 : Int64)))), .second] [])) _
    refine XS.iconst X6.here hx rfl (hb hby at_56) ?_
    show Steps p.tables e below (T6.setTop (mkF m 57 #[.val (.long j0), .second, .val (.long (-7046029254386353131 : Int64)), .second, .val (.ref b1), .val (.long (F_f3 j0)), .second, .val (.long (F_f3 (j0 + (-7046029254386353131 : Int64)))), .second] [(.int (1 : Int32))])) _
    refine XS.goto X6.here hx rfl (pc0 := 57) (pc' := 61) rfl (hb hby at_57) (by decide) (by decide) ?_
    show Steps p.tables e below (T6.setTop (mkF m 61 #[.val (.long j0), .second, .val (.long (-7046029254386353131 : Int64)), .second, .val (.ref b1), .val (.long (F_f3 j0)), .second, .val (.long (F_f3 (j0 + (-7046029254386353131 : Int64)))), .second] [(.int (1 : Int32))])) _
    exact k
  exact Outs.retN (t := .boolean) (z := (1 : Int32)) X6 hx hret (by simp) (hb hby at_61) hlk (by decide) (by decide) e6 ⟨rfl, N6⟩
set_option maxRecDepth 65536 in
set_option maxHeartbeats 40000000 in
theorem comes_1 {Post : Tables → Env → Array Value → State → Outcome → State → Prop} (hpost : ∀ tb e args s v u, (limb_1_1.after args s (.returned v) u = true ∧ limb_1_2.after args s (.returned v) u = true ∧ True) → FrameEnd s (.returned v) u (Jvm.fieldLocs frame_1_writes args s ++ Jvm.arrayLocs frame_1_arrays args s ++ Jvm.staticLocs frame_1_statics s) 16 128 → Post tb e args s (.returned v) u) :
    ArmFor flags0 classFile x code maxLocals ret World_1 tables_1 room_1 Calls_1 rest_1 Pre_1 Post := by
  intro l hfl _ _ p e ha hc hk s m args below hf hA hF happ hP
  obtain ⟨hcalls, hrest, hpre⟩ := hP
  obtain ⟨-, -, -, hnamed, -, -, -, hat⟩ := (Spec.applies_iff hf).mp happ
  obtain ⟨hg, hn⟩ := and_e (Cond.before_iff.mp (show (Jvm.Cond.and given_1 narrow_1).before args s = true from hpre))
  obtain ⟨g1, g2⟩ := and_e hg
  obtain ⟨w0, rfl⟩ : ∃ w0 : Value, args = #[w0] := by
    have hs : args.size = 1 := by simpa [Cond.value, given_1] using g1
    obtain ⟨L⟩ := args
    match L, hs with
    | [w0], _ => exact ⟨w0, rfl⟩
  have hw := fun d (hd : d ∈ tables_1) => atoms_spec (ws := Jvm.Cond.code x code maxLocals ret :: tables_1) hat d (List.mem_cons_of_mem _ hd)
  obtain ⟨i0, ei0⟩ := isL_v g2
  obtain rfl : w0 = (.long i0) := Option.some.inj ei0
  obtain ⟨n, o, h1, h2, h3, v, L, rfl, hQ0, hq⟩ := rm0 l s _ hw tables_1 i0 s.heap s.heap.size (Nat.le_refl _) p e ha hc hk s m _ below hf ((Spec.applies_iff_loose hf).mp happ).1 ⟨rfl, State.Warmed39.refl s, rfl⟩ trivial
  obtain ⟨rfl, N⟩ : v = some (.int 1) ∧ Fr s.heap.size L := hQ0
  refine ⟨n, _, h1, h2, h3, hpost _ _ _ _ _ _ ⟨Cond.after_iff.mpr rfl, Cond.after_iff.mpr (eq_i res_at (Term.int_eval (1)) rfl), trivial⟩ ⟨hq.1, hq.2.1, (hq.2.2.sift fun y hy => Or.inr (N y hy)).mono (by decide) (by decide)⟩⟩
theorem main_1_1 : Claimed_1_1 := comes_1 fun _ _ _ _ _ _ h hF => ⟨h.1, hF⟩
theorem main_1_2 : Claimed_1_2 := comes_1 fun _ _ _ _ _ _ h hF => ⟨h.2.1, hF⟩
end Jvm.Pilot.@@N@@
namespace Jvm.Pilot.@@N@@
open Jvm Jvm.ClassFile Sem Op Lib Jvm.Free Jvm.Stand Jvm.Pilot.@@N@@.Jvm.D
/-! MADE BY PROGRAM (witnessworld.py) out of the Statement's table words and the real class files: 9 classes; the members and pool entries that the words name. The judged class is class 1, her method 3. -/
namespace start1
open Jvm.ClassFile
def u (s : String) : CpInfo := .utf8 (stringToUtf16 s)
/-- a pool by its gaps: so many unusable entries, then the entry; so many at the end -/
def gap : Nat → List CpInfo → List CpInfo
  | 0, r => r
  | n + 1, r => .unusable :: gap n r
def poolList (es : List (Nat × CpInfo)) (last : Nat) : List CpInfo := es.foldr (fun e r => gap e.1 (e.2 :: r)) (gap last [])
def pool (es : List (Nat × CpInfo)) (last : Nat) : Array CpInfo := ⟨poolList es last⟩
def fileOf (pool : Array CpInfo) (this : Nat) (attrs : Array Attribute := #[]) (ms : Array MethodInfo := #[]) (fl : Nat := 33) (sup : Nat := 0) (ifs : Array Nat := #[]) (fds : Array FieldInfo := #[]) : ClassFile where
  minorVersion := 0
  majorVersion := 65
  constantPool := pool
  accessFlags := fl
  thisClass := this
  superClass := sup
  interfaces := ifs
  fields := fds
  methods := ms
  attributes := attrs
def plain (name : String) (sup : Option ClassId) : Class where
  name := name
  kind := .ordinary
  loader := none
  accessFlags := 33
  super := sup
  interfaces := #[]
  cf := none
  fields := #[]
  methods := #[]
  instanceTypes := #[]
  staticTypes := #[]
  resolved := #[]
  callSites := []
  init := .initialized
  statics := none
  mirror := none

def pool0 : Array CpInfo := pool [(5, u "<init>"), (0, u "()V"), (1, .class_ 10), (1, u "java/lang/Object")] 113

def k0c0 : Code := { maxStack := 0, maxLocals := 1, code := object_method_1_code, exceptionTable := #[], attributes := #[] }
def k0m0 : Method := { name := "<init>", desc := "()V", sig := { parameters := [], returnType := none }, accessFlags := 1, code := some k0c0 }
/-- java/lang/Object -/
def k0 : Class := { plain "java/lang/Object" none with
  accessFlags := 33
  interfaces := #[]
  cf := some (fileOf pool0 8 #[] #[{ accessFlags := 1, nameIndex := 5, descriptorIndex := 6, attributes := #[] }] 33 0 #[] #[])
  fields := #[]
  methods := #[k0m0]
  instanceTypes := #[]
  staticTypes := #[]
  resolved := Array.replicate 124 none
  statics := none }

def pool1 : Array CpInfo := pool [(2, .class_ 4), (1, u "java/lang/Object"), (0, u "<init>"), (0, u "()V"), (0, .long 2), (1, .long 13787848793156543929), (1, .methodref 12 13), (0, .class_ 14), (0, .nameAndType 15 16), (0, u "com/example/bitmend/bitmend/SplitMix64NextLongPinLaw"), (0, u "inverse"), (0, u "(J)J"), (0, .long 10723151780598845931), (1, .long 11400714819323198485), (1, .class_ 22), (0, u "com/example/bitmend/bitmend/SplitMix64"), (0, .methodref 21 24), (0, .nameAndType 5 25), (0, u "(J)V"), (0, .methodref 21 27), (0, .nameAndType 28 29), (0, u "nextLong"), (0, u "()J"), (0, .methodref 12 31), (0, .nameAndType 32 16), (0, u "unmix"), (2, u "law"), (0, u "(J)Z")] 3

def k1m0 : Method := { name := "<init>", desc := "()V", sig := { parameters := [], returnType := none }, accessFlags := 1, code := none }
def k1c1 : Code := { maxStack := 8, maxLocals := 4, code := method_2_code, exceptionTable := #[], attributes := #[] }
def k1m1 : Method := { name := "inverse", desc := "(J)J", sig := { parameters := [.long], returnType := some .long }, accessFlags := 10, code := some k1c1 }
def k1c2 : Code := { maxStack := 5, maxLocals := 14, code := method_3_code, exceptionTable := #[], attributes := #[] }
def k1m2 : Method := { name := "unmix", desc := "(J)J", sig := { parameters := [.long], returnType := some .long }, accessFlags := 10, code := some k1c2 }
def k1c3 : Code := { maxStack := 8, maxLocals := 9, code := code, exceptionTable := #[], attributes := #[] }
def k1m3 : Method := { name := "law", desc := "(J)Z", sig := { parameters := [.long], returnType := some .boolean }, accessFlags := 9, code := some k1c3 }
/-- com/example/bitmend/bitmend/SplitMix64NextLongPinLaw -/
def k1 : Class := { plain "com/example/bitmend/bitmend/SplitMix64NextLongPinLaw" (some 0) with
  accessFlags := 49
  interfaces := #[]
  cf := some (fileOf pool1 12 #[] #[{ accessFlags := 1, nameIndex := 5, descriptorIndex := 6, attributes := #[] }, { accessFlags := 10, nameIndex := 15, descriptorIndex := 16, attributes := #[] }, { accessFlags := 10, nameIndex := 32, descriptorIndex := 16, attributes := #[] }, { accessFlags := 9, nameIndex := 35, descriptorIndex := 36, attributes := #[] }] 49 2 #[] #[])
  fields := #[]
  methods := #[k1m0, k1m1, k1m2, k1m3]
  instanceTypes := #[]
  staticTypes := #[]
  resolved := Array.replicate 40 none
  statics := none }

def pool2 : Array CpInfo := pool [(1, .methodref 2 3), (0, .class_ 4), (0, .nameAndType 5 6), (0, u "java/lang/Object"), (0, u "<init>"), (0, u "()V"), (0, .fieldref 8 9), (0, .class_ 10), (0, .nameAndType 11 12), (0, u "com/example/bitmend/bitmend/SplitMix64"), (0, u "state"), (0, u "J"), (0, .long 11400714819323198485), (1, .long 13787848793156543929), (1, .long 10723151780598845931), (3, u "nextLong"), (0, u "()J"), (6, u "GAMMA"), (1, u "(J)V")] 7

def k2c0 : Code := { maxStack := 3, maxLocals := 3, code := prog_51_method_1_code, exceptionTable := #[], attributes := #[] }
def k2m0 : Method := { name := "<init>", desc := "(J)V", sig := { parameters := [.long], returnType := none }, accessFlags := 0, code := some k2c0 }
def k2c1 : Code := { maxStack := 5, maxLocals := 3, code := prog_51_method_2_code, exceptionTable := #[], attributes := #[] }
def k2m1 : Method := { name := "nextLong", desc := "()J", sig := { parameters := [], returnType := some .long }, accessFlags := 0, code := some k2c1 }
/-- com/example/bitmend/bitmend/SplitMix64 -/
def k2 : Class := { plain "com/example/bitmend/bitmend/SplitMix64" (some 0) with
  accessFlags := 48
  interfaces := #[]
  cf := some (fileOf pool2 8 #[] #[{ accessFlags := 0, nameIndex := 5, descriptorIndex := 31, attributes := #[] }, { accessFlags := 0, nameIndex := 21, descriptorIndex := 22, attributes := #[] }] 48 2 #[] #[{ accessFlags := 26, nameIndex := 29, descriptorIndex := 12, attributes := #[] }, { accessFlags := 2, nameIndex := 11, descriptorIndex := 12, attributes := #[] }])
  fields := #[{ name := "GAMMA", type := .long, accessFlags := 26, slot := 0, constantValue := 0 }, { name := "state", type := .long, accessFlags := 2, slot := 0, constantValue := 0 }]
  methods := #[k2m0, k2m1]
  instanceTypes := #[.long]
  staticTypes := #[.long]
  resolved := Array.replicate 39 none
  statics := none }

def pool3 : Array CpInfo := pool [(1, u "java/lang/Cloneable"), (0, .class_ 1), (0, u "java/lang/Object"), (0, .class_ 3)] 3

/-- java/lang/Cloneable -/
def k3 : Class := { plain "java/lang/Cloneable" (some 0) with
  accessFlags := 1537
  interfaces := #[]
  cf := some (fileOf pool3 2 #[] #[] 1537 4 #[] #[])
  fields := #[]
  methods := #[]
  instanceTypes := #[]
  staticTypes := #[]
  resolved := Array.replicate 8 none
  statics := none }

def pool4 : Array CpInfo := pool [(1, u "java/io/Serializable"), (0, .class_ 1), (0, u "java/lang/Object"), (0, .class_ 3)] 3

/-- java/io/Serializable -/
def k4 : Class := { plain "java/io/Serializable" (some 0) with
  accessFlags := 1537
  interfaces := #[]
  cf := some (fileOf pool4 2 #[] #[] 1537 4 #[] #[])
  fields := #[]
  methods := #[]
  instanceTypes := #[]
  staticTypes := #[]
  resolved := Array.replicate 8 none
  statics := none }

/-- the primitive byte -/
def k5 : Class := { plain "byte" none with kind := .primitive 'B', accessFlags := 0x411 }
/-- [B -/
def k6 : Class := { plain "[B" (some 0) with kind := .array 5 .byte, interfaces := #[3, 4], accessFlags := 1041 }

/-- the primitive int -/
def k7 : Class := { plain "int" none with kind := .primitive 'I', accessFlags := 0x411 }
/-- [I -/
def k8 : Class := { plain "[I" (some 0) with kind := .array 7 .int, interfaces := #[3, 4], accessFlags := 1041 }

def heap : Heap := #[]
def classes : Array Class := #[k0, k1, k2, k3, k4, k5, k6, k7, k8]
def interned : List (Array UInt16 × Addr) := []
def slotsUsed : Nat := 0
def theMethod : MethodId := ⟨1, 3⟩
def args0 : Array Value := #[.long 5]
def aboutOver (below : List Frame) : State where
  vm := { classes := classes, interned := interned.toArray }
  heap := heap
  slotsUsed := slotsUsed
  threads := #[{ frames := .invoking theMethod args0 :: below }]
def below0 : List Frame := [.native { method := ⟨0, 0⟩, args := #[] }]
def about1 : State := aboutOver below0
def p0 : Program := .bare "" "" ""
def e0 : Env := launch0.env 0 0 0
theorem w_frames : about1.frames = Frame.invoking theMethod args0 :: below0 := rfl
set_option maxRecDepth 65536 in
theorem w_args : argsFit about1.vm theMethod args0 = true := by decide +kernel
set_option maxRecDepth 65536 in
theorem w_heap : heapFits about1 = true := by decide +kernel
set_option maxRecDepth 65536 in
theorem w_runnable : about1.curStatus? = some .runnable := by decide +kernel
set_option maxRecDepth 65536 in
theorem w_alone : about1.alone = true := by decide +kernel
set_option maxRecDepth 65536 in
theorem w_named : about1.methodNamed? x = some theMethod := by decide +kernel
set_option maxRecDepth 65536 in
theorem w_hears : about1.hears theMethod below0 = true := by decide +kernel
set_option maxRecDepth 65536 in
theorem w_ripe : about1.ripe theMethod args0 below0 = true := by decide +kernel
theorem w_running : about1.status = .running := rfl
set_option maxRecDepth 65536 in
theorem w_room : about1.hasRoom e0.platform room_1 = true :=
  launch0.hasRoom_least _ room_1 (by decide +kernel) (by decide +kernel) (by decide +kernel) (by decide +kernel) (by decide +kernel) (by decide +kernel)
theorem allAtoms_all (ts : List Jvm.Cond) (a : Array Jvm.Value) (st : Jvm.State) : (allAtoms ts).before a st = ts.all (fun c => c.before a st) := by
  induction ts with
  | nil => rfl
  | cons c t ih =>
    show (Jvm.Cond.and c (allAtoms t)).before a st = _
    rw [Jvm.Cond.before_and, ih, List.all_cons]
def words1 : List Jvm.Cond := Jvm.Cond.code x code maxLocals ret :: tables_1
/-- a 'code' word, met by the world's own term for the bytes: nothing is compared byte by byte -/
theorem code_word {y : MethodName} {bytes : ByteArray} {mx : Nat} {rt : Option FieldType} {a : Array Value} {s : State} {m : MethodId} {meth : Method} {c : Code} (h1 : s.methodNamed? y = some m) (h2 : s.vm.method? m = some meth) (h3 : meth.code = some c) (h4 : c.code = bytes)
    (h5 : (c.maxLocals == mx && c.exceptionTable.isEmpty && decide (c.maxStack ≤ mostOperands) && decide (meth.sig.returnType = rt) && !meth.locks && decide (parseMethodDescriptor y.desc = some meth.sig)) = true) : (Jvm.Cond.code y bytes mx rt).before a s = true := by
  simp only [Bool.and_eq_true, beq_iff_eq, Bool.not_eq_true', decide_eq_true_eq] at h5
  obtain ⟨⟨⟨⟨⟨g1, g2⟩, g3⟩, g4⟩, g5⟩, g6⟩ := h5
  simp [Cond.before, Cond.holds, Cond.value, h1, h2, h3, h4, g1, g2, g3, g4, g5, g6]
def isCode : Jvm.Cond → Bool
  | .code _ _ _ _ => true
  | _ => false
theorem all_split {L : List Jvm.Cond} {P : Jvm.Cond → Bool} (h1 : L.all (fun c => isCode c || P c) = true) (h2 : ∀ c ∈ L.filter isCode, P c = true) : L.all P = true := by
  refine List.all_eq_true.mpr fun c hc => ?_
  have h := List.all_eq_true.mp h1 c hc
  rcases Bool.eq_false_or_eq_true (isCode c) with hi | hi
  · exact h2 c (List.mem_filter.mpr ⟨hc, hi⟩)
  · simpa [hi] using h
set_option maxRecDepth 65536 in
theorem w_c0 : (Jvm.Cond.code x code maxLocals ret).before args0 about1 = true := code_word (m := ⟨1, 3⟩) (meth := k1m3) (c := k1c3) (by decide +kernel) rfl rfl rfl (by decide +kernel)
set_option maxRecDepth 65536 in
theorem w_c1 : (Jvm.Cond.code ({ cls := "com/example/bitmend/bitmend/SplitMix64", name := "<init>", desc := "(J)V" } : Jvm.MethodName) prog_51_method_1_code (3 : Nat) (Option.none : Option Jvm.ClassFile.FieldType)).before args0 about1 = true := code_word (m := ⟨2, 0⟩) (meth := k2m0) (c := k2c0) (by decide +kernel) rfl rfl rfl (by decide +kernel)
set_option maxRecDepth 65536 in
theorem w_c2 : (Jvm.Cond.code ({ cls := "java/lang/Object", name := "<init>", desc := "()V" } : Jvm.MethodName) object_method_1_code (1 : Nat) (Option.none : Option Jvm.ClassFile.FieldType)).before args0 about1 = true := code_word (m := ⟨0, 0⟩) (meth := k0m0) (c := k0c0) (by decide +kernel) rfl rfl rfl (by decide +kernel)
set_option maxRecDepth 65536 in
theorem w_c3 : (Jvm.Cond.code ({ cls := "com/example/bitmend/bitmend/SplitMix64", name := "nextLong", desc := "()J" } : Jvm.MethodName) prog_51_method_2_code (3 : Nat) (Option.some Jvm.ClassFile.FieldType.long)).before args0 about1 = true := code_word (m := ⟨2, 1⟩) (meth := k2m1) (c := k2c1) (by decide +kernel) rfl rfl rfl (by decide +kernel)
set_option maxRecDepth 65536 in
theorem w_c4 : (Jvm.Cond.code ({ cls := "com/example/bitmend/bitmend/SplitMix64NextLongPinLaw", name := "unmix", desc := "(J)J" } : Jvm.MethodName) method_3_code (14 : Nat) (Option.some Jvm.ClassFile.FieldType.long)).before args0 about1 = true := code_word (m := ⟨1, 2⟩) (meth := k1m2) (c := k1c2) (by decide +kernel) rfl rfl rfl (by decide +kernel)
set_option maxRecDepth 65536 in
theorem w_c5 : (Jvm.Cond.code ({ cls := "com/example/bitmend/bitmend/SplitMix64NextLongPinLaw", name := "inverse", desc := "(J)J" } : Jvm.MethodName) method_2_code (4 : Nat) (Option.some Jvm.ClassFile.FieldType.long)).before args0 about1 = true := code_word (m := ⟨1, 1⟩) (meth := k1m1) (c := k1c1) (by decide +kernel) rfl rfl rfl (by decide +kernel)
def codes1 : List Jvm.Cond := [Jvm.Cond.code x code maxLocals ret, Jvm.Cond.code ({ cls := "com/example/bitmend/bitmend/SplitMix64", name := "<init>", desc := "(J)V" } : Jvm.MethodName) prog_51_method_1_code (3 : Nat) (Option.none : Option Jvm.ClassFile.FieldType), Jvm.Cond.code ({ cls := "java/lang/Object", name := "<init>", desc := "()V" } : Jvm.MethodName) object_method_1_code (1 : Nat) (Option.none : Option Jvm.ClassFile.FieldType), Jvm.Cond.code ({ cls := "com/example/bitmend/bitmend/SplitMix64", name := "nextLong", desc := "()J" } : Jvm.MethodName) prog_51_method_2_code (3 : Nat) (Option.some Jvm.ClassFile.FieldType.long), Jvm.Cond.code ({ cls := "com/example/bitmend/bitmend/SplitMix64NextLongPinLaw", name := "unmix", desc := "(J)J" } : Jvm.MethodName) method_3_code (14 : Nat) (Option.some Jvm.ClassFile.FieldType.long), Jvm.Cond.code ({ cls := "com/example/bitmend/bitmend/SplitMix64NextLongPinLaw", name := "inverse", desc := "(J)J" } : Jvm.MethodName) method_2_code (4 : Nat) (Option.some Jvm.ClassFile.FieldType.long)]
set_option maxRecDepth 65536 in
theorem codes_eq : words1.filter isCode = codes1 := rfl
theorem w_codes : ∀ c ∈ words1.filter isCode, c.before args0 about1 = true := by
  rw [codes_eq]
  intro c hc
  simp only [codes1, List.mem_cons, List.not_mem_nil, or_false] at hc
  rcases hc with rfl | rfl | rfl | rfl | rfl | rfl
  · exact w_c0
  · exact w_c1
  · exact w_c2
  · exact w_c3
  · exact w_c4
  · exact w_c5
set_option maxRecDepth 65536 in
theorem w_t1 : (words1.take 24).all (fun c => isCode c || c.before args0 about1) = true := by decide +kernel
set_option maxRecDepth 65536 in
theorem w_t2 : (words1.drop 24).all (fun c => isCode c || c.before args0 about1) = true := by decide +kernel
theorem w_tables : (allAtoms (Jvm.Cond.code x code maxLocals ret :: tables_1)).before args0 about1 = true := by
  rw [allAtoms_all]
  show words1.all (fun c => c.before args0 about1) = true
  refine all_split ?_ w_codes
  rw [← List.take_append_drop 24 words1, List.all_append, w_t1, w_t2]
  rfl
set_option maxRecDepth 65536 in
theorem w_case : (Jvm.Cond.and given_1 narrow_1).before args0 about1 = true := by decide +kernel
theorem w_applies : (headSpec (Jvm.Cond.code x code maxLocals ret :: tables_1) room_1).applies x e0.platform about1 = true :=
  (Spec.applies_iff w_frames).mpr ⟨w_running, w_runnable, w_alone, w_named, w_hears, w_ripe, w_room, w_tables⟩
theorem atStart : AtStart classFile x code maxLocals ret World_1 tables_1 room_1 Calls_1 rest_1 Pre_1 launch0 p0 e0 about1 theMethod args0 below0 :=
  ⟨lists_1, trivial, launch0.admits_env _ _ _, launch0.least_env, fairChoices_fair.cas, fairChoices_fair.clock, w_frames, w_args, w_heap, w_applies, trivial, trivial, w_case⟩
end start1
theorem witness_1 : WitnessClaimed_1 := ⟨start1.p0, start1.e0, start1.about1, start1.theMethod, start1.args0, start1.below0, start1.atStart⟩
end Jvm.Pilot.@@N@@
