import JvmDerived
import JvmDerived.Pilot.@@N@@Statement
import JvmDerived.Pilot.@@N@@Code
set_option linter.unusedVariables false
set_option linter.unusedSimpArgs false
@@BLOCK:NumsL.lean.txt@@
namespace Jvm.RoadKit
open Sem ClassFile Op Lib Jvm.Stand Jvm.Free Jvm.LawKit
section New
variable {p : Program} {l : Launch} {e : Env} {R : Room} {s : State} {m : MethodId} {args : Array Value} {below : List Frame} {meth : Method} {c : Code} {T : State} {locs : List Loc} {cells slots : Nat}
theorem retI (X : Stand p l e R s m args below meth c T locs cells slots) (hx : p.tables.exec = Jvm.exec) {pc : Nat} {Ls : Array Slot} {z : Int32} {rest : List Value} (hret : meth.sig.returnType = some .int) (hd : decode c.code pc = .ok (.ireturn, 1)) {fs : List Frame}
    (hl : ∀ (f : JFrame) (acts : List Action), f.method = m → f.locked = none → f.entered = [] → (doReturn e (T.setTop f) acts (some (.int z))).1 = T.setFrames fs) : Steps p.tables e below (T.setTop (mkF m pc Ls (.int z :: rest))) (T.setFrames fs) := by
  have hm' : T.vm.method? m = some meth := X.method'
  have hn : narrow .int (.int z) = .int z := rfl
  show Steps p.tables e below (T.setTop { method := m, pc := pc, locals := Ls, stack := _ :: rest, locked := none }) _
  jvm_step X.here [X.here.top, hx, hd, hm', hret, hn]
  first | (intro acts; rw [hl _ acts rfl rfl rfl]) | rw [hl _ _ rfl rfl rfl]
  exact Steps.refl _
end New
end Jvm.RoadKit
namespace Jvm.Pilot.@@N@@
open Jvm Jvm.ClassFile Sem Op Lib Jvm.Free Jvm.Stand Jvm.LawKit Jvm.RoadKit Bundle Jvm.Pilot.@@N@@.Jvm.D
/-! own: Java's shifts and remainders, written short -/
def own_shl (x y : Int32) : Int32 := x <<< (y &&& 31)
def own_shr (x y : Int32) : Int32 := x >>> (y &&& 31)
def own_ushr (x y : Int32) : Int32 := (x.toUInt32 >>> (y &&& 31).toUInt32).toInt32
def own_shlL (x : Int64) (y : Int32) : Int64 := x <<< (y &&& 0x3f).toInt64
def own_shrL (x : Int64) (y : Int32) : Int64 := x >>> (y &&& 0x3f).toInt64
def own_ushrL (x : Int64) (y : Int32) : Int64 := (x.toUInt64 >>> (y &&& 0x3f).toInt64.toUInt64).toInt64
def own_rem (x y : Int32) : Int32 := x - (x / y) * y
def own_remL (x y : Int64) : Int64 := x - (x / y) * y
theorem own_rem_nn {x y : Int32} (hx : 0 ≤ x.toInt) (hy : 0 < y.toInt) : (own_rem x y).toInt = x.toInt % y.toInt := by
  have hd : (x / y).toInt = x.toInt / y.toInt := by
    rw [Jvm.Kit.i32_div (by omega), Int.tdiv_eq_ediv_of_nonneg hx]
  have b1 := Int.emod_add_mul_ediv x.toInt y.toInt
  have b2 := Int.emod_nonneg x.toInt (by omega : y.toInt ≠ 0)
  have b3 := Int.emod_lt_of_pos x.toInt hy
  have b4 : 0 ≤ x.toInt / y.toInt := Int.ediv_nonneg hx (by omega)
  have hX := Int32.toInt_lt x
  have b5 : 0 ≤ y.toInt * (x.toInt / y.toInt) := Int.mul_nonneg (by omega) b4
  have hm : ((x / y) * y).toInt = y.toInt * (x.toInt / y.toInt) := by
    rw [Jvm.Kit.i32_mul (by rw [hd, Int.mul_comm]; omega) (by rw [hd, Int.mul_comm]; omega), hd, Int.mul_comm]
  unfold own_rem
  rw [Jvm.Kit.i32_sub (by rw [hm]; omega) (by rw [hm]; omega), hm]; omega
/-! own: a run from a frame to what 'Post' says -/
section OwnRun
variable {p : Program} {l : Launch} {e : Env} {R : Room} {s : State} {m : MethodId} {args : Array Value} {below : List Frame} {meth : Method} {c : Code} {T T' : State} {locs : List Loc} {cells slots : Nat} {g g' : JFrame} {Post : State → Prop} {n0 : Nat} {P : Heap → Prop} {C S : Nat} {Z : State} {h : Heap} {a : Addr} {k : ClassId} {n j : Int32} {vs : List Value} {d v : Value} {E : State → Outcome → State → List Loc → Nat → Nat → Prop}
def own_Run (p : Program) (e : Env) (below : List Frame) (T : State) (g : JFrame) (Post : State → Prop) : Prop := ∃ t, Steps p.tables e below (T.setTop g) t ∧ Post t
theorem own_step (st : ∀ t, Steps p.tables e below (T'.setTop g') t → Steps p.tables e below (T.setTop g) t) (h : own_Run p e below T' g' Post) : own_Run p e below T g Post := h.imp fun t k => ⟨st t k.1, k.2⟩
theorem own_tr (st : Steps p.tables e below (T.setTop g) (T'.setTop g')) (h : own_Run p e below T' g' Post) : own_Run p e below T g Post := h.imp fun t k => ⟨st.trans k.1, k.2⟩
theorem own_here (h : Post (T.setTop g)) : own_Run p e below T g Post := ⟨_, Steps.refl _, h⟩
theorem own_entry {Q : State → Prop} (q : g = g') (h : own_Run p e below T g' Q) : own_Run p e below T g Q := q ▸ h
def own_Q (n0 : Nat) (P : Heap → Prop) (w : Option Value) : Option Value → Heap → List Loc → Prop := fun v h L => v = w ∧ Fr n0 L ∧ P h
def own_Ret (E : State → Outcome → State → List Loc → Nat → Nat → Prop) (U : State) (below : List Frame) (C S : Nat) (Q : Option Value → Heap → List Loc → Prop) : State → Prop := fun t => t.status = .running ∧ ∃ o, Ended t below o ∧ ∃ v L, o = .returned v ∧ Q v t.heap L ∧ E U o t L C S
theorem own_fin {Q : Option Value → Heap → List Loc → Prop} (h : own_Run p e below T g (own_Ret E s below C S Q)) : ∃ s₂ o, Steps p.tables e below (T.setTop g) s₂ ∧ s₂.status = .running ∧ Ended s₂ below o ∧ ∃ v L, o = .returned v ∧ Q v s₂.heap L ∧ E s o s₂ L C S := by
  obtain ⟨t, st, hr, o, he, r⟩ := h; exact ⟨t, o, st, hr, he, r⟩
theorem own_vi {x y : Int32} (q : x = y) (h : own_Run p e below T g (own_Ret E s below C S (own_Q n0 P (some (.int y))))) : own_Run p e below T g (own_Ret E s below C S (own_Q n0 P (some (.int x)))) := q ▸ h
theorem own_vj {x y : Int64} (q : x = y) (h : own_Run p e below T g (own_Ret E s below C S (own_Q n0 P (some (.long y))))) : own_Run p e below T g (own_Ret E s below C S (own_Q n0 P (some (.long x)))) := q ▸ h
theorem own_leave {w : Option Value} (X : Stand p l e R s m args below meth c T locs cells slots) (hv : meth.sig.returnType = none → w = none) (hlk : meth.locks = false) (hC : cells ≤ C) (hS : slots ≤ S) (N : Fr n0 locs) (hP : P T.heap)
    (st : ∀ fs, (∀ (f : JFrame) (acts : List Action), f.method = m → f.locked = none → f.entered = [] → (doReturn e (T.setTop f) acts w).1 = T.setFrames fs) → Steps p.tables e below (T.setTop g) (T.setFrames fs)) : own_Run p e below T g (own_Ret FrameEnd s below C S (own_Q n0 P w)) := by
  obtain ⟨fs, hr, hrun, hended, hW, hsame⟩ := X.leave (v := w) hv hlk
  exact ⟨_, st fs hr, hrun, _, hended, _, _, rfl, ⟨rfl, N, hP⟩, ⟨_, rfl⟩, hW, hsame.mono hC hS⟩
theorem own_retZ (X : Stand p l e R s m args below meth c T locs cells slots) (hx : p.tables.exec = Jvm.exec) (hlk : meth.locks = false) {pc : Nat} {Ls : Array Slot} {z : Int32} {rest : List Value} (hret : meth.sig.returnType = some .boolean) (hd : decode c.code pc = .ok (.ireturn, 1)) (hC : cells ≤ C) (hS : slots ≤ S) (N : Fr n0 locs) (hP : P T.heap) :
    own_Run p e below T (mkF m pc Ls (.int z :: rest)) (own_Ret FrameEnd s below C S (own_Q n0 P (some (.int (nar .boolean z))))) :=
  own_leave X (fun q => by rw [hret] at q; cases q) hlk hC hS N hP fun fs hr => retN X hx (t := .boolean) hret (by simp) hd hr
theorem own_retI (X : Stand p l e R s m args below meth c T locs cells slots) (hx : p.tables.exec = Jvm.exec) (hlk : meth.locks = false) {pc : Nat} {Ls : Array Slot} {z : Int32} {rest : List Value} (hret : meth.sig.returnType = some .int) (hd : decode c.code pc = .ok (.ireturn, 1)) (hC : cells ≤ C) (hS : slots ≤ S) (N : Fr n0 locs) (hP : P T.heap) :
    own_Run p e below T (mkF m pc Ls (.int z :: rest)) (own_Ret FrameEnd s below C S (own_Q n0 P (some (.int z)))) :=
  own_leave X (fun q => by rw [hret] at q; cases q) hlk hC hS N hP fun fs hr => retI X hx hret hd hr
theorem own_retJ (X : Stand p l e R s m args below meth c T locs cells slots) (hx : p.tables.exec = Jvm.exec) (hlk : meth.locks = false) {pc : Nat} {Ls : Array Slot} {z : Int64} (hret : meth.sig.returnType = some .long) (hd : decode c.code pc = .ok (.lreturn, 1)) (hC : cells ≤ C) (hS : slots ≤ S) (N : Fr n0 locs) (hP : P T.heap) :
    own_Run p e below T (mkF m pc Ls [.long z]) (own_Ret FrameEnd s below C S (own_Q n0 P (some (.long z)))) :=
  own_leave X (fun q => by rw [hret] at q; cases q) hlk hC hS N hP fun fs hr => X.lreturnOut hx hret hd hr
theorem own_retD (X : Stand p l e R s m args below meth c T locs cells slots) (hx : p.tables.exec = Jvm.exec) (hlk : meth.locks = false) {pc : Nat} {Ls : Array Slot} {z : UInt64} {rest : List Value} (hret : meth.sig.returnType = some .double) (hd : decode c.code pc = .ok (.dreturn, 1)) (hC : cells ≤ C) (hS : slots ≤ S) (N : Fr n0 locs) (hP : P T.heap) :
    own_Run p e below T (mkF m pc Ls (.double z :: rest)) (own_Ret FrameEnd s below C S (own_Q n0 P (some (.double z)))) :=
  own_leave X (fun q => by rw [hret] at q; cases q) hlk hC hS N hP fun fs hr => retOut X hx (i := .dreturn) hret rfl (Or.inr (Or.inr (Or.inl ⟨rfl, rfl, z, rfl⟩))) hd hr
theorem own_retV (X : Stand p l e R s m args below meth c T locs cells slots) (hx : p.tables.exec = Jvm.exec) (hlk : meth.locks = false) {pc : Nat} {Ls : Array Slot} (hret : meth.sig.returnType = none) (hd : decode c.code pc = .ok (.return_, 1)) (hC : cells ≤ C) (hS : slots ≤ S) (N : Fr n0 locs) (hP : P T.heap) :
    own_Run p e below T (mkF m pc Ls []) (own_Ret FrameEnd s below C S (own_Q n0 P none)) :=
  own_leave X (fun _ => rfl) hlk hC hS N hP fun fs hr => X.returnOut hx hret hd hr
theorem own_retA (X : Stand p l e R s m args below meth c T locs cells slots) (hx : p.tables.exec = Jvm.exec) (hlk : meth.locks = false) {pc : Nat} {Ls : Array Slot} {w : Value} {t : FieldType} (hret : meth.sig.returnType = some t) (ht : t.isReference = true) (hw : w.isRef = true) (hd : decode c.code pc = .ok (.areturn, 1)) (hC : cells ≤ C) (hS : slots ≤ S) (N : Fr n0 locs) (hP : P T.heap) :
    own_Run p e below T (mkF m pc Ls [w]) (own_Ret FrameEnd s below C S (own_Q n0 P (some w))) :=
  own_leave X (fun q => by rw [hret] at q; cases q) hlk hC hS N hP fun fs hr => X.areturnOut hx hw hret ht hd hr
/-! own: the same where the walk may have loaded a String constant (the tables may hold a new pair) -/
theorem own_mixW {U t : State} {o : Outcome} {L : List Loc} {k n k' n' : Nat} (h : ReturnedEndW U o t L k n) (hk : k ≤ k') (hn : n ≤ n') : ReturnedEndW U o t L k' n' := ⟨h.1, h.2.1, h.2.2.1, h.2.2.2.mono hk hn⟩
theorem own_leaveW {vm₁ : Vm} {n : Nat} {w : Option Value} (X : Stand p l e R (s.setVm vm₁) m args below meth c T locs cells slots) (hS : s.Since vm₁ n) (hn : n ≤ T.heap.size) (hv : meth.sig.returnType = none → w = none) (hlk : meth.locks = false) (hC : cells ≤ C) (hSl : slots ≤ S) (N : Fr n0 locs) (hP : P T.heap)
    (st : ∀ fs, (∀ (f : JFrame) (acts : List Action), f.method = m → f.locked = none → f.entered = [] → (doReturn e (T.setTop f) acts w).1 = T.setFrames fs) → Steps p.tables e below (T.setTop g) (T.setFrames fs)) : own_Run p e below T g (own_Ret ReturnedEndW s below C S (own_Q n0 P w)) := by
  obtain ⟨fs, hr, hrun, hended, hW⟩ := X.leaveW hS hn (v := w) hv hlk
  exact ⟨_, st fs hr, hrun, _, hended, _, _, rfl, ⟨rfl, N, hP⟩, own_mixW hW hC hSl⟩
theorem own_retZW {vm₁ : Vm} {n : Nat} (X : Stand p l e R (s.setVm vm₁) m args below meth c T locs cells slots) (hx : p.tables.exec = Jvm.exec) (hlk : meth.locks = false) {pc : Nat} {Ls : Array Slot} {z : Int32} {rest : List Value} (hret : meth.sig.returnType = some .boolean) (hd : decode c.code pc = .ok (.ireturn, 1)) (hC : cells ≤ C) (hSl : slots ≤ S) (N : Fr n0 locs) (hP : P T.heap) (hS : s.Since vm₁ n) (hn : n ≤ T.heap.size) :
    own_Run p e below T (mkF m pc Ls (.int z :: rest)) (own_Ret ReturnedEndW s below C S (own_Q n0 P (some (.int (nar .boolean z))))) :=
  own_leaveW X hS hn (fun q => by rw [hret] at q; cases q) hlk hC hSl N hP fun fs hr => retN X hx (t := .boolean) hret (by simp) hd hr
theorem own_retVW {vm₁ : Vm} {n : Nat} (X : Stand p l e R (s.setVm vm₁) m args below meth c T locs cells slots) (hx : p.tables.exec = Jvm.exec) (hlk : meth.locks = false) {pc : Nat} {Ls : Array Slot} (hret : meth.sig.returnType = none) (hd : decode c.code pc = .ok (.return_, 1)) (hC : cells ≤ C) (hSl : slots ≤ S) (N : Fr n0 locs) (hP : P T.heap) (hS : s.Since vm₁ n) (hn : n ≤ T.heap.size) :
    own_Run p e below T (mkF m pc Ls []) (own_Ret ReturnedEndW s below C S (own_Q n0 P none)) :=
  own_leaveW X hS hn (fun _ => rfl) hlk hC hSl N hP fun fs hr => X.returnOut hx hret hd hr
/-- no static's home -/
def own_Pl (h : Heap) (a : Addr) : Prop := ∃ c : Cell, h[a]? = some c ∧ c.vm.isStatics = false
theorem own_plV {ty : FieldType} (F : Arv Z h a k ty n vs d) : own_Pl h a := by obtain ⟨c, A, -⟩ := F; exact ⟨c, A.1, A.plain⟩
theorem own_plE {Cn : String} (F : Exa Z h a Cn) : own_Pl h a := by obtain ⟨c, kk, h1, -, -, h4, -⟩ := F; exact ⟨c, h1, h4⟩
theorem own_keepS {h' : Heap} {ws : List Addr} {Cn fn dn : String} (F : Sta Z h Cn fn dn v) (K : Keep h h' ws) (A : ∀ a ∈ ws, own_Pl h a) : Sta Z h' Cn fn dn v := by
  obtain ⟨cf, i, kk, f, st, cell, h1, h2, h3, h4, h5, h6, h7⟩ := F
  refine ⟨cf, i, kk, f, st, cell, h1, h2, h3, h4, K.2.1 st cell h5 (fun hm => ?_), h6, h7⟩
  obtain ⟨c, q1, q2⟩ := A st hm
  cases h5.symm.trans q1; rw [q2] at h6; cases h6
/-! own: an array's component, by its Arv -/
theorem own_ldI (X : Stand p l e R s m args below meth c T locs cells slots) (hx : p.tables.exec = Jvm.exec) (hZ : Z.Warmed39 s.vm) (eT : T.heap = h) (F : Arv Z h a k .int n vs d) (q : ¬ j < 0 ∧ j < n) (u : vs.getD j.toNatClampNeg d = v) (hg : g.method = m) {rest : List Value} (hs : g.stack = .int j :: .ref a :: rest) (hd : decode c.code g.pc = .ok (.iaload, 1)) :
    ∀ t, Steps p.tables e below (T.setTop { g with pc := g.pc + 1, stack := v :: rest }) t → Steps p.tables e below (T.setTop g) t := by
  obtain ⟨cl, Ar, -, Sz, -, Hs, -⟩ := F
  exact fun t kt => X.iaload hx (by rw [eT]; exact Ar.1) (State.isArrayOf_alike hZ.alike Ar.2.1) Ar.2.2 (inb_of Sz q) (Hs.at (inb_of Sz q) u) hg hs hd t kt
theorem own_ldJ (X : Stand p l e R s m args below meth c T locs cells slots) (hx : p.tables.exec = Jvm.exec) (hZ : Z.Warmed39 s.vm) (eT : T.heap = h) (F : Arv Z h a k .long n vs d) (q : ¬ j < 0 ∧ j < n) (u : vs.getD j.toNatClampNeg d = v) (hg : g.method = m) {rest : List Value} (hs : g.stack = .int j :: .ref a :: rest) (hd : decode c.code g.pc = .ok (.laload, 1)) :
    ∀ t, Steps p.tables e below (T.setTop { g with pc := g.pc + 1, stack := v :: rest }) t → Steps p.tables e below (T.setTop g) t := by
  obtain ⟨cl, Ar, -, Sz, -, Hs, -⟩ := F
  exact fun t kt => X.laload hx (by rw [eT]; exact Ar.1) (State.isArrayOf_alike hZ.alike Ar.2.1) Ar.2.2 (inb_of Sz q) (Hs.at (inb_of Sz q) u) hg hs hd t kt
theorem own_ldB (X : Stand p l e R s m args below meth c T locs cells slots) (hx : p.tables.exec = Jvm.exec) (hZ : Z.Warmed39 s.vm) (eT : T.heap = h) (F : Arv Z h a k .byte n vs d) (q : ¬ j < 0 ∧ j < n) (u : vs.getD j.toNatClampNeg d = v) (hg : g.method = m) {rest : List Value} (hs : g.stack = .int j :: .ref a :: rest) (hd : decode c.code g.pc = .ok (.baload, 1)) :
    ∀ t, Steps p.tables e below (T.setTop { g with pc := g.pc + 1, stack := v :: rest }) t → Steps p.tables e below (T.setTop g) t := by
  obtain ⟨cl, Ar, -, Sz, -, Hs, -⟩ := F
  exact fun t kt => X.baloadBytes hx (by rw [eT]; exact Ar.1) (State.isArrayOf_alike hZ.alike Ar.2.1) Ar.2.2 (inb_of Sz q) (Hs.at (inb_of Sz q) u) hg hs hd t kt
theorem own_len (X : Stand p l e R s m args below meth c T locs cells slots) (hx : p.tables.exec = Jvm.exec) (hZ : Z.Warmed39 s.vm) (eT : T.heap = h) {ty : FieldType} (F : Arv Z h a k ty n vs d) (hg : g.method = m) {rest : List Value} (hs : g.stack = .ref a :: rest) (hd : decode c.code g.pc = .ok (.arraylength, 1)) :
    ∀ t, Steps p.tables e below (T.setTop { g with pc := g.pc + 1, stack := .int n :: rest }) t → Steps p.tables e below (T.setTop g) t := by
  obtain ⟨cl, Ar, -, Sz, Ng, -, -⟩ := F
  intro t kt
  refine X.arraylength hx (by rw [eT]; exact Ar.1) (State.isArrayOf_alike hZ.alike Ar.2.1) hg hs hd t ?_
  rw [len_of Sz Ng]; exact kt
theorem own_stI (X : Stand p l e R s m args below meth c T locs cells slots) (hx : p.tables.exec = Jvm.exec) (hZ : Z.Warmed39 s.vm) (eT : T.heap = h) (F : Arv Z h a k .int n vs d) (N : Fr n0 locs) (ge : n0 ≤ a) {x : Int32} (q : ¬ j < 0 ∧ j < n) (i : Nat) (hi : j.toNatClampNeg = i) (hl : i < vs.length) (hg : g.method = m) {rest : List Value} (hs : g.stack = .int x :: .int j :: .ref a :: rest) (hd : decode c.code g.pc = .ok (.iastore, 1)) :
    ∃ T' h' L, Stand p l e R s m args below meth c T' L cells slots ∧ T'.heap = h' ∧ Fr n0 L ∧ Wr h h' a j.toNatClampNeg (.int x) ∧ Arv Z h' a k .int n (vs.set i (.int x)) d ∧ ∀ t, Steps p.tables e below (T'.setTop { g with pc := g.pc + 1, stack := rest }) t → Steps p.tables e below (T.setTop g) t := by
  obtain ⟨cl, Ar, q1, Sz, Ng, Hs, Gs⟩ := F
  obtain ⟨T', h', X', e', W, st⟩ := stI X hx hZ eT Ar (j := j) (x := x) (inb_of Sz q) hg hs hd
  exact ⟨T', h', _, X', e', Fr.snoc X' N ge, W, Arv.set Ar q1 Sz Ng Hs Gs rfl W i hi hl, st⟩
theorem own_stJ (X : Stand p l e R s m args below meth c T locs cells slots) (hx : p.tables.exec = Jvm.exec) (hZ : Z.Warmed39 s.vm) (eT : T.heap = h) (F : Arv Z h a k .long n vs d) (N : Fr n0 locs) (ge : n0 ≤ a) {x : Int64} (q : ¬ j < 0 ∧ j < n) (i : Nat) (hi : j.toNatClampNeg = i) (hl : i < vs.length) (hg : g.method = m) {rest : List Value} (hs : g.stack = .long x :: .int j :: .ref a :: rest) (hd : decode c.code g.pc = .ok (.lastore, 1)) :
    ∃ T' h' L, Stand p l e R s m args below meth c T' L cells slots ∧ T'.heap = h' ∧ Fr n0 L ∧ Wr h h' a j.toNatClampNeg (.long x) ∧ Arv Z h' a k .long n (vs.set i (.long x)) d ∧ ∀ t, Steps p.tables e below (T'.setTop { g with pc := g.pc + 1, stack := rest }) t → Steps p.tables e below (T.setTop g) t := by
  obtain ⟨cl, Ar, q1, Sz, Ng, Hs, Gs⟩ := F
  obtain ⟨T', h', X', e', W, st⟩ := stJ X hx hZ eT Ar (j := j) (x := x) (inb_of Sz q) hg hs hd
  exact ⟨T', h', _, X', e', Fr.snoc X' N ge, W, Arv.set Ar q1 Sz Ng Hs Gs rfl W i hi hl, st⟩
theorem own_stB (X : Stand p l e R s m args below meth c T locs cells slots) (hx : p.tables.exec = Jvm.exec) (hZ : Z.Warmed39 s.vm) (eT : T.heap = h) (F : Arv Z h a k .byte n vs d) (N : Fr n0 locs) (ge : n0 ≤ a) {x : Int32} (q : ¬ j < 0 ∧ j < n) (i : Nat) (hi : j.toNatClampNeg = i) (hl : i < vs.length) (hg : g.method = m) {rest : List Value} (hs : g.stack = .int x :: .int j :: .ref a :: rest) (hd : decode c.code g.pc = .ok (.bastore, 1)) :
    ∃ T' h' L, Stand p l e R s m args below meth c T' L cells slots ∧ T'.heap = h' ∧ Fr n0 L ∧ Wr h h' a j.toNatClampNeg (.int (nar .byte x)) ∧ Arv Z h' a k .byte n (vs.set i (.int (nar .byte x))) d ∧ ∀ t, Steps p.tables e below (T'.setTop { g with pc := g.pc + 1, stack := rest }) t → Steps p.tables e below (T.setTop g) t := by
  obtain ⟨cl, Ar, q1, Sz, Ng, Hs, Gs⟩ := F
  obtain ⟨T', h', X', e', W, st⟩ := stB X hx hZ eT Ar (j := j) (x := x) (inb_of Sz q) hg hs hd
  exact ⟨T', h', _, X', e', Fr.snoc X' N ge, W, Arv.set Ar q1 Sz Ng Hs Gs (fits_nar_byte _) W i hi hl, st⟩
theorem own_ldR {Cn : String} (X : Stand p l e R s m args below meth c T locs cells slots) (hx : p.tables.exec = Jvm.exec) (hZ : Z.Warmed39 s.vm) (eT : T.heap = h) (F : Arv Z h a k (.object Cn) n vs d) (q : ¬ j < 0 ∧ j < n) (u : vs.getD j.toNatClampNeg d = v) (hg : g.method = m) {rest : List Value} (hs : g.stack = .int j :: .ref a :: rest) (hd : decode c.code g.pc = .ok (.aaload, 1)) :
    ∀ t, Steps p.tables e below (T.setTop { g with pc := g.pc + 1, stack := v :: rest }) t → Steps p.tables e below (T.setTop g) t := by
  obtain ⟨cl, Ar, -, Sz, -, Hs, -⟩ := F
  exact fun t kt => X.aaload hx (by rw [eT]; exact Ar.1) (State.isArrayOf_alike hZ.alike Ar.2.1) rfl Ar.2.2 (inb_of Sz q) (Hs.at (inb_of Sz q) u) hg hs hd t kt
theorem own_stR {Cn : String} {y : Addr} (X : Stand p l e R s m args below meth c T locs cells slots) (hx : p.tables.exec = Jvm.exec) (hZ : Z.Warmed39 s.vm) (eT : T.heap = h) (F : Arv Z h a k (.object Cn) n vs d) (O : Ovr Z k Cn) (I : Ins Z h y Cn true) (N : Fr n0 locs) (ge : n0 ≤ a) (q : ¬ j < 0 ∧ j < n) (i : Nat) (hi : j.toNatClampNeg = i) (hl : i < vs.length) (hg : g.method = m) {rest : List Value} (hs : g.stack = .ref y :: .int j :: .ref a :: rest) (hd : decode c.code g.pc = .ok (.aastore, 1)) :
    ∃ T' h' L, Stand p l e R s m args below meth c T' L cells slots ∧ T'.heap = h' ∧ Fr n0 L ∧ Wr h h' a j.toNatClampNeg (.ref y) ∧ Arv Z h' a k (.object Cn) n (vs.set i (.ref y)) d ∧ ∀ t, Steps p.tables e below (T'.setTop { g with pc := g.pc + 1, stack := rest }) t → Steps p.tables e below (T.setTop g) t := by
  obtain ⟨cl, Ar, q1, Sz, Ng, Hs, Gs⟩ := F
  obtain ⟨T', h', X', e', W, st⟩ := stR X hx hZ eT Ar (j := j) (v := .ref y) (inb_of Sz q) rfl (Sto.ofV Ar q1 O I) hg hs hd
  exact ⟨T', h', _, X', e', Fr.snoc X' N ge, W, Arv.set Ar q1 Sz Ng Hs Gs rfl W i hi hl, st⟩
end OwnRun
def own_bounds : List Int32 := [(65 : Int32), (90 : Int32), (95 : Int32), (97 : Int32), (122 : Int32), (192 : Int32), (214 : Int32), (216 : Int32), (246 : Int32), (248 : Int32), (767 : Int32), (880 : Int32), (893 : Int32), (895 : Int32), (8191 : Int32), (8204 : Int32), (8205 : Int32), (8304 : Int32), (8591 : Int32), (11264 : Int32), (12271 : Int32), (12289 : Int32), (55295 : Int32), (63744 : Int32), (64975 : Int32), (65008 : Int32), (65533 : Int32), (65536 : Int32), (983039 : Int32), (58 : Int32), (0 : Int32), (-2147483647 : Int32), (2147483646 : Int32)]
theorem own_elem (i : Nat) : ([(.int (65 : Int32)), (.int (90 : Int32)), (.int (95 : Int32)), (.int (97 : Int32)), (.int (122 : Int32)), (.int (192 : Int32)), (.int (214 : Int32)), (.int (216 : Int32)), (.int (246 : Int32)), (.int (248 : Int32)), (.int (767 : Int32)), (.int (880 : Int32)), (.int (893 : Int32)), (.int (895 : Int32)), (.int (8191 : Int32)), (.int (8204 : Int32)), (.int (8205 : Int32)), (.int (8304 : Int32)), (.int (8591 : Int32)), (.int (11264 : Int32)), (.int (12271 : Int32)), (.int (12289 : Int32)), (.int (55295 : Int32)), (.int (63744 : Int32)), (.int (64975 : Int32)), (.int (65008 : Int32)), (.int (65533 : Int32)), (.int (65536 : Int32)), (.int (983039 : Int32)), (.int (58 : Int32)), (.int (0 : Int32)), (.int (-2147483647 : Int32)), (.int (2147483646 : Int32))] : List Value).getD i (.int (0 : Int32)) = .int (own_bounds.getD i 0) := by
  show (own_bounds.map Value.int).getD i (Value.int 0) = _
  simp only [List.getD_eq_getElem?_getD, List.getElem?_map]
  cases own_bounds[i]? <;> rfl
theorem own_idx (y : Int32) : ¬ (own_rem (y &&& (2147483647 : Int32)) (33 : Int32)) < 0 ∧ (own_rem (y &&& (2147483647 : Int32)) (33 : Int32)) < (33 : Int32) := by
  have h : (y &&& (2147483647 : Int32)).toInt = y.toInt % 2 ^ 31 := Jvm.Kit.i32_mask _ _ (k := 31) (by decide) (by decide)
  have e0 : (0 : Int32).toInt = 0 := by decide
  have e4 : (33 : Int32).toInt = 33 := by decide
  have r := own_rem_nn (x := y &&& (2147483647 : Int32)) (y := 33) (by rw [h]; omega) (by decide)
  rw [Int32.lt_iff_toInt_lt, Int32.lt_iff_toInt_lt, r, e0, e4]; omega

theorem own_pn0 : plainName "com/example/emscher/emscher/model/XmlNames" = true := by first | (simp [plainName, overriddenIn]; done) | decide +kernel
theorem own_d2_0 : decode prog_150_method_3_code 0 = .ok (.iload_n 0, 1) := by decide +kernel
theorem own_d2_1 : decode prog_150_method_3_code 1 = .ok (.bipush 65, 2) := by decide +kernel
theorem own_d2_3 : decode prog_150_method_3_code 3 = .ok (.if_icmp .lt 9, 3) := by decide +kernel
theorem own_d2_6 : decode prog_150_method_3_code 6 = .ok (.iload_n 0, 1) := by decide +kernel
theorem own_d2_7 : decode prog_150_method_3_code 7 = .ok (.bipush 90, 2) := by decide +kernel
theorem own_d2_9 : decode prog_150_method_3_code 9 = .ok (.if_icmp .le 182, 3) := by decide +kernel
theorem own_d2_12 : decode prog_150_method_3_code 12 = .ok (.iload_n 0, 1) := by decide +kernel
theorem own_d2_13 : decode prog_150_method_3_code 13 = .ok (.bipush 95, 2) := by decide +kernel
theorem own_d2_15 : decode prog_150_method_3_code 15 = .ok (.if_icmp .eq 176, 3) := by decide +kernel
theorem own_d2_18 : decode prog_150_method_3_code 18 = .ok (.iload_n 0, 1) := by decide +kernel
theorem own_d2_19 : decode prog_150_method_3_code 19 = .ok (.bipush 97, 2) := by decide +kernel
theorem own_d2_21 : decode prog_150_method_3_code 21 = .ok (.if_icmp .lt 9, 3) := by decide +kernel
theorem own_d2_24 : decode prog_150_method_3_code 24 = .ok (.iload_n 0, 1) := by decide +kernel
theorem own_d2_25 : decode prog_150_method_3_code 25 = .ok (.bipush 122, 2) := by decide +kernel
theorem own_d2_27 : decode prog_150_method_3_code 27 = .ok (.if_icmp .le 164, 3) := by decide +kernel
theorem own_d2_30 : decode prog_150_method_3_code 30 = .ok (.iload_n 0, 1) := by decide +kernel
theorem own_d2_31 : decode prog_150_method_3_code 31 = .ok (.sipush 192, 3) := by decide +kernel
theorem own_d2_34 : decode prog_150_method_3_code 34 = .ok (.if_icmp .lt 10, 3) := by decide +kernel
theorem own_d2_37 : decode prog_150_method_3_code 37 = .ok (.iload_n 0, 1) := by decide +kernel
theorem own_d2_38 : decode prog_150_method_3_code 38 = .ok (.sipush 214, 3) := by decide +kernel
theorem own_d2_41 : decode prog_150_method_3_code 41 = .ok (.if_icmp .le 150, 3) := by decide +kernel
theorem own_d2_44 : decode prog_150_method_3_code 44 = .ok (.iload_n 0, 1) := by decide +kernel
theorem own_d2_45 : decode prog_150_method_3_code 45 = .ok (.sipush 216, 3) := by decide +kernel
theorem own_d2_48 : decode prog_150_method_3_code 48 = .ok (.if_icmp .lt 10, 3) := by decide +kernel
theorem own_d2_51 : decode prog_150_method_3_code 51 = .ok (.iload_n 0, 1) := by decide +kernel
theorem own_d2_52 : decode prog_150_method_3_code 52 = .ok (.sipush 246, 3) := by decide +kernel
theorem own_d2_55 : decode prog_150_method_3_code 55 = .ok (.if_icmp .le 136, 3) := by decide +kernel
theorem own_d2_58 : decode prog_150_method_3_code 58 = .ok (.iload_n 0, 1) := by decide +kernel
theorem own_d2_59 : decode prog_150_method_3_code 59 = .ok (.sipush 248, 3) := by decide +kernel
theorem own_d2_62 : decode prog_150_method_3_code 62 = .ok (.if_icmp .lt 10, 3) := by decide +kernel
theorem own_d2_65 : decode prog_150_method_3_code 65 = .ok (.iload_n 0, 1) := by decide +kernel
theorem own_d2_66 : decode prog_150_method_3_code 66 = .ok (.sipush 767, 3) := by decide +kernel
theorem own_d2_69 : decode prog_150_method_3_code 69 = .ok (.if_icmp .le 122, 3) := by decide +kernel
theorem own_d2_72 : decode prog_150_method_3_code 72 = .ok (.iload_n 0, 1) := by decide +kernel
theorem own_d2_73 : decode prog_150_method_3_code 73 = .ok (.sipush 880, 3) := by decide +kernel
theorem own_d2_76 : decode prog_150_method_3_code 76 = .ok (.if_icmp .lt 10, 3) := by decide +kernel
theorem own_d2_79 : decode prog_150_method_3_code 79 = .ok (.iload_n 0, 1) := by decide +kernel
theorem own_d2_80 : decode prog_150_method_3_code 80 = .ok (.sipush 893, 3) := by decide +kernel
theorem own_d2_83 : decode prog_150_method_3_code 83 = .ok (.if_icmp .le 108, 3) := by decide +kernel
theorem own_d2_86 : decode prog_150_method_3_code 86 = .ok (.iload_n 0, 1) := by decide +kernel
theorem own_d2_87 : decode prog_150_method_3_code 87 = .ok (.sipush 895, 3) := by decide +kernel
theorem own_d2_90 : decode prog_150_method_3_code 90 = .ok (.if_icmp .lt 10, 3) := by decide +kernel
theorem own_d2_93 : decode prog_150_method_3_code 93 = .ok (.iload_n 0, 1) := by decide +kernel
theorem own_d2_94 : decode prog_150_method_3_code 94 = .ok (.sipush 8191, 3) := by decide +kernel
theorem own_d2_97 : decode prog_150_method_3_code 97 = .ok (.if_icmp .le 94, 3) := by decide +kernel
theorem own_d2_100 : decode prog_150_method_3_code 100 = .ok (.iload_n 0, 1) := by decide +kernel
theorem own_d2_101 : decode prog_150_method_3_code 101 = .ok (.sipush 8204, 3) := by decide +kernel
theorem own_d2_104 : decode prog_150_method_3_code 104 = .ok (.if_icmp .lt 10, 3) := by decide +kernel
theorem own_d2_107 : decode prog_150_method_3_code 107 = .ok (.iload_n 0, 1) := by decide +kernel
theorem own_d2_108 : decode prog_150_method_3_code 108 = .ok (.sipush 8205, 3) := by decide +kernel
theorem own_d2_111 : decode prog_150_method_3_code 111 = .ok (.if_icmp .le 80, 3) := by decide +kernel
theorem own_d2_114 : decode prog_150_method_3_code 114 = .ok (.iload_n 0, 1) := by decide +kernel
theorem own_d2_115 : decode prog_150_method_3_code 115 = .ok (.sipush 8304, 3) := by decide +kernel
theorem own_d2_118 : decode prog_150_method_3_code 118 = .ok (.if_icmp .lt 10, 3) := by decide +kernel
theorem own_d2_121 : decode prog_150_method_3_code 121 = .ok (.iload_n 0, 1) := by decide +kernel
theorem own_d2_122 : decode prog_150_method_3_code 122 = .ok (.sipush 8591, 3) := by decide +kernel
theorem own_d2_125 : decode prog_150_method_3_code 125 = .ok (.if_icmp .le 66, 3) := by decide +kernel
theorem own_d2_128 : decode prog_150_method_3_code 128 = .ok (.iload_n 0, 1) := by decide +kernel
theorem own_d2_129 : decode prog_150_method_3_code 129 = .ok (.sipush 11264, 3) := by decide +kernel
theorem own_d2_132 : decode prog_150_method_3_code 132 = .ok (.if_icmp .lt 10, 3) := by decide +kernel
theorem own_d2_135 : decode prog_150_method_3_code 135 = .ok (.iload_n 0, 1) := by decide +kernel
theorem own_d2_136 : decode prog_150_method_3_code 136 = .ok (.sipush 12271, 3) := by decide +kernel
theorem own_d2_139 : decode prog_150_method_3_code 139 = .ok (.if_icmp .le 52, 3) := by decide +kernel
theorem own_d2_142 : decode prog_150_method_3_code 142 = .ok (.iload_n 0, 1) := by decide +kernel
theorem own_d2_143 : decode prog_150_method_3_code 143 = .ok (.sipush 12289, 3) := by decide +kernel
theorem own_d2_146 : decode prog_150_method_3_code 146 = .ok (.if_icmp .lt 9, 3) := by decide +kernel
theorem own_d2_149 : decode prog_150_method_3_code 149 = .ok (.iload_n 0, 1) := by decide +kernel
theorem own_d2_150 : decode prog_150_method_3_code 150 = .ok (.ldc 7, 2) := by decide +kernel
theorem own_d2_152 : decode prog_150_method_3_code 152 = .ok (.if_icmp .le 39, 3) := by decide +kernel
theorem own_d2_155 : decode prog_150_method_3_code 155 = .ok (.iload_n 0, 1) := by decide +kernel
theorem own_d2_156 : decode prog_150_method_3_code 156 = .ok (.ldc 8, 2) := by decide +kernel
theorem own_d2_158 : decode prog_150_method_3_code 158 = .ok (.if_icmp .lt 9, 3) := by decide +kernel
theorem own_d2_161 : decode prog_150_method_3_code 161 = .ok (.iload_n 0, 1) := by decide +kernel
theorem own_d2_162 : decode prog_150_method_3_code 162 = .ok (.ldc 9, 2) := by decide +kernel
theorem own_d2_164 : decode prog_150_method_3_code 164 = .ok (.if_icmp .le 27, 3) := by decide +kernel
theorem own_d2_167 : decode prog_150_method_3_code 167 = .ok (.iload_n 0, 1) := by decide +kernel
theorem own_d2_168 : decode prog_150_method_3_code 168 = .ok (.ldc 10, 2) := by decide +kernel
theorem own_d2_170 : decode prog_150_method_3_code 170 = .ok (.if_icmp .lt 9, 3) := by decide +kernel
theorem own_d2_173 : decode prog_150_method_3_code 173 = .ok (.iload_n 0, 1) := by decide +kernel
theorem own_d2_174 : decode prog_150_method_3_code 174 = .ok (.ldc 11, 2) := by decide +kernel
theorem own_d2_176 : decode prog_150_method_3_code 176 = .ok (.if_icmp .le 15, 3) := by decide +kernel
theorem own_d2_179 : decode prog_150_method_3_code 179 = .ok (.iload_n 0, 1) := by decide +kernel
theorem own_d2_180 : decode prog_150_method_3_code 180 = .ok (.ldc 12, 2) := by decide +kernel
theorem own_d2_182 : decode prog_150_method_3_code 182 = .ok (.if_icmp .lt 13, 3) := by decide +kernel
theorem own_d2_185 : decode prog_150_method_3_code 185 = .ok (.iload_n 0, 1) := by decide +kernel
theorem own_d2_186 : decode prog_150_method_3_code 186 = .ok (.ldc 13, 2) := by decide +kernel
theorem own_d2_188 : decode prog_150_method_3_code 188 = .ok (.if_icmp .gt 7, 3) := by decide +kernel
theorem own_d2_191 : decode prog_150_method_3_code 191 = .ok (.iconst 1, 1) := by decide +kernel
theorem own_d2_192 : decode prog_150_method_3_code 192 = .ok (.goto 4, 3) := by decide +kernel
theorem own_d2_195 : decode prog_150_method_3_code 195 = .ok (.iconst 0, 1) := by decide +kernel
theorem own_d2_196 : decode prog_150_method_3_code 196 = .ok (.ireturn, 1) := by decide +kernel
def own_r2_179 (p0 : Int32) : Int32 := (if p0 < (65536 : Int32) then (0 : Int32) else (if (983039 : Int32) < p0 then (0 : Int32) else (1 : Int32)))
def own_r2_167 (p0 : Int32) : Int32 := (if p0 < (65008 : Int32) then (own_r2_179 p0) else (if (65533 : Int32) < p0 then (own_r2_179 p0) else (1 : Int32)))
def own_r2_155 (p0 : Int32) : Int32 := (if p0 < (63744 : Int32) then (own_r2_167 p0) else (if (64975 : Int32) < p0 then (own_r2_167 p0) else (1 : Int32)))
def own_r2_142 (p0 : Int32) : Int32 := (if p0 < (12289 : Int32) then (own_r2_155 p0) else (if (55295 : Int32) < p0 then (own_r2_155 p0) else (1 : Int32)))
def own_r2_128 (p0 : Int32) : Int32 := (if p0 < (11264 : Int32) then (own_r2_142 p0) else (if (12271 : Int32) < p0 then (own_r2_142 p0) else (1 : Int32)))
def own_r2_114 (p0 : Int32) : Int32 := (if p0 < (8304 : Int32) then (own_r2_128 p0) else (if (8591 : Int32) < p0 then (own_r2_128 p0) else (1 : Int32)))
def own_r2_100 (p0 : Int32) : Int32 := (if p0 < (8204 : Int32) then (own_r2_114 p0) else (if (8205 : Int32) < p0 then (own_r2_114 p0) else (1 : Int32)))
def own_r2_86 (p0 : Int32) : Int32 := (if p0 < (895 : Int32) then (own_r2_100 p0) else (if (8191 : Int32) < p0 then (own_r2_100 p0) else (1 : Int32)))
def own_r2_72 (p0 : Int32) : Int32 := (if p0 < (880 : Int32) then (own_r2_86 p0) else (if (893 : Int32) < p0 then (own_r2_86 p0) else (1 : Int32)))
def own_r2_58 (p0 : Int32) : Int32 := (if p0 < (248 : Int32) then (own_r2_72 p0) else (if (767 : Int32) < p0 then (own_r2_72 p0) else (1 : Int32)))
def own_r2_44 (p0 : Int32) : Int32 := (if p0 < (216 : Int32) then (own_r2_58 p0) else (if (246 : Int32) < p0 then (own_r2_58 p0) else (1 : Int32)))
def own_r2_30 (p0 : Int32) : Int32 := (if p0 < (192 : Int32) then (own_r2_44 p0) else (if (214 : Int32) < p0 then (own_r2_44 p0) else (1 : Int32)))
def own_r2_12 (p0 : Int32) : Int32 := (if p0 = (95 : Int32) then (1 : Int32) else (if p0 < (97 : Int32) then (own_r2_30 p0) else (if (122 : Int32) < p0 then (own_r2_30 p0) else (1 : Int32))))
def own_r2 (p0 : Int32) : Int32 := (if p0 < (65 : Int32) then (own_r2_12 p0) else (if (90 : Int32) < p0 then (own_r2_12 p0) else (1 : Int32)))
theorem own_ef2 (m : MethodId) (p0 : Int32) : entryFrame m #[(.int p0)] 1 = (mkF m 0 #[.val (.int p0)] []) := by first | (simp [entryFrame, mkF, argsToLocals, Value.category]; done) | rfl
set_option maxRecDepth 65536 in
set_option maxHeartbeats 40000000 in
theorem rm2 (l : Launch) (Z : State) (av0 : Array Value) (hw : ∀ d ∈ tables_1, d.before av0 Z = true) (ws : List Jvm.Cond) (p0 : Int32) (h0 : Heap) (n0 : Nat) (Z0 : n0 ≤ h0.size) :
    MetFree l (⟨"com/example/emscher/emscher/model/XmlNames", "isNameStart", "(I)Z"⟩ : MethodName) (head1 (Jvm.Cond.code (⟨"com/example/emscher/emscher/model/XmlNames", "isNameStart", "(I)Z"⟩ : MethodName) prog_150_method_3_code 1 (some .boolean) :: ws) ({ frames := 0, cells := 0, slots := 0, locals := 0 } : Room)) (fun a U => a = #[(.int p0)] ∧ Z.Warmed39 U.vm ∧ U.heap = h0) (fun _ _ _ _ _ => True) (fun _ U o U' => ∃ v L, o = .returned v ∧ own_Q n0 (fun h => h = h0) (some (.int (own_r2 p0))) v U'.heap L ∧ FrameEnd U o U' L ({ frames := 0, cells := 0, slots := 0, locals := 0 } : Room).cells ({ frames := 0, cells := 0, slots := 0, locals := 0 } : Room).slots) := by
  refine MetFree.of_bodySF (plainFor_of_name own_pn0) hisR ?_
  intro p e s m args below meth c s₁ Bd hml0 hP hK
  obtain ⟨rfl, hZ, hh⟩ := hP
  have hx := Bd.exec
  have hby := Bd.bytes
  have hml : c.maxLocals = 1 := hml0
  have hown : s.vm.findClass "com/example/emscher/emscher/model/XmlNames" = some m.cls := findClass_of_methodNamed Bd.named
  have hnm := (name_of_methodNamed Bd.named Bd.method).1
  have hret := Bd.returns
  have hlk : meth.locks = false := BodyLoose.notSynchronized Bd
  have X0 : Stand p l e ({ frames := 0, cells := 0, slots := 0, locals := 0 } : Room) s m #[(.int p0)] below meth c s₁ [] 0 0 := Stand.of_body Bd
  have e0 : s₁.heap = h0 := by rw [← hh, Bd.state]; rfl
  have N0 := Fr.nil n0
  clear Bd hh hK
  have B179 : ∀ (T : State) (L : List Loc) , Stand p l e ({ frames := 0, cells := 0, slots := 0, locals := 0 } : Room) s m #[(.int p0)] below meth c T L 0 0 → T.heap = h0 → Fr n0 L → own_Run p e below T (mkF m 179 #[.val (.int p0)] []) (own_Ret FrameEnd s below ({ frames := 0, cells := 0, slots := 0, locals := 0 } : Room).cells ({ frames := 0, cells := 0, slots := 0, locals := 0 } : Room).slots (own_Q n0 (fun h => h = h0) (some (.int (own_r2_179 p0))))) := by
    intro T L  X eT N
    show own_Run p e below T (mkF m 179 #[.val (.int p0)] []) _
    refine own_step (fun t k => XS.iloadN X.here hx rfl (hb hby own_d2_179) rfl  k) ?_
    show own_Run p e below T (mkF m 180 #[.val (.int p0)] [(.int p0)]) _
    refine own_step (fun t k => X.ldcInt hx hown (mvT hZ (hw _ (List.mem_of_getElem? (i := 21) rfl))) (g := (mkF m 180 #[.val (.int p0)] [(.int p0)])) rfl (hb hby own_d2_180) t k) ?_
    show own_Run p e below T (mkF m 182 #[.val (.int p0)] [(.int (65536 : Int32)), (.int p0)]) _
    by_cases hc30 : p0 < (65536 : Int32)
    · refine own_vi (if_pos hc30) ?_
      refine own_step (fun t k => XS.icmpYes X.here hx rfl (pc0 := 182) (pc' := 195) rfl (hb hby own_d2_182) rfl (tlt hc30).1 (by decide) (by decide) k) ?_
      show own_Run p e below T (mkF m 195 #[.val (.int p0)] []) _
      refine own_step (fun t k => XS.iconst X.here hx rfl (hb hby own_d2_195) k) ?_
      show own_Run p e below T (mkF m 196 #[.val (.int p0)] [(.int (0 : Int32))]) _
      exact own_retZ X hx hlk hret (hb hby own_d2_196) (by decide) (by decide) N eT
    · refine own_vi (if_neg hc30) ?_
      refine own_step (fun t k => XS.icmpNo X.here hx rfl (hb hby own_d2_182) rfl (flt hc30).1 k) ?_
      show own_Run p e below T (mkF m 185 #[.val (.int p0)] []) _
      refine own_step (fun t k => XS.iloadN X.here hx rfl (hb hby own_d2_185) rfl  k) ?_
      show own_Run p e below T (mkF m 186 #[.val (.int p0)] [(.int p0)]) _
      refine own_step (fun t k => X.ldcInt hx hown (mvT hZ (hw _ (List.mem_of_getElem? (i := 33) rfl))) (g := (mkF m 186 #[.val (.int p0)] [(.int p0)])) rfl (hb hby own_d2_186) t k) ?_
      show own_Run p e below T (mkF m 188 #[.val (.int p0)] [(.int (983039 : Int32)), (.int p0)]) _
      by_cases hc31 : (983039 : Int32) < p0
      · refine own_vi (if_pos hc31) ?_
        refine own_step (fun t k => XS.icmpYes X.here hx rfl (pc0 := 188) (pc' := 195) rfl (hb hby own_d2_188) rfl (tlt hc31).2.2.1 (by decide) (by decide) k) ?_
        show own_Run p e below T (mkF m 195 #[.val (.int p0)] []) _
        refine own_step (fun t k => XS.iconst X.here hx rfl (hb hby own_d2_195) k) ?_
        show own_Run p e below T (mkF m 196 #[.val (.int p0)] [(.int (0 : Int32))]) _
        exact own_retZ X hx hlk hret (hb hby own_d2_196) (by decide) (by decide) N eT
      · refine own_vi (if_neg hc31) ?_
        refine own_step (fun t k => XS.icmpNo X.here hx rfl (hb hby own_d2_188) rfl (flt hc31).2.2.1 k) ?_
        show own_Run p e below T (mkF m 191 #[.val (.int p0)] []) _
        refine own_step (fun t k => XS.iconst X.here hx rfl (hb hby own_d2_191) k) ?_
        show own_Run p e below T (mkF m 192 #[.val (.int p0)] [(.int (1 : Int32))]) _
        refine own_step (fun t k => XS.goto X.here hx rfl (pc0 := 192) (pc' := 196) rfl (hb hby own_d2_192) (by decide) (by decide) k) ?_
        show own_Run p e below T (mkF m 196 #[.val (.int p0)] [(.int (1 : Int32))]) _
        exact own_retZ X hx hlk hret (hb hby own_d2_196) (by decide) (by decide) N eT
  have B167 : ∀ (T : State) (L : List Loc) , Stand p l e ({ frames := 0, cells := 0, slots := 0, locals := 0 } : Room) s m #[(.int p0)] below meth c T L 0 0 → T.heap = h0 → Fr n0 L → own_Run p e below T (mkF m 167 #[.val (.int p0)] []) (own_Ret FrameEnd s below ({ frames := 0, cells := 0, slots := 0, locals := 0 } : Room).cells ({ frames := 0, cells := 0, slots := 0, locals := 0 } : Room).slots (own_Q n0 (fun h => h = h0) (some (.int (own_r2_167 p0))))) := by
    intro T L  X eT N
    show own_Run p e below T (mkF m 167 #[.val (.int p0)] []) _
    refine own_step (fun t k => XS.iloadN X.here hx rfl (hb hby own_d2_167) rfl  k) ?_
    show own_Run p e below T (mkF m 168 #[.val (.int p0)] [(.int p0)]) _
    refine own_step (fun t k => X.ldcInt hx hown (mvT hZ (hw _ (List.mem_of_getElem? (i := 20) rfl))) (g := (mkF m 168 #[.val (.int p0)] [(.int p0)])) rfl (hb hby own_d2_168) t k) ?_
    show own_Run p e below T (mkF m 170 #[.val (.int p0)] [(.int (65008 : Int32)), (.int p0)]) _
    by_cases hc32 : p0 < (65008 : Int32)
    · refine own_vi (if_pos hc32) ?_
      refine own_step (fun t k => XS.icmpYes X.here hx rfl (pc0 := 170) (pc' := 179) rfl (hb hby own_d2_170) rfl (tlt hc32).1 (by decide) (by decide) k) ?_
      show own_Run p e below T (mkF m 179 #[.val (.int p0)] []) _
      exact B179 T _  X eT N
    · refine own_vi (if_neg hc32) ?_
      refine own_step (fun t k => XS.icmpNo X.here hx rfl (hb hby own_d2_170) rfl (flt hc32).1 k) ?_
      show own_Run p e below T (mkF m 173 #[.val (.int p0)] []) _
      refine own_step (fun t k => XS.iloadN X.here hx rfl (hb hby own_d2_173) rfl  k) ?_
      show own_Run p e below T (mkF m 174 #[.val (.int p0)] [(.int p0)]) _
      refine own_step (fun t k => X.ldcInt hx hown (mvT hZ (hw _ (List.mem_of_getElem? (i := 32) rfl))) (g := (mkF m 174 #[.val (.int p0)] [(.int p0)])) rfl (hb hby own_d2_174) t k) ?_
      show own_Run p e below T (mkF m 176 #[.val (.int p0)] [(.int (65533 : Int32)), (.int p0)]) _
      by_cases hc33 : (65533 : Int32) < p0
      · refine own_vi (if_pos hc33) ?_
        refine own_step (fun t k => XS.icmpNo X.here hx rfl (hb hby own_d2_176) rfl (tlt hc33).2.2.2 k) ?_
        show own_Run p e below T (mkF m 179 #[.val (.int p0)] []) _
        exact B179 T _  X eT N
      · refine own_vi (if_neg hc33) ?_
        refine own_step (fun t k => XS.icmpYes X.here hx rfl (pc0 := 176) (pc' := 191) rfl (hb hby own_d2_176) rfl (flt hc33).2.2.2 (by decide) (by decide) k) ?_
        show own_Run p e below T (mkF m 191 #[.val (.int p0)] []) _
        refine own_step (fun t k => XS.iconst X.here hx rfl (hb hby own_d2_191) k) ?_
        show own_Run p e below T (mkF m 192 #[.val (.int p0)] [(.int (1 : Int32))]) _
        refine own_step (fun t k => XS.goto X.here hx rfl (pc0 := 192) (pc' := 196) rfl (hb hby own_d2_192) (by decide) (by decide) k) ?_
        show own_Run p e below T (mkF m 196 #[.val (.int p0)] [(.int (1 : Int32))]) _
        exact own_retZ X hx hlk hret (hb hby own_d2_196) (by decide) (by decide) N eT
  have B155 : ∀ (T : State) (L : List Loc) , Stand p l e ({ frames := 0, cells := 0, slots := 0, locals := 0 } : Room) s m #[(.int p0)] below meth c T L 0 0 → T.heap = h0 → Fr n0 L → own_Run p e below T (mkF m 155 #[.val (.int p0)] []) (own_Ret FrameEnd s below ({ frames := 0, cells := 0, slots := 0, locals := 0 } : Room).cells ({ frames := 0, cells := 0, slots := 0, locals := 0 } : Room).slots (own_Q n0 (fun h => h = h0) (some (.int (own_r2_155 p0))))) := by
    intro T L  X eT N
    show own_Run p e below T (mkF m 155 #[.val (.int p0)] []) _
    refine own_step (fun t k => XS.iloadN X.here hx rfl (hb hby own_d2_155) rfl  k) ?_
    show own_Run p e below T (mkF m 156 #[.val (.int p0)] [(.int p0)]) _
    refine own_step (fun t k => X.ldcInt hx hown (mvT hZ (hw _ (List.mem_of_getElem? (i := 19) rfl))) (g := (mkF m 156 #[.val (.int p0)] [(.int p0)])) rfl (hb hby own_d2_156) t k) ?_
    show own_Run p e below T (mkF m 158 #[.val (.int p0)] [(.int (63744 : Int32)), (.int p0)]) _
    by_cases hc34 : p0 < (63744 : Int32)
    · refine own_vi (if_pos hc34) ?_
      refine own_step (fun t k => XS.icmpYes X.here hx rfl (pc0 := 158) (pc' := 167) rfl (hb hby own_d2_158) rfl (tlt hc34).1 (by decide) (by decide) k) ?_
      show own_Run p e below T (mkF m 167 #[.val (.int p0)] []) _
      exact B167 T _  X eT N
    · refine own_vi (if_neg hc34) ?_
      refine own_step (fun t k => XS.icmpNo X.here hx rfl (hb hby own_d2_158) rfl (flt hc34).1 k) ?_
      show own_Run p e below T (mkF m 161 #[.val (.int p0)] []) _
      refine own_step (fun t k => XS.iloadN X.here hx rfl (hb hby own_d2_161) rfl  k) ?_
      show own_Run p e below T (mkF m 162 #[.val (.int p0)] [(.int p0)]) _
      refine own_step (fun t k => X.ldcInt hx hown (mvT hZ (hw _ (List.mem_of_getElem? (i := 31) rfl))) (g := (mkF m 162 #[.val (.int p0)] [(.int p0)])) rfl (hb hby own_d2_162) t k) ?_
      show own_Run p e below T (mkF m 164 #[.val (.int p0)] [(.int (64975 : Int32)), (.int p0)]) _
      by_cases hc35 : (64975 : Int32) < p0
      · refine own_vi (if_pos hc35) ?_
        refine own_step (fun t k => XS.icmpNo X.here hx rfl (hb hby own_d2_164) rfl (tlt hc35).2.2.2 k) ?_
        show own_Run p e below T (mkF m 167 #[.val (.int p0)] []) _
        exact B167 T _  X eT N
      · refine own_vi (if_neg hc35) ?_
        refine own_step (fun t k => XS.icmpYes X.here hx rfl (pc0 := 164) (pc' := 191) rfl (hb hby own_d2_164) rfl (flt hc35).2.2.2 (by decide) (by decide) k) ?_
        show own_Run p e below T (mkF m 191 #[.val (.int p0)] []) _
        refine own_step (fun t k => XS.iconst X.here hx rfl (hb hby own_d2_191) k) ?_
        show own_Run p e below T (mkF m 192 #[.val (.int p0)] [(.int (1 : Int32))]) _
        refine own_step (fun t k => XS.goto X.here hx rfl (pc0 := 192) (pc' := 196) rfl (hb hby own_d2_192) (by decide) (by decide) k) ?_
        show own_Run p e below T (mkF m 196 #[.val (.int p0)] [(.int (1 : Int32))]) _
        exact own_retZ X hx hlk hret (hb hby own_d2_196) (by decide) (by decide) N eT
  have B142 : ∀ (T : State) (L : List Loc) , Stand p l e ({ frames := 0, cells := 0, slots := 0, locals := 0 } : Room) s m #[(.int p0)] below meth c T L 0 0 → T.heap = h0 → Fr n0 L → own_Run p e below T (mkF m 142 #[.val (.int p0)] []) (own_Ret FrameEnd s below ({ frames := 0, cells := 0, slots := 0, locals := 0 } : Room).cells ({ frames := 0, cells := 0, slots := 0, locals := 0 } : Room).slots (own_Q n0 (fun h => h = h0) (some (.int (own_r2_142 p0))))) := by
    intro T L  X eT N
    show own_Run p e below T (mkF m 142 #[.val (.int p0)] []) _
    refine own_step (fun t k => XS.iloadN X.here hx rfl (hb hby own_d2_142) rfl  k) ?_
    show own_Run p e below T (mkF m 143 #[.val (.int p0)] [(.int p0)]) _
    refine own_step (fun t k => XS.sipush X.here hx rfl (hb hby own_d2_143) k) ?_
    show own_Run p e below T (mkF m 146 #[.val (.int p0)] [(.int (12289 : Int32)), (.int p0)]) _
    by_cases hc36 : p0 < (12289 : Int32)
    · refine own_vi (if_pos hc36) ?_
      refine own_step (fun t k => XS.icmpYes X.here hx rfl (pc0 := 146) (pc' := 155) rfl (hb hby own_d2_146) rfl (tlt hc36).1 (by decide) (by decide) k) ?_
      show own_Run p e below T (mkF m 155 #[.val (.int p0)] []) _
      exact B155 T _  X eT N
    · refine own_vi (if_neg hc36) ?_
      refine own_step (fun t k => XS.icmpNo X.here hx rfl (hb hby own_d2_146) rfl (flt hc36).1 k) ?_
      show own_Run p e below T (mkF m 149 #[.val (.int p0)] []) _
      refine own_step (fun t k => XS.iloadN X.here hx rfl (hb hby own_d2_149) rfl  k) ?_
      show own_Run p e below T (mkF m 150 #[.val (.int p0)] [(.int p0)]) _
      refine own_step (fun t k => X.ldcInt hx hown (mvT hZ (hw _ (List.mem_of_getElem? (i := 30) rfl))) (g := (mkF m 150 #[.val (.int p0)] [(.int p0)])) rfl (hb hby own_d2_150) t k) ?_
      show own_Run p e below T (mkF m 152 #[.val (.int p0)] [(.int (55295 : Int32)), (.int p0)]) _
      by_cases hc37 : (55295 : Int32) < p0
      · refine own_vi (if_pos hc37) ?_
        refine own_step (fun t k => XS.icmpNo X.here hx rfl (hb hby own_d2_152) rfl (tlt hc37).2.2.2 k) ?_
        show own_Run p e below T (mkF m 155 #[.val (.int p0)] []) _
        exact B155 T _  X eT N
      · refine own_vi (if_neg hc37) ?_
        refine own_step (fun t k => XS.icmpYes X.here hx rfl (pc0 := 152) (pc' := 191) rfl (hb hby own_d2_152) rfl (flt hc37).2.2.2 (by decide) (by decide) k) ?_
        show own_Run p e below T (mkF m 191 #[.val (.int p0)] []) _
        refine own_step (fun t k => XS.iconst X.here hx rfl (hb hby own_d2_191) k) ?_
        show own_Run p e below T (mkF m 192 #[.val (.int p0)] [(.int (1 : Int32))]) _
        refine own_step (fun t k => XS.goto X.here hx rfl (pc0 := 192) (pc' := 196) rfl (hb hby own_d2_192) (by decide) (by decide) k) ?_
        show own_Run p e below T (mkF m 196 #[.val (.int p0)] [(.int (1 : Int32))]) _
        exact own_retZ X hx hlk hret (hb hby own_d2_196) (by decide) (by decide) N eT
  have B128 : ∀ (T : State) (L : List Loc) , Stand p l e ({ frames := 0, cells := 0, slots := 0, locals := 0 } : Room) s m #[(.int p0)] below meth c T L 0 0 → T.heap = h0 → Fr n0 L → own_Run p e below T (mkF m 128 #[.val (.int p0)] []) (own_Ret FrameEnd s below ({ frames := 0, cells := 0, slots := 0, locals := 0 } : Room).cells ({ frames := 0, cells := 0, slots := 0, locals := 0 } : Room).slots (own_Q n0 (fun h => h = h0) (some (.int (own_r2_128 p0))))) := by
    intro T L  X eT N
    show own_Run p e below T (mkF m 128 #[.val (.int p0)] []) _
    refine own_step (fun t k => XS.iloadN X.here hx rfl (hb hby own_d2_128) rfl  k) ?_
    show own_Run p e below T (mkF m 129 #[.val (.int p0)] [(.int p0)]) _
    refine own_step (fun t k => XS.sipush X.here hx rfl (hb hby own_d2_129) k) ?_
    show own_Run p e below T (mkF m 132 #[.val (.int p0)] [(.int (11264 : Int32)), (.int p0)]) _
    by_cases hc38 : p0 < (11264 : Int32)
    · refine own_vi (if_pos hc38) ?_
      refine own_step (fun t k => XS.icmpYes X.here hx rfl (pc0 := 132) (pc' := 142) rfl (hb hby own_d2_132) rfl (tlt hc38).1 (by decide) (by decide) k) ?_
      show own_Run p e below T (mkF m 142 #[.val (.int p0)] []) _
      exact B142 T _  X eT N
    · refine own_vi (if_neg hc38) ?_
      refine own_step (fun t k => XS.icmpNo X.here hx rfl (hb hby own_d2_132) rfl (flt hc38).1 k) ?_
      show own_Run p e below T (mkF m 135 #[.val (.int p0)] []) _
      refine own_step (fun t k => XS.iloadN X.here hx rfl (hb hby own_d2_135) rfl  k) ?_
      show own_Run p e below T (mkF m 136 #[.val (.int p0)] [(.int p0)]) _
      refine own_step (fun t k => XS.sipush X.here hx rfl (hb hby own_d2_136) k) ?_
      show own_Run p e below T (mkF m 139 #[.val (.int p0)] [(.int (12271 : Int32)), (.int p0)]) _
      by_cases hc39 : (12271 : Int32) < p0
      · refine own_vi (if_pos hc39) ?_
        refine own_step (fun t k => XS.icmpNo X.here hx rfl (hb hby own_d2_139) rfl (tlt hc39).2.2.2 k) ?_
        show own_Run p e below T (mkF m 142 #[.val (.int p0)] []) _
        exact B142 T _  X eT N
      · refine own_vi (if_neg hc39) ?_
        refine own_step (fun t k => XS.icmpYes X.here hx rfl (pc0 := 139) (pc' := 191) rfl (hb hby own_d2_139) rfl (flt hc39).2.2.2 (by decide) (by decide) k) ?_
        show own_Run p e below T (mkF m 191 #[.val (.int p0)] []) _
        refine own_step (fun t k => XS.iconst X.here hx rfl (hb hby own_d2_191) k) ?_
        show own_Run p e below T (mkF m 192 #[.val (.int p0)] [(.int (1 : Int32))]) _
        refine own_step (fun t k => XS.goto X.here hx rfl (pc0 := 192) (pc' := 196) rfl (hb hby own_d2_192) (by decide) (by decide) k) ?_
        show own_Run p e below T (mkF m 196 #[.val (.int p0)] [(.int (1 : Int32))]) _
        exact own_retZ X hx hlk hret (hb hby own_d2_196) (by decide) (by decide) N eT
  have B114 : ∀ (T : State) (L : List Loc) , Stand p l e ({ frames := 0, cells := 0, slots := 0, locals := 0 } : Room) s m #[(.int p0)] below meth c T L 0 0 → T.heap = h0 → Fr n0 L → own_Run p e below T (mkF m 114 #[.val (.int p0)] []) (own_Ret FrameEnd s below ({ frames := 0, cells := 0, slots := 0, locals := 0 } : Room).cells ({ frames := 0, cells := 0, slots := 0, locals := 0 } : Room).slots (own_Q n0 (fun h => h = h0) (some (.int (own_r2_114 p0))))) := by
    intro T L  X eT N
    show own_Run p e below T (mkF m 114 #[.val (.int p0)] []) _
    refine own_step (fun t k => XS.iloadN X.here hx rfl (hb hby own_d2_114) rfl  k) ?_
    show own_Run p e below T (mkF m 115 #[.val (.int p0)] [(.int p0)]) _
    refine own_step (fun t k => XS.sipush X.here hx rfl (hb hby own_d2_115) k) ?_
    show own_Run p e below T (mkF m 118 #[.val (.int p0)] [(.int (8304 : Int32)), (.int p0)]) _
    by_cases hc40 : p0 < (8304 : Int32)
    · refine own_vi (if_pos hc40) ?_
      refine own_step (fun t k => XS.icmpYes X.here hx rfl (pc0 := 118) (pc' := 128) rfl (hb hby own_d2_118) rfl (tlt hc40).1 (by decide) (by decide) k) ?_
      show own_Run p e below T (mkF m 128 #[.val (.int p0)] []) _
      exact B128 T _  X eT N
    · refine own_vi (if_neg hc40) ?_
      refine own_step (fun t k => XS.icmpNo X.here hx rfl (hb hby own_d2_118) rfl (flt hc40).1 k) ?_
      show own_Run p e below T (mkF m 121 #[.val (.int p0)] []) _
      refine own_step (fun t k => XS.iloadN X.here hx rfl (hb hby own_d2_121) rfl  k) ?_
      show own_Run p e below T (mkF m 122 #[.val (.int p0)] [(.int p0)]) _
      refine own_step (fun t k => XS.sipush X.here hx rfl (hb hby own_d2_122) k) ?_
      show own_Run p e below T (mkF m 125 #[.val (.int p0)] [(.int (8591 : Int32)), (.int p0)]) _
      by_cases hc41 : (8591 : Int32) < p0
      · refine own_vi (if_pos hc41) ?_
        refine own_step (fun t k => XS.icmpNo X.here hx rfl (hb hby own_d2_125) rfl (tlt hc41).2.2.2 k) ?_
        show own_Run p e below T (mkF m 128 #[.val (.int p0)] []) _
        exact B128 T _  X eT N
      · refine own_vi (if_neg hc41) ?_
        refine own_step (fun t k => XS.icmpYes X.here hx rfl (pc0 := 125) (pc' := 191) rfl (hb hby own_d2_125) rfl (flt hc41).2.2.2 (by decide) (by decide) k) ?_
        show own_Run p e below T (mkF m 191 #[.val (.int p0)] []) _
        refine own_step (fun t k => XS.iconst X.here hx rfl (hb hby own_d2_191) k) ?_
        show own_Run p e below T (mkF m 192 #[.val (.int p0)] [(.int (1 : Int32))]) _
        refine own_step (fun t k => XS.goto X.here hx rfl (pc0 := 192) (pc' := 196) rfl (hb hby own_d2_192) (by decide) (by decide) k) ?_
        show own_Run p e below T (mkF m 196 #[.val (.int p0)] [(.int (1 : Int32))]) _
        exact own_retZ X hx hlk hret (hb hby own_d2_196) (by decide) (by decide) N eT
  have B100 : ∀ (T : State) (L : List Loc) , Stand p l e ({ frames := 0, cells := 0, slots := 0, locals := 0 } : Room) s m #[(.int p0)] below meth c T L 0 0 → T.heap = h0 → Fr n0 L → own_Run p e below T (mkF m 100 #[.val (.int p0)] []) (own_Ret FrameEnd s below ({ frames := 0, cells := 0, slots := 0, locals := 0 } : Room).cells ({ frames := 0, cells := 0, slots := 0, locals := 0 } : Room).slots (own_Q n0 (fun h => h = h0) (some (.int (own_r2_100 p0))))) := by
    intro T L  X eT N
    show own_Run p e below T (mkF m 100 #[.val (.int p0)] []) _
    refine own_step (fun t k => XS.iloadN X.here hx rfl (hb hby own_d2_100) rfl  k) ?_
    show own_Run p e below T (mkF m 101 #[.val (.int p0)] [(.int p0)]) _
    refine own_step (fun t k => XS.sipush X.here hx rfl (hb hby own_d2_101) k) ?_
    show own_Run p e below T (mkF m 104 #[.val (.int p0)] [(.int (8204 : Int32)), (.int p0)]) _
    by_cases hc42 : p0 < (8204 : Int32)
    · refine own_vi (if_pos hc42) ?_
      refine own_step (fun t k => XS.icmpYes X.here hx rfl (pc0 := 104) (pc' := 114) rfl (hb hby own_d2_104) rfl (tlt hc42).1 (by decide) (by decide) k) ?_
      show own_Run p e below T (mkF m 114 #[.val (.int p0)] []) _
      exact B114 T _  X eT N
    · refine own_vi (if_neg hc42) ?_
      refine own_step (fun t k => XS.icmpNo X.here hx rfl (hb hby own_d2_104) rfl (flt hc42).1 k) ?_
      show own_Run p e below T (mkF m 107 #[.val (.int p0)] []) _
      refine own_step (fun t k => XS.iloadN X.here hx rfl (hb hby own_d2_107) rfl  k) ?_
      show own_Run p e below T (mkF m 108 #[.val (.int p0)] [(.int p0)]) _
      refine own_step (fun t k => XS.sipush X.here hx rfl (hb hby own_d2_108) k) ?_
      show own_Run p e below T (mkF m 111 #[.val (.int p0)] [(.int (8205 : Int32)), (.int p0)]) _
      by_cases hc43 : (8205 : Int32) < p0
      · refine own_vi (if_pos hc43) ?_
        refine own_step (fun t k => XS.icmpNo X.here hx rfl (hb hby own_d2_111) rfl (tlt hc43).2.2.2 k) ?_
        show own_Run p e below T (mkF m 114 #[.val (.int p0)] []) _
        exact B114 T _  X eT N
      · refine own_vi (if_neg hc43) ?_
        refine own_step (fun t k => XS.icmpYes X.here hx rfl (pc0 := 111) (pc' := 191) rfl (hb hby own_d2_111) rfl (flt hc43).2.2.2 (by decide) (by decide) k) ?_
        show own_Run p e below T (mkF m 191 #[.val (.int p0)] []) _
        refine own_step (fun t k => XS.iconst X.here hx rfl (hb hby own_d2_191) k) ?_
        show own_Run p e below T (mkF m 192 #[.val (.int p0)] [(.int (1 : Int32))]) _
        refine own_step (fun t k => XS.goto X.here hx rfl (pc0 := 192) (pc' := 196) rfl (hb hby own_d2_192) (by decide) (by decide) k) ?_
        show own_Run p e below T (mkF m 196 #[.val (.int p0)] [(.int (1 : Int32))]) _
        exact own_retZ X hx hlk hret (hb hby own_d2_196) (by decide) (by decide) N eT
  have B86 : ∀ (T : State) (L : List Loc) , Stand p l e ({ frames := 0, cells := 0, slots := 0, locals := 0 } : Room) s m #[(.int p0)] below meth c T L 0 0 → T.heap = h0 → Fr n0 L → own_Run p e below T (mkF m 86 #[.val (.int p0)] []) (own_Ret FrameEnd s below ({ frames := 0, cells := 0, slots := 0, locals := 0 } : Room).cells ({ frames := 0, cells := 0, slots := 0, locals := 0 } : Room).slots (own_Q n0 (fun h => h = h0) (some (.int (own_r2_86 p0))))) := by
    intro T L  X eT N
    show own_Run p e below T (mkF m 86 #[.val (.int p0)] []) _
    refine own_step (fun t k => XS.iloadN X.here hx rfl (hb hby own_d2_86) rfl  k) ?_
    show own_Run p e below T (mkF m 87 #[.val (.int p0)] [(.int p0)]) _
    refine own_step (fun t k => XS.sipush X.here hx rfl (hb hby own_d2_87) k) ?_
    show own_Run p e below T (mkF m 90 #[.val (.int p0)] [(.int (895 : Int32)), (.int p0)]) _
    by_cases hc44 : p0 < (895 : Int32)
    · refine own_vi (if_pos hc44) ?_
      refine own_step (fun t k => XS.icmpYes X.here hx rfl (pc0 := 90) (pc' := 100) rfl (hb hby own_d2_90) rfl (tlt hc44).1 (by decide) (by decide) k) ?_
      show own_Run p e below T (mkF m 100 #[.val (.int p0)] []) _
      exact B100 T _  X eT N
    · refine own_vi (if_neg hc44) ?_
      refine own_step (fun t k => XS.icmpNo X.here hx rfl (hb hby own_d2_90) rfl (flt hc44).1 k) ?_
      show own_Run p e below T (mkF m 93 #[.val (.int p0)] []) _
      refine own_step (fun t k => XS.iloadN X.here hx rfl (hb hby own_d2_93) rfl  k) ?_
      show own_Run p e below T (mkF m 94 #[.val (.int p0)] [(.int p0)]) _
      refine own_step (fun t k => XS.sipush X.here hx rfl (hb hby own_d2_94) k) ?_
      show own_Run p e below T (mkF m 97 #[.val (.int p0)] [(.int (8191 : Int32)), (.int p0)]) _
      by_cases hc45 : (8191 : Int32) < p0
      · refine own_vi (if_pos hc45) ?_
        refine own_step (fun t k => XS.icmpNo X.here hx rfl (hb hby own_d2_97) rfl (tlt hc45).2.2.2 k) ?_
        show own_Run p e below T (mkF m 100 #[.val (.int p0)] []) _
        exact B100 T _  X eT N
      · refine own_vi (if_neg hc45) ?_
        refine own_step (fun t k => XS.icmpYes X.here hx rfl (pc0 := 97) (pc' := 191) rfl (hb hby own_d2_97) rfl (flt hc45).2.2.2 (by decide) (by decide) k) ?_
        show own_Run p e below T (mkF m 191 #[.val (.int p0)] []) _
        refine own_step (fun t k => XS.iconst X.here hx rfl (hb hby own_d2_191) k) ?_
        show own_Run p e below T (mkF m 192 #[.val (.int p0)] [(.int (1 : Int32))]) _
        refine own_step (fun t k => XS.goto X.here hx rfl (pc0 := 192) (pc' := 196) rfl (hb hby own_d2_192) (by decide) (by decide) k) ?_
        show own_Run p e below T (mkF m 196 #[.val (.int p0)] [(.int (1 : Int32))]) _
        exact own_retZ X hx hlk hret (hb hby own_d2_196) (by decide) (by decide) N eT
  have B72 : ∀ (T : State) (L : List Loc) , Stand p l e ({ frames := 0, cells := 0, slots := 0, locals := 0 } : Room) s m #[(.int p0)] below meth c T L 0 0 → T.heap = h0 → Fr n0 L → own_Run p e below T (mkF m 72 #[.val (.int p0)] []) (own_Ret FrameEnd s below ({ frames := 0, cells := 0, slots := 0, locals := 0 } : Room).cells ({ frames := 0, cells := 0, slots := 0, locals := 0 } : Room).slots (own_Q n0 (fun h => h = h0) (some (.int (own_r2_72 p0))))) := by
    intro T L  X eT N
    show own_Run p e below T (mkF m 72 #[.val (.int p0)] []) _
    refine own_step (fun t k => XS.iloadN X.here hx rfl (hb hby own_d2_72) rfl  k) ?_
    show own_Run p e below T (mkF m 73 #[.val (.int p0)] [(.int p0)]) _
    refine own_step (fun t k => XS.sipush X.here hx rfl (hb hby own_d2_73) k) ?_
    show own_Run p e below T (mkF m 76 #[.val (.int p0)] [(.int (880 : Int32)), (.int p0)]) _
    by_cases hc46 : p0 < (880 : Int32)
    · refine own_vi (if_pos hc46) ?_
      refine own_step (fun t k => XS.icmpYes X.here hx rfl (pc0 := 76) (pc' := 86) rfl (hb hby own_d2_76) rfl (tlt hc46).1 (by decide) (by decide) k) ?_
      show own_Run p e below T (mkF m 86 #[.val (.int p0)] []) _
      exact B86 T _  X eT N
    · refine own_vi (if_neg hc46) ?_
      refine own_step (fun t k => XS.icmpNo X.here hx rfl (hb hby own_d2_76) rfl (flt hc46).1 k) ?_
      show own_Run p e below T (mkF m 79 #[.val (.int p0)] []) _
      refine own_step (fun t k => XS.iloadN X.here hx rfl (hb hby own_d2_79) rfl  k) ?_
      show own_Run p e below T (mkF m 80 #[.val (.int p0)] [(.int p0)]) _
      refine own_step (fun t k => XS.sipush X.here hx rfl (hb hby own_d2_80) k) ?_
      show own_Run p e below T (mkF m 83 #[.val (.int p0)] [(.int (893 : Int32)), (.int p0)]) _
      by_cases hc47 : (893 : Int32) < p0
      · refine own_vi (if_pos hc47) ?_
        refine own_step (fun t k => XS.icmpNo X.here hx rfl (hb hby own_d2_83) rfl (tlt hc47).2.2.2 k) ?_
        show own_Run p e below T (mkF m 86 #[.val (.int p0)] []) _
        exact B86 T _  X eT N
      · refine own_vi (if_neg hc47) ?_
        refine own_step (fun t k => XS.icmpYes X.here hx rfl (pc0 := 83) (pc' := 191) rfl (hb hby own_d2_83) rfl (flt hc47).2.2.2 (by decide) (by decide) k) ?_
        show own_Run p e below T (mkF m 191 #[.val (.int p0)] []) _
        refine own_step (fun t k => XS.iconst X.here hx rfl (hb hby own_d2_191) k) ?_
        show own_Run p e below T (mkF m 192 #[.val (.int p0)] [(.int (1 : Int32))]) _
        refine own_step (fun t k => XS.goto X.here hx rfl (pc0 := 192) (pc' := 196) rfl (hb hby own_d2_192) (by decide) (by decide) k) ?_
        show own_Run p e below T (mkF m 196 #[.val (.int p0)] [(.int (1 : Int32))]) _
        exact own_retZ X hx hlk hret (hb hby own_d2_196) (by decide) (by decide) N eT
  have B58 : ∀ (T : State) (L : List Loc) , Stand p l e ({ frames := 0, cells := 0, slots := 0, locals := 0 } : Room) s m #[(.int p0)] below meth c T L 0 0 → T.heap = h0 → Fr n0 L → own_Run p e below T (mkF m 58 #[.val (.int p0)] []) (own_Ret FrameEnd s below ({ frames := 0, cells := 0, slots := 0, locals := 0 } : Room).cells ({ frames := 0, cells := 0, slots := 0, locals := 0 } : Room).slots (own_Q n0 (fun h => h = h0) (some (.int (own_r2_58 p0))))) := by
    intro T L  X eT N
    show own_Run p e below T (mkF m 58 #[.val (.int p0)] []) _
    refine own_step (fun t k => XS.iloadN X.here hx rfl (hb hby own_d2_58) rfl  k) ?_
    show own_Run p e below T (mkF m 59 #[.val (.int p0)] [(.int p0)]) _
    refine own_step (fun t k => XS.sipush X.here hx rfl (hb hby own_d2_59) k) ?_
    show own_Run p e below T (mkF m 62 #[.val (.int p0)] [(.int (248 : Int32)), (.int p0)]) _
    by_cases hc48 : p0 < (248 : Int32)
    · refine own_vi (if_pos hc48) ?_
      refine own_step (fun t k => XS.icmpYes X.here hx rfl (pc0 := 62) (pc' := 72) rfl (hb hby own_d2_62) rfl (tlt hc48).1 (by decide) (by decide) k) ?_
      show own_Run p e below T (mkF m 72 #[.val (.int p0)] []) _
      exact B72 T _  X eT N
    · refine own_vi (if_neg hc48) ?_
      refine own_step (fun t k => XS.icmpNo X.here hx rfl (hb hby own_d2_62) rfl (flt hc48).1 k) ?_
      show own_Run p e below T (mkF m 65 #[.val (.int p0)] []) _
      refine own_step (fun t k => XS.iloadN X.here hx rfl (hb hby own_d2_65) rfl  k) ?_
      show own_Run p e below T (mkF m 66 #[.val (.int p0)] [(.int p0)]) _
      refine own_step (fun t k => XS.sipush X.here hx rfl (hb hby own_d2_66) k) ?_
      show own_Run p e below T (mkF m 69 #[.val (.int p0)] [(.int (767 : Int32)), (.int p0)]) _
      by_cases hc49 : (767 : Int32) < p0
      · refine own_vi (if_pos hc49) ?_
        refine own_step (fun t k => XS.icmpNo X.here hx rfl (hb hby own_d2_69) rfl (tlt hc49).2.2.2 k) ?_
        show own_Run p e below T (mkF m 72 #[.val (.int p0)] []) _
        exact B72 T _  X eT N
      · refine own_vi (if_neg hc49) ?_
        refine own_step (fun t k => XS.icmpYes X.here hx rfl (pc0 := 69) (pc' := 191) rfl (hb hby own_d2_69) rfl (flt hc49).2.2.2 (by decide) (by decide) k) ?_
        show own_Run p e below T (mkF m 191 #[.val (.int p0)] []) _
        refine own_step (fun t k => XS.iconst X.here hx rfl (hb hby own_d2_191) k) ?_
        show own_Run p e below T (mkF m 192 #[.val (.int p0)] [(.int (1 : Int32))]) _
        refine own_step (fun t k => XS.goto X.here hx rfl (pc0 := 192) (pc' := 196) rfl (hb hby own_d2_192) (by decide) (by decide) k) ?_
        show own_Run p e below T (mkF m 196 #[.val (.int p0)] [(.int (1 : Int32))]) _
        exact own_retZ X hx hlk hret (hb hby own_d2_196) (by decide) (by decide) N eT
  have B44 : ∀ (T : State) (L : List Loc) , Stand p l e ({ frames := 0, cells := 0, slots := 0, locals := 0 } : Room) s m #[(.int p0)] below meth c T L 0 0 → T.heap = h0 → Fr n0 L → own_Run p e below T (mkF m 44 #[.val (.int p0)] []) (own_Ret FrameEnd s below ({ frames := 0, cells := 0, slots := 0, locals := 0 } : Room).cells ({ frames := 0, cells := 0, slots := 0, locals := 0 } : Room).slots (own_Q n0 (fun h => h = h0) (some (.int (own_r2_44 p0))))) := by
    intro T L  X eT N
    show own_Run p e below T (mkF m 44 #[.val (.int p0)] []) _
    refine own_step (fun t k => XS.iloadN X.here hx rfl (hb hby own_d2_44) rfl  k) ?_
    show own_Run p e below T (mkF m 45 #[.val (.int p0)] [(.int p0)]) _
    refine own_step (fun t k => XS.sipush X.here hx rfl (hb hby own_d2_45) k) ?_
    show own_Run p e below T (mkF m 48 #[.val (.int p0)] [(.int (216 : Int32)), (.int p0)]) _
    by_cases hc50 : p0 < (216 : Int32)
    · refine own_vi (if_pos hc50) ?_
      refine own_step (fun t k => XS.icmpYes X.here hx rfl (pc0 := 48) (pc' := 58) rfl (hb hby own_d2_48) rfl (tlt hc50).1 (by decide) (by decide) k) ?_
      show own_Run p e below T (mkF m 58 #[.val (.int p0)] []) _
      exact B58 T _  X eT N
    · refine own_vi (if_neg hc50) ?_
      refine own_step (fun t k => XS.icmpNo X.here hx rfl (hb hby own_d2_48) rfl (flt hc50).1 k) ?_
      show own_Run p e below T (mkF m 51 #[.val (.int p0)] []) _
      refine own_step (fun t k => XS.iloadN X.here hx rfl (hb hby own_d2_51) rfl  k) ?_
      show own_Run p e below T (mkF m 52 #[.val (.int p0)] [(.int p0)]) _
      refine own_step (fun t k => XS.sipush X.here hx rfl (hb hby own_d2_52) k) ?_
      show own_Run p e below T (mkF m 55 #[.val (.int p0)] [(.int (246 : Int32)), (.int p0)]) _
      by_cases hc51 : (246 : Int32) < p0
      · refine own_vi (if_pos hc51) ?_
        refine own_step (fun t k => XS.icmpNo X.here hx rfl (hb hby own_d2_55) rfl (tlt hc51).2.2.2 k) ?_
        show own_Run p e below T (mkF m 58 #[.val (.int p0)] []) _
        exact B58 T _  X eT N
      · refine own_vi (if_neg hc51) ?_
        refine own_step (fun t k => XS.icmpYes X.here hx rfl (pc0 := 55) (pc' := 191) rfl (hb hby own_d2_55) rfl (flt hc51).2.2.2 (by decide) (by decide) k) ?_
        show own_Run p e below T (mkF m 191 #[.val (.int p0)] []) _
        refine own_step (fun t k => XS.iconst X.here hx rfl (hb hby own_d2_191) k) ?_
        show own_Run p e below T (mkF m 192 #[.val (.int p0)] [(.int (1 : Int32))]) _
        refine own_step (fun t k => XS.goto X.here hx rfl (pc0 := 192) (pc' := 196) rfl (hb hby own_d2_192) (by decide) (by decide) k) ?_
        show own_Run p e below T (mkF m 196 #[.val (.int p0)] [(.int (1 : Int32))]) _
        exact own_retZ X hx hlk hret (hb hby own_d2_196) (by decide) (by decide) N eT
  have B30 : ∀ (T : State) (L : List Loc) , Stand p l e ({ frames := 0, cells := 0, slots := 0, locals := 0 } : Room) s m #[(.int p0)] below meth c T L 0 0 → T.heap = h0 → Fr n0 L → own_Run p e below T (mkF m 30 #[.val (.int p0)] []) (own_Ret FrameEnd s below ({ frames := 0, cells := 0, slots := 0, locals := 0 } : Room).cells ({ frames := 0, cells := 0, slots := 0, locals := 0 } : Room).slots (own_Q n0 (fun h => h = h0) (some (.int (own_r2_30 p0))))) := by
    intro T L  X eT N
    show own_Run p e below T (mkF m 30 #[.val (.int p0)] []) _
    refine own_step (fun t k => XS.iloadN X.here hx rfl (hb hby own_d2_30) rfl  k) ?_
    show own_Run p e below T (mkF m 31 #[.val (.int p0)] [(.int p0)]) _
    refine own_step (fun t k => XS.sipush X.here hx rfl (hb hby own_d2_31) k) ?_
    show own_Run p e below T (mkF m 34 #[.val (.int p0)] [(.int (192 : Int32)), (.int p0)]) _
    by_cases hc52 : p0 < (192 : Int32)
    · refine own_vi (if_pos hc52) ?_
      refine own_step (fun t k => XS.icmpYes X.here hx rfl (pc0 := 34) (pc' := 44) rfl (hb hby own_d2_34) rfl (tlt hc52).1 (by decide) (by decide) k) ?_
      show own_Run p e below T (mkF m 44 #[.val (.int p0)] []) _
      exact B44 T _  X eT N
    · refine own_vi (if_neg hc52) ?_
      refine own_step (fun t k => XS.icmpNo X.here hx rfl (hb hby own_d2_34) rfl (flt hc52).1 k) ?_
      show own_Run p e below T (mkF m 37 #[.val (.int p0)] []) _
      refine own_step (fun t k => XS.iloadN X.here hx rfl (hb hby own_d2_37) rfl  k) ?_
      show own_Run p e below T (mkF m 38 #[.val (.int p0)] [(.int p0)]) _
      refine own_step (fun t k => XS.sipush X.here hx rfl (hb hby own_d2_38) k) ?_
      show own_Run p e below T (mkF m 41 #[.val (.int p0)] [(.int (214 : Int32)), (.int p0)]) _
      by_cases hc53 : (214 : Int32) < p0
      · refine own_vi (if_pos hc53) ?_
        refine own_step (fun t k => XS.icmpNo X.here hx rfl (hb hby own_d2_41) rfl (tlt hc53).2.2.2 k) ?_
        show own_Run p e below T (mkF m 44 #[.val (.int p0)] []) _
        exact B44 T _  X eT N
      · refine own_vi (if_neg hc53) ?_
        refine own_step (fun t k => XS.icmpYes X.here hx rfl (pc0 := 41) (pc' := 191) rfl (hb hby own_d2_41) rfl (flt hc53).2.2.2 (by decide) (by decide) k) ?_
        show own_Run p e below T (mkF m 191 #[.val (.int p0)] []) _
        refine own_step (fun t k => XS.iconst X.here hx rfl (hb hby own_d2_191) k) ?_
        show own_Run p e below T (mkF m 192 #[.val (.int p0)] [(.int (1 : Int32))]) _
        refine own_step (fun t k => XS.goto X.here hx rfl (pc0 := 192) (pc' := 196) rfl (hb hby own_d2_192) (by decide) (by decide) k) ?_
        show own_Run p e below T (mkF m 196 #[.val (.int p0)] [(.int (1 : Int32))]) _
        exact own_retZ X hx hlk hret (hb hby own_d2_196) (by decide) (by decide) N eT
  have B12 : ∀ (T : State) (L : List Loc) , Stand p l e ({ frames := 0, cells := 0, slots := 0, locals := 0 } : Room) s m #[(.int p0)] below meth c T L 0 0 → T.heap = h0 → Fr n0 L → own_Run p e below T (mkF m 12 #[.val (.int p0)] []) (own_Ret FrameEnd s below ({ frames := 0, cells := 0, slots := 0, locals := 0 } : Room).cells ({ frames := 0, cells := 0, slots := 0, locals := 0 } : Room).slots (own_Q n0 (fun h => h = h0) (some (.int (own_r2_12 p0))))) := by
    intro T L  X eT N
    show own_Run p e below T (mkF m 12 #[.val (.int p0)] []) _
    refine own_step (fun t k => XS.iloadN X.here hx rfl (hb hby own_d2_12) rfl  k) ?_
    show own_Run p e below T (mkF m 13 #[.val (.int p0)] [(.int p0)]) _
    refine own_step (fun t k => XS.bipush X.here hx rfl (hb hby own_d2_13) k) ?_
    show own_Run p e below T (mkF m 15 #[.val (.int p0)] [(.int (95 : Int32)), (.int p0)]) _
    by_cases hc54 : p0 = (95 : Int32)
    · refine own_vi (if_pos hc54) ?_
      refine own_step (fun t k => XS.icmpYes X.here hx rfl (pc0 := 15) (pc' := 191) rfl (hb hby own_d2_15) rfl (teq hc54).1 (by decide) (by decide) k) ?_
      show own_Run p e below T (mkF m 191 #[.val (.int p0)] []) _
      refine own_step (fun t k => XS.iconst X.here hx rfl (hb hby own_d2_191) k) ?_
      show own_Run p e below T (mkF m 192 #[.val (.int p0)] [(.int (1 : Int32))]) _
      refine own_step (fun t k => XS.goto X.here hx rfl (pc0 := 192) (pc' := 196) rfl (hb hby own_d2_192) (by decide) (by decide) k) ?_
      show own_Run p e below T (mkF m 196 #[.val (.int p0)] [(.int (1 : Int32))]) _
      exact own_retZ X hx hlk hret (hb hby own_d2_196) (by decide) (by decide) N eT
    · refine own_vi (if_neg hc54) ?_
      refine own_step (fun t k => XS.icmpNo X.here hx rfl (hb hby own_d2_15) rfl (feq hc54).1 k) ?_
      show own_Run p e below T (mkF m 18 #[.val (.int p0)] []) _
      refine own_step (fun t k => XS.iloadN X.here hx rfl (hb hby own_d2_18) rfl  k) ?_
      show own_Run p e below T (mkF m 19 #[.val (.int p0)] [(.int p0)]) _
      refine own_step (fun t k => XS.bipush X.here hx rfl (hb hby own_d2_19) k) ?_
      show own_Run p e below T (mkF m 21 #[.val (.int p0)] [(.int (97 : Int32)), (.int p0)]) _
      by_cases hc55 : p0 < (97 : Int32)
      · refine own_vi (if_pos hc55) ?_
        refine own_step (fun t k => XS.icmpYes X.here hx rfl (pc0 := 21) (pc' := 30) rfl (hb hby own_d2_21) rfl (tlt hc55).1 (by decide) (by decide) k) ?_
        show own_Run p e below T (mkF m 30 #[.val (.int p0)] []) _
        exact B30 T _  X eT N
      · refine own_vi (if_neg hc55) ?_
        refine own_step (fun t k => XS.icmpNo X.here hx rfl (hb hby own_d2_21) rfl (flt hc55).1 k) ?_
        show own_Run p e below T (mkF m 24 #[.val (.int p0)] []) _
        refine own_step (fun t k => XS.iloadN X.here hx rfl (hb hby own_d2_24) rfl  k) ?_
        show own_Run p e below T (mkF m 25 #[.val (.int p0)] [(.int p0)]) _
        refine own_step (fun t k => XS.bipush X.here hx rfl (hb hby own_d2_25) k) ?_
        show own_Run p e below T (mkF m 27 #[.val (.int p0)] [(.int (122 : Int32)), (.int p0)]) _
        by_cases hc56 : (122 : Int32) < p0
        · refine own_vi (if_pos hc56) ?_
          refine own_step (fun t k => XS.icmpNo X.here hx rfl (hb hby own_d2_27) rfl (tlt hc56).2.2.2 k) ?_
          show own_Run p e below T (mkF m 30 #[.val (.int p0)] []) _
          exact B30 T _  X eT N
        · refine own_vi (if_neg hc56) ?_
          refine own_step (fun t k => XS.icmpYes X.here hx rfl (pc0 := 27) (pc' := 191) rfl (hb hby own_d2_27) rfl (flt hc56).2.2.2 (by decide) (by decide) k) ?_
          show own_Run p e below T (mkF m 191 #[.val (.int p0)] []) _
          refine own_step (fun t k => XS.iconst X.here hx rfl (hb hby own_d2_191) k) ?_
          show own_Run p e below T (mkF m 192 #[.val (.int p0)] [(.int (1 : Int32))]) _
          refine own_step (fun t k => XS.goto X.here hx rfl (pc0 := 192) (pc' := 196) rfl (hb hby own_d2_192) (by decide) (by decide) k) ?_
          show own_Run p e below T (mkF m 196 #[.val (.int p0)] [(.int (1 : Int32))]) _
          exact own_retZ X hx hlk hret (hb hby own_d2_196) (by decide) (by decide) N eT
  refine own_fin ?_
  refine own_entry (own_ef2 m p0) ?_
  show own_Run p e below s₁ _ (own_Ret _ s below _ _ (own_Q n0 _ (some (.int (if p0 < (65 : Int32) then (own_r2_12 p0) else (if (90 : Int32) < p0 then (own_r2_12 p0) else (1 : Int32)))))))
  show own_Run p e below s₁ (mkF m 0 #[.val (.int p0)] []) _
  refine own_step (fun t k => XS.iloadN X0.here hx rfl (hb hby own_d2_0) rfl  k) ?_
  show own_Run p e below s₁ (mkF m 1 #[.val (.int p0)] [(.int p0)]) _
  refine own_step (fun t k => XS.bipush X0.here hx rfl (hb hby own_d2_1) k) ?_
  show own_Run p e below s₁ (mkF m 3 #[.val (.int p0)] [(.int (65 : Int32)), (.int p0)]) _
  by_cases hc57 : p0 < (65 : Int32)
  · refine own_vi (if_pos hc57) ?_
    refine own_step (fun t k => XS.icmpYes X0.here hx rfl (pc0 := 3) (pc' := 12) rfl (hb hby own_d2_3) rfl (tlt hc57).1 (by decide) (by decide) k) ?_
    show own_Run p e below s₁ (mkF m 12 #[.val (.int p0)] []) _
    exact B12 s₁ _  X0 e0 N0
  · refine own_vi (if_neg hc57) ?_
    refine own_step (fun t k => XS.icmpNo X0.here hx rfl (hb hby own_d2_3) rfl (flt hc57).1 k) ?_
    show own_Run p e below s₁ (mkF m 6 #[.val (.int p0)] []) _
    refine own_step (fun t k => XS.iloadN X0.here hx rfl (hb hby own_d2_6) rfl  k) ?_
    show own_Run p e below s₁ (mkF m 7 #[.val (.int p0)] [(.int p0)]) _
    refine own_step (fun t k => XS.bipush X0.here hx rfl (hb hby own_d2_7) k) ?_
    show own_Run p e below s₁ (mkF m 9 #[.val (.int p0)] [(.int (90 : Int32)), (.int p0)]) _
    by_cases hc58 : (90 : Int32) < p0
    · refine own_vi (if_pos hc58) ?_
      refine own_step (fun t k => XS.icmpNo X0.here hx rfl (hb hby own_d2_9) rfl (tlt hc58).2.2.2 k) ?_
      show own_Run p e below s₁ (mkF m 12 #[.val (.int p0)] []) _
      exact B12 s₁ _  X0 e0 N0
    · refine own_vi (if_neg hc58) ?_
      refine own_step (fun t k => XS.icmpYes X0.here hx rfl (pc0 := 9) (pc' := 191) rfl (hb hby own_d2_9) rfl (flt hc58).2.2.2 (by decide) (by decide) k) ?_
      show own_Run p e below s₁ (mkF m 191 #[.val (.int p0)] []) _
      refine own_step (fun t k => XS.iconst X0.here hx rfl (hb hby own_d2_191) k) ?_
      show own_Run p e below s₁ (mkF m 192 #[.val (.int p0)] [(.int (1 : Int32))]) _
      refine own_step (fun t k => XS.goto X0.here hx rfl (pc0 := 192) (pc' := 196) rfl (hb hby own_d2_192) (by decide) (by decide) k) ?_
      show own_Run p e below s₁ (mkF m 196 #[.val (.int p0)] [(.int (1 : Int32))]) _
      exact own_retZ X0 hx hlk hret (hb hby own_d2_196) (by decide) (by decide) N0 e0
theorem own_pn1 : plainName "com/example/emscher/emscher/model/XmlNamesIsNameStartPinLaw" = true := by first | (simp [plainName, overriddenIn]; done) | decide +kernel
theorem own_d3_0 : decode method_2_code 0 = .ok (.iload_n 0, 1) := by decide +kernel
theorem own_d3_1 : decode method_2_code 1 = .ok (.bipush 65, 2) := by decide +kernel
theorem own_d3_3 : decode method_2_code 3 = .ok (.if_icmp .lt 9, 3) := by decide +kernel
theorem own_d3_6 : decode method_2_code 6 = .ok (.iload_n 0, 1) := by decide +kernel
theorem own_d3_7 : decode method_2_code 7 = .ok (.ldc 7, 2) := by decide +kernel
theorem own_d3_9 : decode method_2_code 9 = .ok (.if_icmp .le 5, 3) := by decide +kernel
theorem own_d3_12 : decode method_2_code 12 = .ok (.iconst 0, 1) := by decide +kernel
theorem own_d3_13 : decode method_2_code 13 = .ok (.ireturn, 1) := by decide +kernel
theorem own_d3_14 : decode method_2_code 14 = .ok (.iload_n 0, 1) := by decide +kernel
theorem own_d3_15 : decode method_2_code 15 = .ok (.bipush 91, 2) := by decide +kernel
theorem own_d3_17 : decode method_2_code 17 = .ok (.if_icmp .lt 11, 3) := by decide +kernel
theorem own_d3_20 : decode method_2_code 20 = .ok (.iload_n 0, 1) := by decide +kernel
theorem own_d3_21 : decode method_2_code 21 = .ok (.bipush 94, 2) := by decide +kernel
theorem own_d3_23 : decode method_2_code 23 = .ok (.if_icmp .gt 5, 3) := by decide +kernel
theorem own_d3_26 : decode method_2_code 26 = .ok (.iconst 0, 1) := by decide +kernel
theorem own_d3_27 : decode method_2_code 27 = .ok (.ireturn, 1) := by decide +kernel
theorem own_d3_28 : decode method_2_code 28 = .ok (.iload_n 0, 1) := by decide +kernel
theorem own_d3_29 : decode method_2_code 29 = .ok (.bipush 96, 2) := by decide +kernel
theorem own_d3_31 : decode method_2_code 31 = .ok (.if_icmp .ne 5, 3) := by decide +kernel
theorem own_d3_34 : decode method_2_code 34 = .ok (.iconst 0, 1) := by decide +kernel
theorem own_d3_35 : decode method_2_code 35 = .ok (.ireturn, 1) := by decide +kernel
theorem own_d3_36 : decode method_2_code 36 = .ok (.iload_n 0, 1) := by decide +kernel
theorem own_d3_37 : decode method_2_code 37 = .ok (.bipush 123, 2) := by decide +kernel
theorem own_d3_39 : decode method_2_code 39 = .ok (.if_icmp .lt 12, 3) := by decide +kernel
theorem own_d3_42 : decode method_2_code 42 = .ok (.iload_n 0, 1) := by decide +kernel
theorem own_d3_43 : decode method_2_code 43 = .ok (.sipush 191, 3) := by decide +kernel
theorem own_d3_46 : decode method_2_code 46 = .ok (.if_icmp .gt 5, 3) := by decide +kernel
theorem own_d3_49 : decode method_2_code 49 = .ok (.iconst 0, 1) := by decide +kernel
theorem own_d3_50 : decode method_2_code 50 = .ok (.ireturn, 1) := by decide +kernel
theorem own_d3_51 : decode method_2_code 51 = .ok (.iload_n 0, 1) := by decide +kernel
theorem own_d3_52 : decode method_2_code 52 = .ok (.sipush 215, 3) := by decide +kernel
theorem own_d3_55 : decode method_2_code 55 = .ok (.if_icmp .eq 10, 3) := by decide +kernel
theorem own_d3_58 : decode method_2_code 58 = .ok (.iload_n 0, 1) := by decide +kernel
theorem own_d3_59 : decode method_2_code 59 = .ok (.sipush 247, 3) := by decide +kernel
theorem own_d3_62 : decode method_2_code 62 = .ok (.if_icmp .ne 5, 3) := by decide +kernel
theorem own_d3_65 : decode method_2_code 65 = .ok (.iconst 0, 1) := by decide +kernel
theorem own_d3_66 : decode method_2_code 66 = .ok (.ireturn, 1) := by decide +kernel
theorem own_d3_67 : decode method_2_code 67 = .ok (.iload_n 0, 1) := by decide +kernel
theorem own_d3_68 : decode method_2_code 68 = .ok (.sipush 768, 3) := by decide +kernel
theorem own_d3_71 : decode method_2_code 71 = .ok (.if_icmp .lt 12, 3) := by decide +kernel
theorem own_d3_74 : decode method_2_code 74 = .ok (.iload_n 0, 1) := by decide +kernel
theorem own_d3_75 : decode method_2_code 75 = .ok (.sipush 879, 3) := by decide +kernel
theorem own_d3_78 : decode method_2_code 78 = .ok (.if_icmp .gt 5, 3) := by decide +kernel
theorem own_d3_81 : decode method_2_code 81 = .ok (.iconst 0, 1) := by decide +kernel
theorem own_d3_82 : decode method_2_code 82 = .ok (.ireturn, 1) := by decide +kernel
theorem own_d3_83 : decode method_2_code 83 = .ok (.iload_n 0, 1) := by decide +kernel
theorem own_d3_84 : decode method_2_code 84 = .ok (.sipush 894, 3) := by decide +kernel
theorem own_d3_87 : decode method_2_code 87 = .ok (.if_icmp .ne 5, 3) := by decide +kernel
theorem own_d3_90 : decode method_2_code 90 = .ok (.iconst 0, 1) := by decide +kernel
theorem own_d3_91 : decode method_2_code 91 = .ok (.ireturn, 1) := by decide +kernel
theorem own_d3_92 : decode method_2_code 92 = .ok (.iload_n 0, 1) := by decide +kernel
theorem own_d3_93 : decode method_2_code 93 = .ok (.sipush 8192, 3) := by decide +kernel
theorem own_d3_96 : decode method_2_code 96 = .ok (.if_icmp .lt 12, 3) := by decide +kernel
theorem own_d3_99 : decode method_2_code 99 = .ok (.iload_n 0, 1) := by decide +kernel
theorem own_d3_100 : decode method_2_code 100 = .ok (.sipush 8203, 3) := by decide +kernel
theorem own_d3_103 : decode method_2_code 103 = .ok (.if_icmp .gt 5, 3) := by decide +kernel
theorem own_d3_106 : decode method_2_code 106 = .ok (.iconst 0, 1) := by decide +kernel
theorem own_d3_107 : decode method_2_code 107 = .ok (.ireturn, 1) := by decide +kernel
theorem own_d3_108 : decode method_2_code 108 = .ok (.iload_n 0, 1) := by decide +kernel
theorem own_d3_109 : decode method_2_code 109 = .ok (.sipush 8206, 3) := by decide +kernel
theorem own_d3_112 : decode method_2_code 112 = .ok (.if_icmp .lt 12, 3) := by decide +kernel
theorem own_d3_115 : decode method_2_code 115 = .ok (.iload_n 0, 1) := by decide +kernel
theorem own_d3_116 : decode method_2_code 116 = .ok (.sipush 8303, 3) := by decide +kernel
theorem own_d3_119 : decode method_2_code 119 = .ok (.if_icmp .gt 5, 3) := by decide +kernel
theorem own_d3_122 : decode method_2_code 122 = .ok (.iconst 0, 1) := by decide +kernel
theorem own_d3_123 : decode method_2_code 123 = .ok (.ireturn, 1) := by decide +kernel
theorem own_d3_124 : decode method_2_code 124 = .ok (.iload_n 0, 1) := by decide +kernel
theorem own_d3_125 : decode method_2_code 125 = .ok (.sipush 8592, 3) := by decide +kernel
theorem own_d3_128 : decode method_2_code 128 = .ok (.if_icmp .lt 12, 3) := by decide +kernel
theorem own_d3_131 : decode method_2_code 131 = .ok (.iload_n 0, 1) := by decide +kernel
theorem own_d3_132 : decode method_2_code 132 = .ok (.sipush 11263, 3) := by decide +kernel
theorem own_d3_135 : decode method_2_code 135 = .ok (.if_icmp .gt 5, 3) := by decide +kernel
theorem own_d3_138 : decode method_2_code 138 = .ok (.iconst 0, 1) := by decide +kernel
theorem own_d3_139 : decode method_2_code 139 = .ok (.ireturn, 1) := by decide +kernel
theorem own_d3_140 : decode method_2_code 140 = .ok (.iload_n 0, 1) := by decide +kernel
theorem own_d3_141 : decode method_2_code 141 = .ok (.sipush 12272, 3) := by decide +kernel
theorem own_d3_144 : decode method_2_code 144 = .ok (.if_icmp .lt 12, 3) := by decide +kernel
theorem own_d3_147 : decode method_2_code 147 = .ok (.iload_n 0, 1) := by decide +kernel
theorem own_d3_148 : decode method_2_code 148 = .ok (.sipush 12288, 3) := by decide +kernel
theorem own_d3_151 : decode method_2_code 151 = .ok (.if_icmp .gt 5, 3) := by decide +kernel
theorem own_d3_154 : decode method_2_code 154 = .ok (.iconst 0, 1) := by decide +kernel
theorem own_d3_155 : decode method_2_code 155 = .ok (.ireturn, 1) := by decide +kernel
theorem own_d3_156 : decode method_2_code 156 = .ok (.iload_n 0, 1) := by decide +kernel
theorem own_d3_157 : decode method_2_code 157 = .ok (.ldc 8, 2) := by decide +kernel
theorem own_d3_159 : decode method_2_code 159 = .ok (.if_icmp .lt 11, 3) := by decide +kernel
theorem own_d3_162 : decode method_2_code 162 = .ok (.iload_n 0, 1) := by decide +kernel
theorem own_d3_163 : decode method_2_code 163 = .ok (.ldc 9, 2) := by decide +kernel
theorem own_d3_165 : decode method_2_code 165 = .ok (.if_icmp .gt 5, 3) := by decide +kernel
theorem own_d3_168 : decode method_2_code 168 = .ok (.iconst 0, 1) := by decide +kernel
theorem own_d3_169 : decode method_2_code 169 = .ok (.ireturn, 1) := by decide +kernel
theorem own_d3_170 : decode method_2_code 170 = .ok (.iload_n 0, 1) := by decide +kernel
theorem own_d3_171 : decode method_2_code 171 = .ok (.ldc 10, 2) := by decide +kernel
theorem own_d3_173 : decode method_2_code 173 = .ok (.if_icmp .lt 11, 3) := by decide +kernel
theorem own_d3_176 : decode method_2_code 176 = .ok (.iload_n 0, 1) := by decide +kernel
theorem own_d3_177 : decode method_2_code 177 = .ok (.ldc 11, 2) := by decide +kernel
theorem own_d3_179 : decode method_2_code 179 = .ok (.if_icmp .gt 5, 3) := by decide +kernel
theorem own_d3_182 : decode method_2_code 182 = .ok (.iconst 0, 1) := by decide +kernel
theorem own_d3_183 : decode method_2_code 183 = .ok (.ireturn, 1) := by decide +kernel
theorem own_d3_184 : decode method_2_code 184 = .ok (.iload_n 0, 1) := by decide +kernel
theorem own_d3_185 : decode method_2_code 185 = .ok (.ldc 12, 2) := by decide +kernel
theorem own_d3_187 : decode method_2_code 187 = .ok (.if_icmp .lt 11, 3) := by decide +kernel
theorem own_d3_190 : decode method_2_code 190 = .ok (.iload_n 0, 1) := by decide +kernel
theorem own_d3_191 : decode method_2_code 191 = .ok (.ldc 13, 2) := by decide +kernel
theorem own_d3_193 : decode method_2_code 193 = .ok (.if_icmp .gt 5, 3) := by decide +kernel
theorem own_d3_196 : decode method_2_code 196 = .ok (.iconst 0, 1) := by decide +kernel
theorem own_d3_197 : decode method_2_code 197 = .ok (.ireturn, 1) := by decide +kernel
theorem own_d3_198 : decode method_2_code 198 = .ok (.iconst 1, 1) := by decide +kernel
theorem own_d3_199 : decode method_2_code 199 = .ok (.ireturn, 1) := by decide +kernel
def own_r3_184 (p0 : Int32) : Int32 := (if p0 < (65534 : Int32) then (1 : Int32) else (if (65535 : Int32) < p0 then (1 : Int32) else (0 : Int32)))
def own_r3_170 (p0 : Int32) : Int32 := (if p0 < (64976 : Int32) then (own_r3_184 p0) else (if (65007 : Int32) < p0 then (own_r3_184 p0) else (0 : Int32)))
def own_r3_156 (p0 : Int32) : Int32 := (if p0 < (55296 : Int32) then (own_r3_170 p0) else (if (63743 : Int32) < p0 then (own_r3_170 p0) else (0 : Int32)))
def own_r3_140 (p0 : Int32) : Int32 := (if p0 < (12272 : Int32) then (own_r3_156 p0) else (if (12288 : Int32) < p0 then (own_r3_156 p0) else (0 : Int32)))
def own_r3_124 (p0 : Int32) : Int32 := (if p0 < (8592 : Int32) then (own_r3_140 p0) else (if (11263 : Int32) < p0 then (own_r3_140 p0) else (0 : Int32)))
def own_r3_108 (p0 : Int32) : Int32 := (if p0 < (8206 : Int32) then (own_r3_124 p0) else (if (8303 : Int32) < p0 then (own_r3_124 p0) else (0 : Int32)))
def own_r3_83 (p0 : Int32) : Int32 := (if p0 = (894 : Int32) then (0 : Int32) else (if p0 < (8192 : Int32) then (own_r3_108 p0) else (if (8203 : Int32) < p0 then (own_r3_108 p0) else (0 : Int32))))
def own_r3_51 (p0 : Int32) : Int32 := (if p0 = (215 : Int32) then (0 : Int32) else (if p0 = (247 : Int32) then (0 : Int32) else (if p0 < (768 : Int32) then (own_r3_83 p0) else (if (879 : Int32) < p0 then (own_r3_83 p0) else (0 : Int32)))))
def own_r3_28 (p0 : Int32) : Int32 := (if p0 = (96 : Int32) then (0 : Int32) else (if p0 < (123 : Int32) then (own_r3_51 p0) else (if (191 : Int32) < p0 then (own_r3_51 p0) else (0 : Int32))))
def own_r3 (p0 : Int32) : Int32 := (if p0 < (65 : Int32) then (0 : Int32) else (if (983039 : Int32) < p0 then (0 : Int32) else (if p0 < (91 : Int32) then (own_r3_28 p0) else (if (94 : Int32) < p0 then (own_r3_28 p0) else (0 : Int32)))))
theorem own_ef3 (m : MethodId) (p0 : Int32) : entryFrame m #[(.int p0)] 1 = (mkF m 0 #[.val (.int p0)] []) := by first | (simp [entryFrame, mkF, argsToLocals, Value.category]; done) | rfl
set_option maxRecDepth 65536 in
set_option maxHeartbeats 40000000 in
theorem rm3 (l : Launch) (Z : State) (av0 : Array Value) (hw : ∀ d ∈ tables_1, d.before av0 Z = true) (ws : List Jvm.Cond) (p0 : Int32) (h0 : Heap) (n0 : Nat) (Z0 : n0 ≤ h0.size) :
    MetFree l (⟨"com/example/emscher/emscher/model/XmlNamesIsNameStartPinLaw", "ref", "(I)Z"⟩ : MethodName) (head1 (Jvm.Cond.code (⟨"com/example/emscher/emscher/model/XmlNamesIsNameStartPinLaw", "ref", "(I)Z"⟩ : MethodName) method_2_code 1 (some .boolean) :: ws) ({ frames := 0, cells := 0, slots := 0, locals := 0 } : Room)) (fun a U => a = #[(.int p0)] ∧ Z.Warmed39 U.vm ∧ U.heap = h0) (fun _ _ _ _ _ => True) (fun _ U o U' => ∃ v L, o = .returned v ∧ own_Q n0 (fun h => h = h0) (some (.int (own_r3 p0))) v U'.heap L ∧ FrameEnd U o U' L ({ frames := 0, cells := 0, slots := 0, locals := 0 } : Room).cells ({ frames := 0, cells := 0, slots := 0, locals := 0 } : Room).slots) := by
  refine MetFree.of_bodySF (plainFor_of_name own_pn1) hisR ?_
  intro p e s m args below meth c s₁ Bd hml0 hP hK
  obtain ⟨rfl, hZ, hh⟩ := hP
  have hx := Bd.exec
  have hby := Bd.bytes
  have hml : c.maxLocals = 1 := hml0
  have hown : s.vm.findClass "com/example/emscher/emscher/model/XmlNamesIsNameStartPinLaw" = some m.cls := findClass_of_methodNamed Bd.named
  have hnm := (name_of_methodNamed Bd.named Bd.method).1
  have hret := Bd.returns
  have hlk : meth.locks = false := BodyLoose.notSynchronized Bd
  have X0 : Stand p l e ({ frames := 0, cells := 0, slots := 0, locals := 0 } : Room) s m #[(.int p0)] below meth c s₁ [] 0 0 := Stand.of_body Bd
  have e0 : s₁.heap = h0 := by rw [← hh, Bd.state]; rfl
  have N0 := Fr.nil n0
  clear Bd hh hK
  have B184 : ∀ (T : State) (L : List Loc) , Stand p l e ({ frames := 0, cells := 0, slots := 0, locals := 0 } : Room) s m #[(.int p0)] below meth c T L 0 0 → T.heap = h0 → Fr n0 L → own_Run p e below T (mkF m 184 #[.val (.int p0)] []) (own_Ret FrameEnd s below ({ frames := 0, cells := 0, slots := 0, locals := 0 } : Room).cells ({ frames := 0, cells := 0, slots := 0, locals := 0 } : Room).slots (own_Q n0 (fun h => h = h0) (some (.int (own_r3_184 p0))))) := by
    intro T L  X eT N
    show own_Run p e below T (mkF m 184 #[.val (.int p0)] []) _
    refine own_step (fun t k => XS.iloadN X.here hx rfl (hb hby own_d3_184) rfl  k) ?_
    show own_Run p e below T (mkF m 185 #[.val (.int p0)] [(.int p0)]) _
    refine own_step (fun t k => X.ldcInt hx hown (mvT hZ (hw _ (List.mem_of_getElem? (i := 27) rfl))) (g := (mkF m 185 #[.val (.int p0)] [(.int p0)])) rfl (hb hby own_d3_185) t k) ?_
    show own_Run p e below T (mkF m 187 #[.val (.int p0)] [(.int (65534 : Int32)), (.int p0)]) _
    by_cases hc27 : p0 < (65534 : Int32)
    · refine own_vi (if_pos hc27) ?_
      refine own_step (fun t k => XS.icmpYes X.here hx rfl (pc0 := 187) (pc' := 198) rfl (hb hby own_d3_187) rfl (tlt hc27).1 (by decide) (by decide) k) ?_
      show own_Run p e below T (mkF m 198 #[.val (.int p0)] []) _
      refine own_step (fun t k => XS.iconst X.here hx rfl (hb hby own_d3_198) k) ?_
      show own_Run p e below T (mkF m 199 #[.val (.int p0)] [(.int (1 : Int32))]) _
      exact own_retZ X hx hlk hret (hb hby own_d3_199) (by decide) (by decide) N eT
    · refine own_vi (if_neg hc27) ?_
      refine own_step (fun t k => XS.icmpNo X.here hx rfl (hb hby own_d3_187) rfl (flt hc27).1 k) ?_
      show own_Run p e below T (mkF m 190 #[.val (.int p0)] []) _
      refine own_step (fun t k => XS.iloadN X.here hx rfl (hb hby own_d3_190) rfl  k) ?_
      show own_Run p e below T (mkF m 191 #[.val (.int p0)] [(.int p0)]) _
      refine own_step (fun t k => X.ldcInt hx hown (mvT hZ (hw _ (List.mem_of_getElem? (i := 29) rfl))) (g := (mkF m 191 #[.val (.int p0)] [(.int p0)])) rfl (hb hby own_d3_191) t k) ?_
      show own_Run p e below T (mkF m 193 #[.val (.int p0)] [(.int (65535 : Int32)), (.int p0)]) _
      by_cases hc28 : (65535 : Int32) < p0
      · refine own_vi (if_pos hc28) ?_
        refine own_step (fun t k => XS.icmpYes X.here hx rfl (pc0 := 193) (pc' := 198) rfl (hb hby own_d3_193) rfl (tlt hc28).2.2.1 (by decide) (by decide) k) ?_
        show own_Run p e below T (mkF m 198 #[.val (.int p0)] []) _
        refine own_step (fun t k => XS.iconst X.here hx rfl (hb hby own_d3_198) k) ?_
        show own_Run p e below T (mkF m 199 #[.val (.int p0)] [(.int (1 : Int32))]) _
        exact own_retZ X hx hlk hret (hb hby own_d3_199) (by decide) (by decide) N eT
      · refine own_vi (if_neg hc28) ?_
        refine own_step (fun t k => XS.icmpNo X.here hx rfl (hb hby own_d3_193) rfl (flt hc28).2.2.1 k) ?_
        show own_Run p e below T (mkF m 196 #[.val (.int p0)] []) _
        refine own_step (fun t k => XS.iconst X.here hx rfl (hb hby own_d3_196) k) ?_
        show own_Run p e below T (mkF m 197 #[.val (.int p0)] [(.int (0 : Int32))]) _
        exact own_retZ X hx hlk hret (hb hby own_d3_197) (by decide) (by decide) N eT
  have B170 : ∀ (T : State) (L : List Loc) , Stand p l e ({ frames := 0, cells := 0, slots := 0, locals := 0 } : Room) s m #[(.int p0)] below meth c T L 0 0 → T.heap = h0 → Fr n0 L → own_Run p e below T (mkF m 170 #[.val (.int p0)] []) (own_Ret FrameEnd s below ({ frames := 0, cells := 0, slots := 0, locals := 0 } : Room).cells ({ frames := 0, cells := 0, slots := 0, locals := 0 } : Room).slots (own_Q n0 (fun h => h = h0) (some (.int (own_r3_170 p0))))) := by
    intro T L  X eT N
    show own_Run p e below T (mkF m 170 #[.val (.int p0)] []) _
    refine own_step (fun t k => XS.iloadN X.here hx rfl (hb hby own_d3_170) rfl  k) ?_
    show own_Run p e below T (mkF m 171 #[.val (.int p0)] [(.int p0)]) _
    refine own_step (fun t k => X.ldcInt hx hown (mvT hZ (hw _ (List.mem_of_getElem? (i := 26) rfl))) (g := (mkF m 171 #[.val (.int p0)] [(.int p0)])) rfl (hb hby own_d3_171) t k) ?_
    show own_Run p e below T (mkF m 173 #[.val (.int p0)] [(.int (64976 : Int32)), (.int p0)]) _
    by_cases hc29 : p0 < (64976 : Int32)
    · refine own_vi (if_pos hc29) ?_
      refine own_step (fun t k => XS.icmpYes X.here hx rfl (pc0 := 173) (pc' := 184) rfl (hb hby own_d3_173) rfl (tlt hc29).1 (by decide) (by decide) k) ?_
      show own_Run p e below T (mkF m 184 #[.val (.int p0)] []) _
      exact B184 T _  X eT N
    · refine own_vi (if_neg hc29) ?_
      refine own_step (fun t k => XS.icmpNo X.here hx rfl (hb hby own_d3_173) rfl (flt hc29).1 k) ?_
      show own_Run p e below T (mkF m 176 #[.val (.int p0)] []) _
      refine own_step (fun t k => XS.iloadN X.here hx rfl (hb hby own_d3_176) rfl  k) ?_
      show own_Run p e below T (mkF m 177 #[.val (.int p0)] [(.int p0)]) _
      refine own_step (fun t k => X.ldcInt hx hown (mvT hZ (hw _ (List.mem_of_getElem? (i := 35) rfl))) (g := (mkF m 177 #[.val (.int p0)] [(.int p0)])) rfl (hb hby own_d3_177) t k) ?_
      show own_Run p e below T (mkF m 179 #[.val (.int p0)] [(.int (65007 : Int32)), (.int p0)]) _
      by_cases hc30 : (65007 : Int32) < p0
      · refine own_vi (if_pos hc30) ?_
        refine own_step (fun t k => XS.icmpYes X.here hx rfl (pc0 := 179) (pc' := 184) rfl (hb hby own_d3_179) rfl (tlt hc30).2.2.1 (by decide) (by decide) k) ?_
        show own_Run p e below T (mkF m 184 #[.val (.int p0)] []) _
        exact B184 T _  X eT N
      · refine own_vi (if_neg hc30) ?_
        refine own_step (fun t k => XS.icmpNo X.here hx rfl (hb hby own_d3_179) rfl (flt hc30).2.2.1 k) ?_
        show own_Run p e below T (mkF m 182 #[.val (.int p0)] []) _
        refine own_step (fun t k => XS.iconst X.here hx rfl (hb hby own_d3_182) k) ?_
        show own_Run p e below T (mkF m 183 #[.val (.int p0)] [(.int (0 : Int32))]) _
        exact own_retZ X hx hlk hret (hb hby own_d3_183) (by decide) (by decide) N eT
  have B156 : ∀ (T : State) (L : List Loc) , Stand p l e ({ frames := 0, cells := 0, slots := 0, locals := 0 } : Room) s m #[(.int p0)] below meth c T L 0 0 → T.heap = h0 → Fr n0 L → own_Run p e below T (mkF m 156 #[.val (.int p0)] []) (own_Ret FrameEnd s below ({ frames := 0, cells := 0, slots := 0, locals := 0 } : Room).cells ({ frames := 0, cells := 0, slots := 0, locals := 0 } : Room).slots (own_Q n0 (fun h => h = h0) (some (.int (own_r3_156 p0))))) := by
    intro T L  X eT N
    show own_Run p e below T (mkF m 156 #[.val (.int p0)] []) _
    refine own_step (fun t k => XS.iloadN X.here hx rfl (hb hby own_d3_156) rfl  k) ?_
    show own_Run p e below T (mkF m 157 #[.val (.int p0)] [(.int p0)]) _
    refine own_step (fun t k => X.ldcInt hx hown (mvT hZ (hw _ (List.mem_of_getElem? (i := 25) rfl))) (g := (mkF m 157 #[.val (.int p0)] [(.int p0)])) rfl (hb hby own_d3_157) t k) ?_
    show own_Run p e below T (mkF m 159 #[.val (.int p0)] [(.int (55296 : Int32)), (.int p0)]) _
    by_cases hc31 : p0 < (55296 : Int32)
    · refine own_vi (if_pos hc31) ?_
      refine own_step (fun t k => XS.icmpYes X.here hx rfl (pc0 := 159) (pc' := 170) rfl (hb hby own_d3_159) rfl (tlt hc31).1 (by decide) (by decide) k) ?_
      show own_Run p e below T (mkF m 170 #[.val (.int p0)] []) _
      exact B170 T _  X eT N
    · refine own_vi (if_neg hc31) ?_
      refine own_step (fun t k => XS.icmpNo X.here hx rfl (hb hby own_d3_159) rfl (flt hc31).1 k) ?_
      show own_Run p e below T (mkF m 162 #[.val (.int p0)] []) _
      refine own_step (fun t k => XS.iloadN X.here hx rfl (hb hby own_d3_162) rfl  k) ?_
      show own_Run p e below T (mkF m 163 #[.val (.int p0)] [(.int p0)]) _
      refine own_step (fun t k => X.ldcInt hx hown (mvT hZ (hw _ (List.mem_of_getElem? (i := 34) rfl))) (g := (mkF m 163 #[.val (.int p0)] [(.int p0)])) rfl (hb hby own_d3_163) t k) ?_
      show own_Run p e below T (mkF m 165 #[.val (.int p0)] [(.int (63743 : Int32)), (.int p0)]) _
      by_cases hc32 : (63743 : Int32) < p0
      · refine own_vi (if_pos hc32) ?_
        refine own_step (fun t k => XS.icmpYes X.here hx rfl (pc0 := 165) (pc' := 170) rfl (hb hby own_d3_165) rfl (tlt hc32).2.2.1 (by decide) (by decide) k) ?_
        show own_Run p e below T (mkF m 170 #[.val (.int p0)] []) _
        exact B170 T _  X eT N
      · refine own_vi (if_neg hc32) ?_
        refine own_step (fun t k => XS.icmpNo X.here hx rfl (hb hby own_d3_165) rfl (flt hc32).2.2.1 k) ?_
        show own_Run p e below T (mkF m 168 #[.val (.int p0)] []) _
        refine own_step (fun t k => XS.iconst X.here hx rfl (hb hby own_d3_168) k) ?_
        show own_Run p e below T (mkF m 169 #[.val (.int p0)] [(.int (0 : Int32))]) _
        exact own_retZ X hx hlk hret (hb hby own_d3_169) (by decide) (by decide) N eT
  have B140 : ∀ (T : State) (L : List Loc) , Stand p l e ({ frames := 0, cells := 0, slots := 0, locals := 0 } : Room) s m #[(.int p0)] below meth c T L 0 0 → T.heap = h0 → Fr n0 L → own_Run p e below T (mkF m 140 #[.val (.int p0)] []) (own_Ret FrameEnd s below ({ frames := 0, cells := 0, slots := 0, locals := 0 } : Room).cells ({ frames := 0, cells := 0, slots := 0, locals := 0 } : Room).slots (own_Q n0 (fun h => h = h0) (some (.int (own_r3_140 p0))))) := by
    intro T L  X eT N
    show own_Run p e below T (mkF m 140 #[.val (.int p0)] []) _
    refine own_step (fun t k => XS.iloadN X.here hx rfl (hb hby own_d3_140) rfl  k) ?_
    show own_Run p e below T (mkF m 141 #[.val (.int p0)] [(.int p0)]) _
    refine own_step (fun t k => XS.sipush X.here hx rfl (hb hby own_d3_141) k) ?_
    show own_Run p e below T (mkF m 144 #[.val (.int p0)] [(.int (12272 : Int32)), (.int p0)]) _
    by_cases hc33 : p0 < (12272 : Int32)
    · refine own_vi (if_pos hc33) ?_
      refine own_step (fun t k => XS.icmpYes X.here hx rfl (pc0 := 144) (pc' := 156) rfl (hb hby own_d3_144) rfl (tlt hc33).1 (by decide) (by decide) k) ?_
      show own_Run p e below T (mkF m 156 #[.val (.int p0)] []) _
      exact B156 T _  X eT N
    · refine own_vi (if_neg hc33) ?_
      refine own_step (fun t k => XS.icmpNo X.here hx rfl (hb hby own_d3_144) rfl (flt hc33).1 k) ?_
      show own_Run p e below T (mkF m 147 #[.val (.int p0)] []) _
      refine own_step (fun t k => XS.iloadN X.here hx rfl (hb hby own_d3_147) rfl  k) ?_
      show own_Run p e below T (mkF m 148 #[.val (.int p0)] [(.int p0)]) _
      refine own_step (fun t k => XS.sipush X.here hx rfl (hb hby own_d3_148) k) ?_
      show own_Run p e below T (mkF m 151 #[.val (.int p0)] [(.int (12288 : Int32)), (.int p0)]) _
      by_cases hc34 : (12288 : Int32) < p0
      · refine own_vi (if_pos hc34) ?_
        refine own_step (fun t k => XS.icmpYes X.here hx rfl (pc0 := 151) (pc' := 156) rfl (hb hby own_d3_151) rfl (tlt hc34).2.2.1 (by decide) (by decide) k) ?_
        show own_Run p e below T (mkF m 156 #[.val (.int p0)] []) _
        exact B156 T _  X eT N
      · refine own_vi (if_neg hc34) ?_
        refine own_step (fun t k => XS.icmpNo X.here hx rfl (hb hby own_d3_151) rfl (flt hc34).2.2.1 k) ?_
        show own_Run p e below T (mkF m 154 #[.val (.int p0)] []) _
        refine own_step (fun t k => XS.iconst X.here hx rfl (hb hby own_d3_154) k) ?_
        show own_Run p e below T (mkF m 155 #[.val (.int p0)] [(.int (0 : Int32))]) _
        exact own_retZ X hx hlk hret (hb hby own_d3_155) (by decide) (by decide) N eT
  have B124 : ∀ (T : State) (L : List Loc) , Stand p l e ({ frames := 0, cells := 0, slots := 0, locals := 0 } : Room) s m #[(.int p0)] below meth c T L 0 0 → T.heap = h0 → Fr n0 L → own_Run p e below T (mkF m 124 #[.val (.int p0)] []) (own_Ret FrameEnd s below ({ frames := 0, cells := 0, slots := 0, locals := 0 } : Room).cells ({ frames := 0, cells := 0, slots := 0, locals := 0 } : Room).slots (own_Q n0 (fun h => h = h0) (some (.int (own_r3_124 p0))))) := by
    intro T L  X eT N
    show own_Run p e below T (mkF m 124 #[.val (.int p0)] []) _
    refine own_step (fun t k => XS.iloadN X.here hx rfl (hb hby own_d3_124) rfl  k) ?_
    show own_Run p e below T (mkF m 125 #[.val (.int p0)] [(.int p0)]) _
    refine own_step (fun t k => XS.sipush X.here hx rfl (hb hby own_d3_125) k) ?_
    show own_Run p e below T (mkF m 128 #[.val (.int p0)] [(.int (8592 : Int32)), (.int p0)]) _
    by_cases hc35 : p0 < (8592 : Int32)
    · refine own_vi (if_pos hc35) ?_
      refine own_step (fun t k => XS.icmpYes X.here hx rfl (pc0 := 128) (pc' := 140) rfl (hb hby own_d3_128) rfl (tlt hc35).1 (by decide) (by decide) k) ?_
      show own_Run p e below T (mkF m 140 #[.val (.int p0)] []) _
      exact B140 T _  X eT N
    · refine own_vi (if_neg hc35) ?_
      refine own_step (fun t k => XS.icmpNo X.here hx rfl (hb hby own_d3_128) rfl (flt hc35).1 k) ?_
      show own_Run p e below T (mkF m 131 #[.val (.int p0)] []) _
      refine own_step (fun t k => XS.iloadN X.here hx rfl (hb hby own_d3_131) rfl  k) ?_
      show own_Run p e below T (mkF m 132 #[.val (.int p0)] [(.int p0)]) _
      refine own_step (fun t k => XS.sipush X.here hx rfl (hb hby own_d3_132) k) ?_
      show own_Run p e below T (mkF m 135 #[.val (.int p0)] [(.int (11263 : Int32)), (.int p0)]) _
      by_cases hc36 : (11263 : Int32) < p0
      · refine own_vi (if_pos hc36) ?_
        refine own_step (fun t k => XS.icmpYes X.here hx rfl (pc0 := 135) (pc' := 140) rfl (hb hby own_d3_135) rfl (tlt hc36).2.2.1 (by decide) (by decide) k) ?_
        show own_Run p e below T (mkF m 140 #[.val (.int p0)] []) _
        exact B140 T _  X eT N
      · refine own_vi (if_neg hc36) ?_
        refine own_step (fun t k => XS.icmpNo X.here hx rfl (hb hby own_d3_135) rfl (flt hc36).2.2.1 k) ?_
        show own_Run p e below T (mkF m 138 #[.val (.int p0)] []) _
        refine own_step (fun t k => XS.iconst X.here hx rfl (hb hby own_d3_138) k) ?_
        show own_Run p e below T (mkF m 139 #[.val (.int p0)] [(.int (0 : Int32))]) _
        exact own_retZ X hx hlk hret (hb hby own_d3_139) (by decide) (by decide) N eT
  have B108 : ∀ (T : State) (L : List Loc) , Stand p l e ({ frames := 0, cells := 0, slots := 0, locals := 0 } : Room) s m #[(.int p0)] below meth c T L 0 0 → T.heap = h0 → Fr n0 L → own_Run p e below T (mkF m 108 #[.val (.int p0)] []) (own_Ret FrameEnd s below ({ frames := 0, cells := 0, slots := 0, locals := 0 } : Room).cells ({ frames := 0, cells := 0, slots := 0, locals := 0 } : Room).slots (own_Q n0 (fun h => h = h0) (some (.int (own_r3_108 p0))))) := by
    intro T L  X eT N
    show own_Run p e below T (mkF m 108 #[.val (.int p0)] []) _
    refine own_step (fun t k => XS.iloadN X.here hx rfl (hb hby own_d3_108) rfl  k) ?_
    show own_Run p e below T (mkF m 109 #[.val (.int p0)] [(.int p0)]) _
    refine own_step (fun t k => XS.sipush X.here hx rfl (hb hby own_d3_109) k) ?_
    show own_Run p e below T (mkF m 112 #[.val (.int p0)] [(.int (8206 : Int32)), (.int p0)]) _
    by_cases hc37 : p0 < (8206 : Int32)
    · refine own_vi (if_pos hc37) ?_
      refine own_step (fun t k => XS.icmpYes X.here hx rfl (pc0 := 112) (pc' := 124) rfl (hb hby own_d3_112) rfl (tlt hc37).1 (by decide) (by decide) k) ?_
      show own_Run p e below T (mkF m 124 #[.val (.int p0)] []) _
      exact B124 T _  X eT N
    · refine own_vi (if_neg hc37) ?_
      refine own_step (fun t k => XS.icmpNo X.here hx rfl (hb hby own_d3_112) rfl (flt hc37).1 k) ?_
      show own_Run p e below T (mkF m 115 #[.val (.int p0)] []) _
      refine own_step (fun t k => XS.iloadN X.here hx rfl (hb hby own_d3_115) rfl  k) ?_
      show own_Run p e below T (mkF m 116 #[.val (.int p0)] [(.int p0)]) _
      refine own_step (fun t k => XS.sipush X.here hx rfl (hb hby own_d3_116) k) ?_
      show own_Run p e below T (mkF m 119 #[.val (.int p0)] [(.int (8303 : Int32)), (.int p0)]) _
      by_cases hc38 : (8303 : Int32) < p0
      · refine own_vi (if_pos hc38) ?_
        refine own_step (fun t k => XS.icmpYes X.here hx rfl (pc0 := 119) (pc' := 124) rfl (hb hby own_d3_119) rfl (tlt hc38).2.2.1 (by decide) (by decide) k) ?_
        show own_Run p e below T (mkF m 124 #[.val (.int p0)] []) _
        exact B124 T _  X eT N
      · refine own_vi (if_neg hc38) ?_
        refine own_step (fun t k => XS.icmpNo X.here hx rfl (hb hby own_d3_119) rfl (flt hc38).2.2.1 k) ?_
        show own_Run p e below T (mkF m 122 #[.val (.int p0)] []) _
        refine own_step (fun t k => XS.iconst X.here hx rfl (hb hby own_d3_122) k) ?_
        show own_Run p e below T (mkF m 123 #[.val (.int p0)] [(.int (0 : Int32))]) _
        exact own_retZ X hx hlk hret (hb hby own_d3_123) (by decide) (by decide) N eT
  have B83 : ∀ (T : State) (L : List Loc) , Stand p l e ({ frames := 0, cells := 0, slots := 0, locals := 0 } : Room) s m #[(.int p0)] below meth c T L 0 0 → T.heap = h0 → Fr n0 L → own_Run p e below T (mkF m 83 #[.val (.int p0)] []) (own_Ret FrameEnd s below ({ frames := 0, cells := 0, slots := 0, locals := 0 } : Room).cells ({ frames := 0, cells := 0, slots := 0, locals := 0 } : Room).slots (own_Q n0 (fun h => h = h0) (some (.int (own_r3_83 p0))))) := by
    intro T L  X eT N
    show own_Run p e below T (mkF m 83 #[.val (.int p0)] []) _
    refine own_step (fun t k => XS.iloadN X.here hx rfl (hb hby own_d3_83) rfl  k) ?_
    show own_Run p e below T (mkF m 84 #[.val (.int p0)] [(.int p0)]) _
    refine own_step (fun t k => XS.sipush X.here hx rfl (hb hby own_d3_84) k) ?_
    show own_Run p e below T (mkF m 87 #[.val (.int p0)] [(.int (894 : Int32)), (.int p0)]) _
    by_cases hc39 : p0 = (894 : Int32)
    · refine own_vi (if_pos hc39) ?_
      refine own_step (fun t k => XS.icmpNo X.here hx rfl (hb hby own_d3_87) rfl (teq hc39).2 k) ?_
      show own_Run p e below T (mkF m 90 #[.val (.int p0)] []) _
      refine own_step (fun t k => XS.iconst X.here hx rfl (hb hby own_d3_90) k) ?_
      show own_Run p e below T (mkF m 91 #[.val (.int p0)] [(.int (0 : Int32))]) _
      exact own_retZ X hx hlk hret (hb hby own_d3_91) (by decide) (by decide) N eT
    · refine own_vi (if_neg hc39) ?_
      refine own_step (fun t k => XS.icmpYes X.here hx rfl (pc0 := 87) (pc' := 92) rfl (hb hby own_d3_87) rfl (feq hc39).2 (by decide) (by decide) k) ?_
      show own_Run p e below T (mkF m 92 #[.val (.int p0)] []) _
      refine own_step (fun t k => XS.iloadN X.here hx rfl (hb hby own_d3_92) rfl  k) ?_
      show own_Run p e below T (mkF m 93 #[.val (.int p0)] [(.int p0)]) _
      refine own_step (fun t k => XS.sipush X.here hx rfl (hb hby own_d3_93) k) ?_
      show own_Run p e below T (mkF m 96 #[.val (.int p0)] [(.int (8192 : Int32)), (.int p0)]) _
      by_cases hc40 : p0 < (8192 : Int32)
      · refine own_vi (if_pos hc40) ?_
        refine own_step (fun t k => XS.icmpYes X.here hx rfl (pc0 := 96) (pc' := 108) rfl (hb hby own_d3_96) rfl (tlt hc40).1 (by decide) (by decide) k) ?_
        show own_Run p e below T (mkF m 108 #[.val (.int p0)] []) _
        exact B108 T _  X eT N
      · refine own_vi (if_neg hc40) ?_
        refine own_step (fun t k => XS.icmpNo X.here hx rfl (hb hby own_d3_96) rfl (flt hc40).1 k) ?_
        show own_Run p e below T (mkF m 99 #[.val (.int p0)] []) _
        refine own_step (fun t k => XS.iloadN X.here hx rfl (hb hby own_d3_99) rfl  k) ?_
        show own_Run p e below T (mkF m 100 #[.val (.int p0)] [(.int p0)]) _
        refine own_step (fun t k => XS.sipush X.here hx rfl (hb hby own_d3_100) k) ?_
        show own_Run p e below T (mkF m 103 #[.val (.int p0)] [(.int (8203 : Int32)), (.int p0)]) _
        by_cases hc41 : (8203 : Int32) < p0
        · refine own_vi (if_pos hc41) ?_
          refine own_step (fun t k => XS.icmpYes X.here hx rfl (pc0 := 103) (pc' := 108) rfl (hb hby own_d3_103) rfl (tlt hc41).2.2.1 (by decide) (by decide) k) ?_
          show own_Run p e below T (mkF m 108 #[.val (.int p0)] []) _
          exact B108 T _  X eT N
        · refine own_vi (if_neg hc41) ?_
          refine own_step (fun t k => XS.icmpNo X.here hx rfl (hb hby own_d3_103) rfl (flt hc41).2.2.1 k) ?_
          show own_Run p e below T (mkF m 106 #[.val (.int p0)] []) _
          refine own_step (fun t k => XS.iconst X.here hx rfl (hb hby own_d3_106) k) ?_
          show own_Run p e below T (mkF m 107 #[.val (.int p0)] [(.int (0 : Int32))]) _
          exact own_retZ X hx hlk hret (hb hby own_d3_107) (by decide) (by decide) N eT
  have B51 : ∀ (T : State) (L : List Loc) , Stand p l e ({ frames := 0, cells := 0, slots := 0, locals := 0 } : Room) s m #[(.int p0)] below meth c T L 0 0 → T.heap = h0 → Fr n0 L → own_Run p e below T (mkF m 51 #[.val (.int p0)] []) (own_Ret FrameEnd s below ({ frames := 0, cells := 0, slots := 0, locals := 0 } : Room).cells ({ frames := 0, cells := 0, slots := 0, locals := 0 } : Room).slots (own_Q n0 (fun h => h = h0) (some (.int (own_r3_51 p0))))) := by
    intro T L  X eT N
    show own_Run p e below T (mkF m 51 #[.val (.int p0)] []) _
    refine own_step (fun t k => XS.iloadN X.here hx rfl (hb hby own_d3_51) rfl  k) ?_
    show own_Run p e below T (mkF m 52 #[.val (.int p0)] [(.int p0)]) _
    refine own_step (fun t k => XS.sipush X.here hx rfl (hb hby own_d3_52) k) ?_
    show own_Run p e below T (mkF m 55 #[.val (.int p0)] [(.int (215 : Int32)), (.int p0)]) _
    by_cases hc42 : p0 = (215 : Int32)
    · refine own_vi (if_pos hc42) ?_
      refine own_step (fun t k => XS.icmpYes X.here hx rfl (pc0 := 55) (pc' := 65) rfl (hb hby own_d3_55) rfl (teq hc42).1 (by decide) (by decide) k) ?_
      show own_Run p e below T (mkF m 65 #[.val (.int p0)] []) _
      refine own_step (fun t k => XS.iconst X.here hx rfl (hb hby own_d3_65) k) ?_
      show own_Run p e below T (mkF m 66 #[.val (.int p0)] [(.int (0 : Int32))]) _
      exact own_retZ X hx hlk hret (hb hby own_d3_66) (by decide) (by decide) N eT
    · refine own_vi (if_neg hc42) ?_
      refine own_step (fun t k => XS.icmpNo X.here hx rfl (hb hby own_d3_55) rfl (feq hc42).1 k) ?_
      show own_Run p e below T (mkF m 58 #[.val (.int p0)] []) _
      refine own_step (fun t k => XS.iloadN X.here hx rfl (hb hby own_d3_58) rfl  k) ?_
      show own_Run p e below T (mkF m 59 #[.val (.int p0)] [(.int p0)]) _
      refine own_step (fun t k => XS.sipush X.here hx rfl (hb hby own_d3_59) k) ?_
      show own_Run p e below T (mkF m 62 #[.val (.int p0)] [(.int (247 : Int32)), (.int p0)]) _
      by_cases hc43 : p0 = (247 : Int32)
      · refine own_vi (if_pos hc43) ?_
        refine own_step (fun t k => XS.icmpNo X.here hx rfl (hb hby own_d3_62) rfl (teq hc43).2 k) ?_
        show own_Run p e below T (mkF m 65 #[.val (.int p0)] []) _
        refine own_step (fun t k => XS.iconst X.here hx rfl (hb hby own_d3_65) k) ?_
        show own_Run p e below T (mkF m 66 #[.val (.int p0)] [(.int (0 : Int32))]) _
        exact own_retZ X hx hlk hret (hb hby own_d3_66) (by decide) (by decide) N eT
      · refine own_vi (if_neg hc43) ?_
        refine own_step (fun t k => XS.icmpYes X.here hx rfl (pc0 := 62) (pc' := 67) rfl (hb hby own_d3_62) rfl (feq hc43).2 (by decide) (by decide) k) ?_
        show own_Run p e below T (mkF m 67 #[.val (.int p0)] []) _
        refine own_step (fun t k => XS.iloadN X.here hx rfl (hb hby own_d3_67) rfl  k) ?_
        show own_Run p e below T (mkF m 68 #[.val (.int p0)] [(.int p0)]) _
        refine own_step (fun t k => XS.sipush X.here hx rfl (hb hby own_d3_68) k) ?_
        show own_Run p e below T (mkF m 71 #[.val (.int p0)] [(.int (768 : Int32)), (.int p0)]) _
        by_cases hc44 : p0 < (768 : Int32)
        · refine own_vi (if_pos hc44) ?_
          refine own_step (fun t k => XS.icmpYes X.here hx rfl (pc0 := 71) (pc' := 83) rfl (hb hby own_d3_71) rfl (tlt hc44).1 (by decide) (by decide) k) ?_
          show own_Run p e below T (mkF m 83 #[.val (.int p0)] []) _
          exact B83 T _  X eT N
        · refine own_vi (if_neg hc44) ?_
          refine own_step (fun t k => XS.icmpNo X.here hx rfl (hb hby own_d3_71) rfl (flt hc44).1 k) ?_
          show own_Run p e below T (mkF m 74 #[.val (.int p0)] []) _
          refine own_step (fun t k => XS.iloadN X.here hx rfl (hb hby own_d3_74) rfl  k) ?_
          show own_Run p e below T (mkF m 75 #[.val (.int p0)] [(.int p0)]) _
          refine own_step (fun t k => XS.sipush X.here hx rfl (hb hby own_d3_75) k) ?_
          show own_Run p e below T (mkF m 78 #[.val (.int p0)] [(.int (879 : Int32)), (.int p0)]) _
          by_cases hc45 : (879 : Int32) < p0
          · refine own_vi (if_pos hc45) ?_
            refine own_step (fun t k => XS.icmpYes X.here hx rfl (pc0 := 78) (pc' := 83) rfl (hb hby own_d3_78) rfl (tlt hc45).2.2.1 (by decide) (by decide) k) ?_
            show own_Run p e below T (mkF m 83 #[.val (.int p0)] []) _
            exact B83 T _  X eT N
          · refine own_vi (if_neg hc45) ?_
            refine own_step (fun t k => XS.icmpNo X.here hx rfl (hb hby own_d3_78) rfl (flt hc45).2.2.1 k) ?_
            show own_Run p e below T (mkF m 81 #[.val (.int p0)] []) _
            refine own_step (fun t k => XS.iconst X.here hx rfl (hb hby own_d3_81) k) ?_
            show own_Run p e below T (mkF m 82 #[.val (.int p0)] [(.int (0 : Int32))]) _
            exact own_retZ X hx hlk hret (hb hby own_d3_82) (by decide) (by decide) N eT
  have B28 : ∀ (T : State) (L : List Loc) , Stand p l e ({ frames := 0, cells := 0, slots := 0, locals := 0 } : Room) s m #[(.int p0)] below meth c T L 0 0 → T.heap = h0 → Fr n0 L → own_Run p e below T (mkF m 28 #[.val (.int p0)] []) (own_Ret FrameEnd s below ({ frames := 0, cells := 0, slots := 0, locals := 0 } : Room).cells ({ frames := 0, cells := 0, slots := 0, locals := 0 } : Room).slots (own_Q n0 (fun h => h = h0) (some (.int (own_r3_28 p0))))) := by
    intro T L  X eT N
    show own_Run p e below T (mkF m 28 #[.val (.int p0)] []) _
    refine own_step (fun t k => XS.iloadN X.here hx rfl (hb hby own_d3_28) rfl  k) ?_
    show own_Run p e below T (mkF m 29 #[.val (.int p0)] [(.int p0)]) _
    refine own_step (fun t k => XS.bipush X.here hx rfl (hb hby own_d3_29) k) ?_
    show own_Run p e below T (mkF m 31 #[.val (.int p0)] [(.int (96 : Int32)), (.int p0)]) _
    by_cases hc46 : p0 = (96 : Int32)
    · refine own_vi (if_pos hc46) ?_
      refine own_step (fun t k => XS.icmpNo X.here hx rfl (hb hby own_d3_31) rfl (teq hc46).2 k) ?_
      show own_Run p e below T (mkF m 34 #[.val (.int p0)] []) _
      refine own_step (fun t k => XS.iconst X.here hx rfl (hb hby own_d3_34) k) ?_
      show own_Run p e below T (mkF m 35 #[.val (.int p0)] [(.int (0 : Int32))]) _
      exact own_retZ X hx hlk hret (hb hby own_d3_35) (by decide) (by decide) N eT
    · refine own_vi (if_neg hc46) ?_
      refine own_step (fun t k => XS.icmpYes X.here hx rfl (pc0 := 31) (pc' := 36) rfl (hb hby own_d3_31) rfl (feq hc46).2 (by decide) (by decide) k) ?_
      show own_Run p e below T (mkF m 36 #[.val (.int p0)] []) _
      refine own_step (fun t k => XS.iloadN X.here hx rfl (hb hby own_d3_36) rfl  k) ?_
      show own_Run p e below T (mkF m 37 #[.val (.int p0)] [(.int p0)]) _
      refine own_step (fun t k => XS.bipush X.here hx rfl (hb hby own_d3_37) k) ?_
      show own_Run p e below T (mkF m 39 #[.val (.int p0)] [(.int (123 : Int32)), (.int p0)]) _
      by_cases hc47 : p0 < (123 : Int32)
      · refine own_vi (if_pos hc47) ?_
        refine own_step (fun t k => XS.icmpYes X.here hx rfl (pc0 := 39) (pc' := 51) rfl (hb hby own_d3_39) rfl (tlt hc47).1 (by decide) (by decide) k) ?_
        show own_Run p e below T (mkF m 51 #[.val (.int p0)] []) _
        exact B51 T _  X eT N
      · refine own_vi (if_neg hc47) ?_
        refine own_step (fun t k => XS.icmpNo X.here hx rfl (hb hby own_d3_39) rfl (flt hc47).1 k) ?_
        show own_Run p e below T (mkF m 42 #[.val (.int p0)] []) _
        refine own_step (fun t k => XS.iloadN X.here hx rfl (hb hby own_d3_42) rfl  k) ?_
        show own_Run p e below T (mkF m 43 #[.val (.int p0)] [(.int p0)]) _
        refine own_step (fun t k => XS.sipush X.here hx rfl (hb hby own_d3_43) k) ?_
        show own_Run p e below T (mkF m 46 #[.val (.int p0)] [(.int (191 : Int32)), (.int p0)]) _
        by_cases hc48 : (191 : Int32) < p0
        · refine own_vi (if_pos hc48) ?_
          refine own_step (fun t k => XS.icmpYes X.here hx rfl (pc0 := 46) (pc' := 51) rfl (hb hby own_d3_46) rfl (tlt hc48).2.2.1 (by decide) (by decide) k) ?_
          show own_Run p e below T (mkF m 51 #[.val (.int p0)] []) _
          exact B51 T _  X eT N
        · refine own_vi (if_neg hc48) ?_
          refine own_step (fun t k => XS.icmpNo X.here hx rfl (hb hby own_d3_46) rfl (flt hc48).2.2.1 k) ?_
          show own_Run p e below T (mkF m 49 #[.val (.int p0)] []) _
          refine own_step (fun t k => XS.iconst X.here hx rfl (hb hby own_d3_49) k) ?_
          show own_Run p e below T (mkF m 50 #[.val (.int p0)] [(.int (0 : Int32))]) _
          exact own_retZ X hx hlk hret (hb hby own_d3_50) (by decide) (by decide) N eT
  refine own_fin ?_
  refine own_entry (own_ef3 m p0) ?_
  show own_Run p e below s₁ _ (own_Ret _ s below _ _ (own_Q n0 _ (some (.int (if p0 < (65 : Int32) then (0 : Int32) else (if (983039 : Int32) < p0 then (0 : Int32) else (if p0 < (91 : Int32) then (own_r3_28 p0) else (if (94 : Int32) < p0 then (own_r3_28 p0) else (0 : Int32)))))))))
  show own_Run p e below s₁ (mkF m 0 #[.val (.int p0)] []) _
  refine own_step (fun t k => XS.iloadN X0.here hx rfl (hb hby own_d3_0) rfl  k) ?_
  show own_Run p e below s₁ (mkF m 1 #[.val (.int p0)] [(.int p0)]) _
  refine own_step (fun t k => XS.bipush X0.here hx rfl (hb hby own_d3_1) k) ?_
  show own_Run p e below s₁ (mkF m 3 #[.val (.int p0)] [(.int (65 : Int32)), (.int p0)]) _
  by_cases hc49 : p0 < (65 : Int32)
  · refine own_vi (if_pos hc49) ?_
    refine own_step (fun t k => XS.icmpYes X0.here hx rfl (pc0 := 3) (pc' := 12) rfl (hb hby own_d3_3) rfl (tlt hc49).1 (by decide) (by decide) k) ?_
    show own_Run p e below s₁ (mkF m 12 #[.val (.int p0)] []) _
    refine own_step (fun t k => XS.iconst X0.here hx rfl (hb hby own_d3_12) k) ?_
    show own_Run p e below s₁ (mkF m 13 #[.val (.int p0)] [(.int (0 : Int32))]) _
    exact own_retZ X0 hx hlk hret (hb hby own_d3_13) (by decide) (by decide) N0 e0
  · refine own_vi (if_neg hc49) ?_
    refine own_step (fun t k => XS.icmpNo X0.here hx rfl (hb hby own_d3_3) rfl (flt hc49).1 k) ?_
    show own_Run p e below s₁ (mkF m 6 #[.val (.int p0)] []) _
    refine own_step (fun t k => XS.iloadN X0.here hx rfl (hb hby own_d3_6) rfl  k) ?_
    show own_Run p e below s₁ (mkF m 7 #[.val (.int p0)] [(.int p0)]) _
    refine own_step (fun t k => X0.ldcInt hx hown (mvT hZ (hw _ (List.mem_of_getElem? (i := 7) rfl))) (g := (mkF m 7 #[.val (.int p0)] [(.int p0)])) rfl (hb hby own_d3_7) t k) ?_
    show own_Run p e below s₁ (mkF m 9 #[.val (.int p0)] [(.int (983039 : Int32)), (.int p0)]) _
    by_cases hc50 : (983039 : Int32) < p0
    · refine own_vi (if_pos hc50) ?_
      refine own_step (fun t k => XS.icmpNo X0.here hx rfl (hb hby own_d3_9) rfl (tlt hc50).2.2.2 k) ?_
      show own_Run p e below s₁ (mkF m 12 #[.val (.int p0)] []) _
      refine own_step (fun t k => XS.iconst X0.here hx rfl (hb hby own_d3_12) k) ?_
      show own_Run p e below s₁ (mkF m 13 #[.val (.int p0)] [(.int (0 : Int32))]) _
      exact own_retZ X0 hx hlk hret (hb hby own_d3_13) (by decide) (by decide) N0 e0
    · refine own_vi (if_neg hc50) ?_
      refine own_step (fun t k => XS.icmpYes X0.here hx rfl (pc0 := 9) (pc' := 14) rfl (hb hby own_d3_9) rfl (flt hc50).2.2.2 (by decide) (by decide) k) ?_
      show own_Run p e below s₁ (mkF m 14 #[.val (.int p0)] []) _
      refine own_step (fun t k => XS.iloadN X0.here hx rfl (hb hby own_d3_14) rfl  k) ?_
      show own_Run p e below s₁ (mkF m 15 #[.val (.int p0)] [(.int p0)]) _
      refine own_step (fun t k => XS.bipush X0.here hx rfl (hb hby own_d3_15) k) ?_
      show own_Run p e below s₁ (mkF m 17 #[.val (.int p0)] [(.int (91 : Int32)), (.int p0)]) _
      by_cases hc51 : p0 < (91 : Int32)
      · refine own_vi (if_pos hc51) ?_
        refine own_step (fun t k => XS.icmpYes X0.here hx rfl (pc0 := 17) (pc' := 28) rfl (hb hby own_d3_17) rfl (tlt hc51).1 (by decide) (by decide) k) ?_
        show own_Run p e below s₁ (mkF m 28 #[.val (.int p0)] []) _
        exact B28 s₁ _  X0 e0 N0
      · refine own_vi (if_neg hc51) ?_
        refine own_step (fun t k => XS.icmpNo X0.here hx rfl (hb hby own_d3_17) rfl (flt hc51).1 k) ?_
        show own_Run p e below s₁ (mkF m 20 #[.val (.int p0)] []) _
        refine own_step (fun t k => XS.iloadN X0.here hx rfl (hb hby own_d3_20) rfl  k) ?_
        show own_Run p e below s₁ (mkF m 21 #[.val (.int p0)] [(.int p0)]) _
        refine own_step (fun t k => XS.bipush X0.here hx rfl (hb hby own_d3_21) k) ?_
        show own_Run p e below s₁ (mkF m 23 #[.val (.int p0)] [(.int (94 : Int32)), (.int p0)]) _
        by_cases hc52 : (94 : Int32) < p0
        · refine own_vi (if_pos hc52) ?_
          refine own_step (fun t k => XS.icmpYes X0.here hx rfl (pc0 := 23) (pc' := 28) rfl (hb hby own_d3_23) rfl (tlt hc52).2.2.1 (by decide) (by decide) k) ?_
          show own_Run p e below s₁ (mkF m 28 #[.val (.int p0)] []) _
          exact B28 s₁ _  X0 e0 N0
        · refine own_vi (if_neg hc52) ?_
          refine own_step (fun t k => XS.icmpNo X0.here hx rfl (hb hby own_d3_23) rfl (flt hc52).2.2.1 k) ?_
          show own_Run p e below s₁ (mkF m 26 #[.val (.int p0)] []) _
          refine own_step (fun t k => XS.iconst X0.here hx rfl (hb hby own_d3_26) k) ?_
          show own_Run p e below s₁ (mkF m 27 #[.val (.int p0)] [(.int (0 : Int32))]) _
          exact own_retZ X0 hx hlk hret (hb hby own_d3_27) (by decide) (by decide) N0 e0
theorem own_pd199 : parseMethodDescriptor "(I)Z" = some ⟨[.int], some .boolean⟩ := by decide +kernel
theorem own_d1_0 : decode method_3_code 0 = .ok (.iload_n 0, 1) := by decide +kernel
theorem own_d1_1 : decode method_3_code 1 = .ok (.invokestatic 14, 3) := by decide +kernel
theorem own_d1_4 : decode method_3_code 4 = .ok (.iload_n 0, 1) := by decide +kernel
theorem own_d1_5 : decode method_3_code 5 = .ok (.invokestatic 20, 3) := by decide +kernel
theorem own_d1_8 : decode method_3_code 8 = .ok (.if_icmp .ne 7, 3) := by decide +kernel
theorem own_d1_11 : decode method_3_code 11 = .ok (.iconst 1, 1) := by decide +kernel
theorem own_d1_12 : decode method_3_code 12 = .ok (.goto 4, 3) := by decide +kernel
theorem own_d1_15 : decode method_3_code 15 = .ok (.iconst 0, 1) := by decide +kernel
theorem own_d1_16 : decode method_3_code 16 = .ok (.ireturn, 1) := by decide +kernel
def own_f1_j16_S0 (p0 : Int32) : Int32 := (if (own_r2 p0) = (own_r3 p0) then (1 : Int32) else (0 : Int32))
def own_r1 (p0 : Int32) : Int32 := (nar .boolean (own_f1_j16_S0 p0))
theorem own_ef1 (m : MethodId) (p0 : Int32) : entryFrame m #[(.int p0)] 1 = (mkF m 0 #[.val (.int p0)] []) := by first | (simp [entryFrame, mkF, argsToLocals, Value.category]; done) | rfl
set_option maxRecDepth 65536 in
set_option maxHeartbeats 40000000 in
theorem rm1 (l : Launch) (Z : State) (av0 : Array Value) (hw : ∀ d ∈ tables_1, d.before av0 Z = true) (ws : List Jvm.Cond) (p0 : Int32) (h0 : Heap) (n0 : Nat) (Z0 : n0 ≤ h0.size) :
    MetFree l (⟨"com/example/emscher/emscher/model/XmlNamesIsNameStartPinLaw", "agrees", "(I)Z"⟩ : MethodName) (head1 (Jvm.Cond.code (⟨"com/example/emscher/emscher/model/XmlNamesIsNameStartPinLaw", "agrees", "(I)Z"⟩ : MethodName) method_3_code 1 (some .boolean) :: ws) ({ frames := 1, cells := 0, slots := 0, locals := 13 } : Room)) (fun a U => a = #[(.int p0)] ∧ Z.Warmed39 U.vm ∧ U.heap = h0) (fun _ _ _ _ _ => True) (fun _ U o U' => ∃ v L, o = .returned v ∧ own_Q n0 (fun h => h = h0) (some (.int (own_r1 p0))) v U'.heap L ∧ FrameEnd U o U' L ({ frames := 1, cells := 0, slots := 0, locals := 13 } : Room).cells ({ frames := 1, cells := 0, slots := 0, locals := 13 } : Room).slots) := by
  refine MetFree.of_bodySF (plainFor_of_name own_pn1) hisR ?_
  intro p e s m args below meth c s₁ Bd hml0 hP hK
  obtain ⟨rfl, hZ, hh⟩ := hP
  have hx := Bd.exec
  have hby := Bd.bytes
  have hml : c.maxLocals = 1 := hml0
  have hown : s.vm.findClass "com/example/emscher/emscher/model/XmlNamesIsNameStartPinLaw" = some m.cls := findClass_of_methodNamed Bd.named
  have hnm := (name_of_methodNamed Bd.named Bd.method).1
  have hret := Bd.returns
  have hlk : meth.locks = false := BodyLoose.notSynchronized Bd
  have X0 : Stand p l e ({ frames := 1, cells := 0, slots := 0, locals := 13 } : Room) s m #[(.int p0)] below meth c s₁ [] 0 0 := Stand.of_body Bd
  have e0 : s₁.heap = h0 := by rw [← hh, Bd.state]; rfl
  have N0 := Fr.nil n0
  clear Bd hh hK
  refine own_fin ?_
  refine own_entry (own_ef1 m p0) ?_
  show own_Run p e below s₁ _ (own_Ret _ s below _ _ (own_Q n0 _ (some (.int (nar .boolean (own_f1_j16_S0 p0))))))
  show own_Run p e below s₁ (mkF m 0 #[.val (.int p0)] []) _
  refine own_step (fun t k => XS.iloadN X0.here hx rfl (hb hby own_d1_0) rfl  k) ?_
  show own_Run p e below s₁ (mkF m 1 #[.val (.int p0)] [(.int p0)]) _
  obtain ⟨_, _, ⟨T5, L5, kq5, nq5⟩, -, X5, ⟨Lc5, hQ5, lq5, yq5, zq5⟩, st5⟩ := Jvm.LawKit.callS X0 hx (y := (⟨"com/example/emscher/emscher/model/XmlNames", "isNameStart", "(I)Z"⟩ : MethodName)) hown (mvT hZ (hw _ (List.mem_of_getElem? (i := 15) rfl))) (mvT hZ (hw _ (List.mem_of_getElem? (i := 16) rfl))) (mvT hZ (hw _ (List.mem_of_getElem? (i := 17) rfl))) (mvT hZ (hw _ (List.mem_of_getElem? (i := 18) rfl))) (by decide) (backOf (W := 0) (rm2 l Z av0 hw [] p0 h0 n0 Z0 ) hZ (hw _ (List.mem_of_getElem? (i := 18) rfl)) (hw _ (List.mem_of_getElem? (i := 17) rfl)) (by decide) (by decide)) (g := (mkF m 1 #[.val (.int p0)] [(.int p0)])) rfl (by rw [hml]; rfl) (argsL := [(.int p0)]) (rest := []) (lenOf own_pd199 rfl) rfl (by show 2 * 0 + _ ≤ _; exact Nat.le_of_eq rfl) (hb hby own_d1_1) (fun _ _ => ⟨rfl, e0, (by decide : 0 + 0 ≤ _), (by decide : 0 + 0 ≤ _)⟩)
  dsimp only [Pt.U, Pt.locs, Pt.cells, Pt.slots] at X5 lq5 yq5 zq5 st5 hQ5
  subst lq5 yq5 zq5
  obtain ⟨rfl, N5q, e5⟩ := hQ5
  have N5 := Fr.app N0 N5q
  refine own_step st5 ?_
  show own_Run p e below T5 (mkF m 4 #[.val (.int p0)] [(.int (own_r2 p0))]) _
  refine own_step (fun t k => XS.iloadN X5.here hx rfl (hb hby own_d1_4) rfl  k) ?_
  show own_Run p e below T5 (mkF m 5 #[.val (.int p0)] [(.int p0), (.int (own_r2 p0))]) _
  obtain ⟨_, _, ⟨T6, L6, kq6, nq6⟩, -, X6, ⟨Lc6, hQ6, lq6, yq6, zq6⟩, st6⟩ := Jvm.LawKit.callS X5 hx (y := (⟨"com/example/emscher/emscher/model/XmlNamesIsNameStartPinLaw", "ref", "(I)Z"⟩ : MethodName)) hown (mvT hZ (hw _ (List.mem_of_getElem? (i := 22) rfl))) (mvT hZ (hw _ (List.mem_of_getElem? (i := 23) rfl))) (mvT hZ (hw _ (List.mem_of_getElem? (i := 13) rfl))) (mvT hZ (hw _ (List.mem_of_getElem? (i := 24) rfl))) (by decide) (backOf (W := 1) (rm3 l Z av0 hw [] p0 h0 n0 Z0 ) hZ (hw _ (List.mem_of_getElem? (i := 24) rfl)) (hw _ (List.mem_of_getElem? (i := 13) rfl)) (by decide) (by decide)) (g := (mkF m 5 #[.val (.int p0)] [(.int p0), (.int (own_r2 p0))])) rfl (by rw [hml]; rfl) (argsL := [(.int p0)]) (rest := [(.int (own_r2 p0))]) (lenOf own_pd199 rfl) rfl (by show 2 * 0 + _ ≤ _; exact Nat.le_of_eq rfl) (hb hby own_d1_5) (fun _ _ => ⟨rfl, e5, (by decide : 0 + 0 ≤ _), (by decide : 0 + 0 ≤ _)⟩)
  dsimp only [Pt.U, Pt.locs, Pt.cells, Pt.slots] at X6 lq6 yq6 zq6 st6 hQ6
  subst lq6 yq6 zq6
  obtain ⟨rfl, N6q, e6⟩ := hQ6
  have N6 := Fr.app N5 N6q
  refine own_step st6 ?_
  show own_Run p e below T6 (mkF m 8 #[.val (.int p0)] [(.int (own_r3 p0)), (.int (own_r2 p0))]) _
  obtain ⟨_, st7, rfl⟩ : own_Run p e below T6 (mkF m 8 #[.val (.int p0)] [(.int (own_r3 p0)), (.int (own_r2 p0))]) (fun t => t = T6.setTop (mkF m 16 #[.val (.int p0)] [(.int (own_f1_j16_S0 p0))])) := by
    by_cases hc8 : (own_r2 p0) = (own_r3 p0)
    · refine own_step (fun t k => XS.icmpNo X6.here hx rfl (hb hby own_d1_8) rfl (teq hc8).2 k) ?_
      show own_Run p e below T6 (mkF m 11 #[.val (.int p0)] []) _
      refine own_step (fun t k => XS.iconst X6.here hx rfl (hb hby own_d1_11) k) ?_
      show own_Run p e below T6 (mkF m 12 #[.val (.int p0)] [(.int (1 : Int32))]) _
      refine own_step (fun t k => XS.goto X6.here hx rfl (pc0 := 12) (pc' := 16) rfl (hb hby own_d1_12) (by decide) (by decide) k) ?_
      show own_Run p e below T6 (mkF m 16 #[.val (.int p0)] [(.int (1 : Int32))]) _
      have hj0 : (own_f1_j16_S0 p0) = (1 : Int32) := (if_pos hc8)
      exact own_here (by rw [hj0])
    · refine own_step (fun t k => XS.icmpYes X6.here hx rfl (pc0 := 8) (pc' := 15) rfl (hb hby own_d1_8) rfl (feq hc8).2 (by decide) (by decide) k) ?_
      show own_Run p e below T6 (mkF m 15 #[.val (.int p0)] []) _
      refine own_step (fun t k => XS.iconst X6.here hx rfl (hb hby own_d1_15) k) ?_
      show own_Run p e below T6 (mkF m 16 #[.val (.int p0)] [(.int (0 : Int32))]) _
      have hj0 : (own_f1_j16_S0 p0) = (0 : Int32) := (if_neg hc8)
      exact own_here (by rw [hj0])
  refine own_tr st7 ?_
  show own_Run p e below T6 (mkF m 16 #[.val (.int p0)] [(.int (own_f1_j16_S0 p0))]) _
  exact own_retZ X6 hx hlk hret (hb hby own_d1_16) (by decide) (by decide) N6 e6
def own_f0_231 (p1 : Int32) (p2 : Int32) : Int32 := ((own_bounds.getD ((own_rem (p1 &&& (2147483647 : Int32)) (33 : Int32))).toNatClampNeg 0) + ((own_rem (p2 &&& (2147483647 : Int32)) (3 : Int32)) - (1 : Int32)))
def own_f0_j284_S0 (p0 : Int32) (p1 : Int32) (p2 : Int32) : Int32 := (if (own_r1 p0) = (0 : Int32) then (0 : Int32) else (if (own_r1 (own_f0_231 p1 p2)) = (0 : Int32) then (0 : Int32) else (if (own_r1 (p0 &&& (1048575 : Int32))) = (0 : Int32) then (0 : Int32) else (if (own_r1 (p0 &&& (65535 : Int32))) = (0 : Int32) then (0 : Int32) else (if (own_r1 (p0 &&& (255 : Int32))) = (0 : Int32) then (0 : Int32) else (1 : Int32))))))
def own_r0 (p0 : Int32) (p1 : Int32) (p2 : Int32) : Int32 := (nar .boolean (own_f0_j284_S0 p0 p1 p2))
theorem own_ef0 (m : MethodId) (p0 : Int32) (p1 : Int32) (p2 : Int32) : entryFrame m #[(.int p0), (.int p1), (.int p2)] maxLocals = (mkF m 0 #[.val (.int p0), .val (.int p1), .val (.int p2), .unset, .unset] []) := by first | (simp [entryFrame, mkF, argsToLocals, Value.category, maxLocals]; done) | rfl
set_option maxRecDepth 65536 in
set_option maxHeartbeats 40000000 in
theorem rm0 (l : Launch) (Z : State) (av0 : Array Value) (hw : ∀ d ∈ tables_1, d.before av0 Z = true) (ws : List Jvm.Cond) (p0 : Int32) (p1 : Int32) (p2 : Int32) (h0 : Heap) (n0 : Nat) (Z0 : n0 ≤ h0.size) :
    MetFree l x (head1 (Jvm.Cond.code x code maxLocals ret :: ws) room_1) (fun a U => a = #[(.int p0), (.int p1), (.int p2)] ∧ Z.Warmed39 U.vm ∧ U.heap = h0) (fun _ _ _ _ _ => True) (fun _ U o U' => ∃ v L, o = .returned v ∧ own_Q n0 (fun _ => True) (some (.int (own_r0 p0 p1 p2))) v U'.heap L ∧ FrameEnd U o U' L room_1.cells room_1.slots) := by
  refine MetFree.of_bodySF (plainFor_of_name own_pn1) hisR ?_
  intro p e s m args below meth c s₁ Bd hml0 hP hK
  obtain ⟨rfl, hZ, hh⟩ := hP
  have hx := Bd.exec
  have hby := Bd.bytes
  have hml : c.maxLocals = 5 := hml0
  have hown : s.vm.findClass "com/example/emscher/emscher/model/XmlNamesIsNameStartPinLaw" = some m.cls := findClass_of_methodNamed Bd.named
  have hnm := (name_of_methodNamed Bd.named Bd.method).1
  have hret := Bd.returns
  have hlk : meth.locks = false := BodyLoose.notSynchronized Bd
  have X0 : Stand p l e room_1 s m #[(.int p0), (.int p1), (.int p2)] below meth c s₁ [] 0 0 := Stand.of_body Bd
  have e0 : s₁.heap = h0 := by rw [← hh, Bd.state]; rfl
  have N0 := Fr.nil n0
  clear Bd hh hK
  refine own_fin ?_
  refine own_entry (own_ef0 m p0 p1 p2) ?_
  show own_Run p e below s₁ _ (own_Ret _ s below _ _ (own_Q n0 _ (some (.int (nar .boolean (own_f0_j284_S0 p0 p1 p2))))))
  show own_Run p e below s₁ (mkF m 0 #[.val (.int p0), .val (.int p1), .val (.int p2), .unset, .unset] []) _
  refine own_step (fun t k => XS.bipush X0.here hx rfl (hb hby at_0) k) ?_
  show own_Run p e below s₁ (mkF m 2 #[.val (.int p0), .val (.int p1), .val (.int p2), .unset, .unset] [(.int (33 : Int32))]) _
  obtain ⟨T46, h46, k46, X46, e46, E46, A46, st46⟩ := newP X0 hx hZ (hw _ (List.mem_of_getElem? (i := 0) rfl)) e0 (g := (mkF m 2 #[.val (.int p0), .val (.int p1), .val (.int p2), .unset, .unset] [(.int (33 : Int32))])) rfl (hb hby at_2) rfl (by decide) (cap := 33) (by decide) (by decide) (by decide) (by decide)
  obtain ⟨b46, g46⟩ : ∃ z, z = h0.size := ⟨_, rfl⟩
  rw [← g46] at A46 st46
  have geb46 : n0 ≤ b46 := Nat.le_trans Z0 (Nat.le_of_eq g46.symm)
  have Zn46 : n0 ≤ h46.size := Nat.le_trans Z0 E46.1
  have V46 : Arv Z h46 b46 k46 .int (33 : Int32) [(.int (0 : Int32)), (.int (0 : Int32)), (.int (0 : Int32)), (.int (0 : Int32)), (.int (0 : Int32)), (.int (0 : Int32)), (.int (0 : Int32)), (.int (0 : Int32)), (.int (0 : Int32)), (.int (0 : Int32)), (.int (0 : Int32)), (.int (0 : Int32)), (.int (0 : Int32)), (.int (0 : Int32)), (.int (0 : Int32)), (.int (0 : Int32)), (.int (0 : Int32)), (.int (0 : Int32)), (.int (0 : Int32)), (.int (0 : Int32)), (.int (0 : Int32)), (.int (0 : Int32)), (.int (0 : Int32)), (.int (0 : Int32)), (.int (0 : Int32)), (.int (0 : Int32)), (.int (0 : Int32)), (.int (0 : Int32)), (.int (0 : Int32)), (.int (0 : Int32)), (.int (0 : Int32)), (.int (0 : Int32)), (.int (0 : Int32))] (.int (0 : Int32)) := (Arv.new A46 (by decide)).pad (pad_rep [] (.int (0 : Int32)) 33)
  refine own_step st46 ?_
  show own_Run p e below T46 (mkF m 4 #[.val (.int p0), .val (.int p1), .val (.int p2), .unset, .unset] [(.ref b46)]) _
  refine own_step (fun t k => XS.dup X46.here hx rfl (hb hby at_4) rfl rfl k) ?_
  show own_Run p e below T46 (mkF m 5 #[.val (.int p0), .val (.int p1), .val (.int p2), .unset, .unset] [(.ref b46), (.ref b46)]) _
  refine own_step (fun t k => XS.iconst X46.here hx rfl (hb hby at_5) k) ?_
  show own_Run p e below T46 (mkF m 6 #[.val (.int p0), .val (.int p1), .val (.int p2), .unset, .unset] [(.int (0 : Int32)), (.ref b46), (.ref b46)]) _
  refine own_step (fun t k => XS.bipush X46.here hx rfl (hb hby at_6) k) ?_
  show own_Run p e below T46 (mkF m 8 #[.val (.int p0), .val (.int p1), .val (.int p2), .unset, .unset] [(.int (65 : Int32)), (.int (0 : Int32)), (.ref b46), (.ref b46)]) _
  obtain ⟨T47, h47, L47, X47, e47, N47, W47, V47, st47⟩ := own_stI X46 hx hZ e46 V46 N0 geb46 (j := (0 : Int32)) ⟨by decide, by decide⟩ 0 rfl (Nat.le_of_ble_eq_true rfl) (g := (mkF m 8 #[.val (.int p0), .val (.int p1), .val (.int p2), .unset, .unset] [(.int (65 : Int32)), (.int (0 : Int32)), (.ref b46), (.ref b46)])) rfl rfl (hb hby at_8)
  have V47x : Arv Z h47 b46 k46 .int (33 : Int32) [(.int (65 : Int32)), (.int (0 : Int32)), (.int (0 : Int32)), (.int (0 : Int32)), (.int (0 : Int32)), (.int (0 : Int32)), (.int (0 : Int32)), (.int (0 : Int32)), (.int (0 : Int32)), (.int (0 : Int32)), (.int (0 : Int32)), (.int (0 : Int32)), (.int (0 : Int32)), (.int (0 : Int32)), (.int (0 : Int32)), (.int (0 : Int32)), (.int (0 : Int32)), (.int (0 : Int32)), (.int (0 : Int32)), (.int (0 : Int32)), (.int (0 : Int32)), (.int (0 : Int32)), (.int (0 : Int32)), (.int (0 : Int32)), (.int (0 : Int32)), (.int (0 : Int32)), (.int (0 : Int32)), (.int (0 : Int32)), (.int (0 : Int32)), (.int (0 : Int32)), (.int (0 : Int32)), (.int (0 : Int32)), (.int (0 : Int32))] (.int (0 : Int32)) := V47
  have Zn47 : n0 ≤ h47.size := Nat.le_trans Zn46 (Keep.of_wr W47).1
  refine own_step st47 ?_
  show own_Run p e below T47 (mkF m 9 #[.val (.int p0), .val (.int p1), .val (.int p2), .unset, .unset] [(.ref b46)]) _
  refine own_step (fun t k => XS.dup X47.here hx rfl (hb hby at_9) rfl rfl k) ?_
  show own_Run p e below T47 (mkF m 10 #[.val (.int p0), .val (.int p1), .val (.int p2), .unset, .unset] [(.ref b46), (.ref b46)]) _
  refine own_step (fun t k => XS.iconst X47.here hx rfl (hb hby at_10) k) ?_
  show own_Run p e below T47 (mkF m 11 #[.val (.int p0), .val (.int p1), .val (.int p2), .unset, .unset] [(.int (1 : Int32)), (.ref b46), (.ref b46)]) _
  refine own_step (fun t k => XS.bipush X47.here hx rfl (hb hby at_11) k) ?_
  show own_Run p e below T47 (mkF m 13 #[.val (.int p0), .val (.int p1), .val (.int p2), .unset, .unset] [(.int (90 : Int32)), (.int (1 : Int32)), (.ref b46), (.ref b46)]) _
  obtain ⟨T48, h48, L48, X48, e48, N48, W48, V48, st48⟩ := own_stI X47 hx hZ e47 V47x N47 geb46 (j := (1 : Int32)) ⟨by decide, by decide⟩ 1 rfl (Nat.le_of_ble_eq_true rfl) (g := (mkF m 13 #[.val (.int p0), .val (.int p1), .val (.int p2), .unset, .unset] [(.int (90 : Int32)), (.int (1 : Int32)), (.ref b46), (.ref b46)])) rfl rfl (hb hby at_13)
  have V48x : Arv Z h48 b46 k46 .int (33 : Int32) [(.int (65 : Int32)), (.int (90 : Int32)), (.int (0 : Int32)), (.int (0 : Int32)), (.int (0 : Int32)), (.int (0 : Int32)), (.int (0 : Int32)), (.int (0 : Int32)), (.int (0 : Int32)), (.int (0 : Int32)), (.int (0 : Int32)), (.int (0 : Int32)), (.int (0 : Int32)), (.int (0 : Int32)), (.int (0 : Int32)), (.int (0 : Int32)), (.int (0 : Int32)), (.int (0 : Int32)), (.int (0 : Int32)), (.int (0 : Int32)), (.int (0 : Int32)), (.int (0 : Int32)), (.int (0 : Int32)), (.int (0 : Int32)), (.int (0 : Int32)), (.int (0 : Int32)), (.int (0 : Int32)), (.int (0 : Int32)), (.int (0 : Int32)), (.int (0 : Int32)), (.int (0 : Int32)), (.int (0 : Int32)), (.int (0 : Int32))] (.int (0 : Int32)) := V48
  have Zn48 : n0 ≤ h48.size := Nat.le_trans Zn47 (Keep.of_wr W48).1
  refine own_step st48 ?_
  show own_Run p e below T48 (mkF m 14 #[.val (.int p0), .val (.int p1), .val (.int p2), .unset, .unset] [(.ref b46)]) _
  refine own_step (fun t k => XS.dup X48.here hx rfl (hb hby at_14) rfl rfl k) ?_
  show own_Run p e below T48 (mkF m 15 #[.val (.int p0), .val (.int p1), .val (.int p2), .unset, .unset] [(.ref b46), (.ref b46)]) _
  refine own_step (fun t k => XS.iconst X48.here hx rfl (hb hby at_15) k) ?_
  show own_Run p e below T48 (mkF m 16 #[.val (.int p0), .val (.int p1), .val (.int p2), .unset, .unset] [(.int (2 : Int32)), (.ref b46), (.ref b46)]) _
  refine own_step (fun t k => XS.bipush X48.here hx rfl (hb hby at_16) k) ?_
  show own_Run p e below T48 (mkF m 18 #[.val (.int p0), .val (.int p1), .val (.int p2), .unset, .unset] [(.int (95 : Int32)), (.int (2 : Int32)), (.ref b46), (.ref b46)]) _
  obtain ⟨T49, h49, L49, X49, e49, N49, W49, V49, st49⟩ := own_stI X48 hx hZ e48 V48x N48 geb46 (j := (2 : Int32)) ⟨by decide, by decide⟩ 2 rfl (Nat.le_of_ble_eq_true rfl) (g := (mkF m 18 #[.val (.int p0), .val (.int p1), .val (.int p2), .unset, .unset] [(.int (95 : Int32)), (.int (2 : Int32)), (.ref b46), (.ref b46)])) rfl rfl (hb hby at_18)
  have V49x : Arv Z h49 b46 k46 .int (33 : Int32) [(.int (65 : Int32)), (.int (90 : Int32)), (.int (95 : Int32)), (.int (0 : Int32)), (.int (0 : Int32)), (.int (0 : Int32)), (.int (0 : Int32)), (.int (0 : Int32)), (.int (0 : Int32)), (.int (0 : Int32)), (.int (0 : Int32)), (.int (0 : Int32)), (.int (0 : Int32)), (.int (0 : Int32)), (.int (0 : Int32)), (.int (0 : Int32)), (.int (0 : Int32)), (.int (0 : Int32)), (.int (0 : Int32)), (.int (0 : Int32)), (.int (0 : Int32)), (.int (0 : Int32)), (.int (0 : Int32)), (.int (0 : Int32)), (.int (0 : Int32)), (.int (0 : Int32)), (.int (0 : Int32)), (.int (0 : Int32)), (.int (0 : Int32)), (.int (0 : Int32)), (.int (0 : Int32)), (.int (0 : Int32)), (.int (0 : Int32))] (.int (0 : Int32)) := V49
  have Zn49 : n0 ≤ h49.size := Nat.le_trans Zn48 (Keep.of_wr W49).1
  refine own_step st49 ?_
  show own_Run p e below T49 (mkF m 19 #[.val (.int p0), .val (.int p1), .val (.int p2), .unset, .unset] [(.ref b46)]) _
  refine own_step (fun t k => XS.dup X49.here hx rfl (hb hby at_19) rfl rfl k) ?_
  show own_Run p e below T49 (mkF m 20 #[.val (.int p0), .val (.int p1), .val (.int p2), .unset, .unset] [(.ref b46), (.ref b46)]) _
  refine own_step (fun t k => XS.iconst X49.here hx rfl (hb hby at_20) k) ?_
  show own_Run p e below T49 (mkF m 21 #[.val (.int p0), .val (.int p1), .val (.int p2), .unset, .unset] [(.int (3 : Int32)), (.ref b46), (.ref b46)]) _
  refine own_step (fun t k => XS.bipush X49.here hx rfl (hb hby at_21) k) ?_
  show own_Run p e below T49 (mkF m 23 #[.val (.int p0), .val (.int p1), .val (.int p2), .unset, .unset] [(.int (97 : Int32)), (.int (3 : Int32)), (.ref b46), (.ref b46)]) _
  obtain ⟨T50, h50, L50, X50, e50, N50, W50, V50, st50⟩ := own_stI X49 hx hZ e49 V49x N49 geb46 (j := (3 : Int32)) ⟨by decide, by decide⟩ 3 rfl (Nat.le_of_ble_eq_true rfl) (g := (mkF m 23 #[.val (.int p0), .val (.int p1), .val (.int p2), .unset, .unset] [(.int (97 : Int32)), (.int (3 : Int32)), (.ref b46), (.ref b46)])) rfl rfl (hb hby at_23)
  have V50x : Arv Z h50 b46 k46 .int (33 : Int32) [(.int (65 : Int32)), (.int (90 : Int32)), (.int (95 : Int32)), (.int (97 : Int32)), (.int (0 : Int32)), (.int (0 : Int32)), (.int (0 : Int32)), (.int (0 : Int32)), (.int (0 : Int32)), (.int (0 : Int32)), (.int (0 : Int32)), (.int (0 : Int32)), (.int (0 : Int32)), (.int (0 : Int32)), (.int (0 : Int32)), (.int (0 : Int32)), (.int (0 : Int32)), (.int (0 : Int32)), (.int (0 : Int32)), (.int (0 : Int32)), (.int (0 : Int32)), (.int (0 : Int32)), (.int (0 : Int32)), (.int (0 : Int32)), (.int (0 : Int32)), (.int (0 : Int32)), (.int (0 : Int32)), (.int (0 : Int32)), (.int (0 : Int32)), (.int (0 : Int32)), (.int (0 : Int32)), (.int (0 : Int32)), (.int (0 : Int32))] (.int (0 : Int32)) := V50
  have Zn50 : n0 ≤ h50.size := Nat.le_trans Zn49 (Keep.of_wr W50).1
  refine own_step st50 ?_
  show own_Run p e below T50 (mkF m 24 #[.val (.int p0), .val (.int p1), .val (.int p2), .unset, .unset] [(.ref b46)]) _
  refine own_step (fun t k => XS.dup X50.here hx rfl (hb hby at_24) rfl rfl k) ?_
  show own_Run p e below T50 (mkF m 25 #[.val (.int p0), .val (.int p1), .val (.int p2), .unset, .unset] [(.ref b46), (.ref b46)]) _
  refine own_step (fun t k => XS.iconst X50.here hx rfl (hb hby at_25) k) ?_
  show own_Run p e below T50 (mkF m 26 #[.val (.int p0), .val (.int p1), .val (.int p2), .unset, .unset] [(.int (4 : Int32)), (.ref b46), (.ref b46)]) _
  refine own_step (fun t k => XS.bipush X50.here hx rfl (hb hby at_26) k) ?_
  show own_Run p e below T50 (mkF m 28 #[.val (.int p0), .val (.int p1), .val (.int p2), .unset, .unset] [(.int (122 : Int32)), (.int (4 : Int32)), (.ref b46), (.ref b46)]) _
  obtain ⟨T51, h51, L51, X51, e51, N51, W51, V51, st51⟩ := own_stI X50 hx hZ e50 V50x N50 geb46 (j := (4 : Int32)) ⟨by decide, by decide⟩ 4 rfl (Nat.le_of_ble_eq_true rfl) (g := (mkF m 28 #[.val (.int p0), .val (.int p1), .val (.int p2), .unset, .unset] [(.int (122 : Int32)), (.int (4 : Int32)), (.ref b46), (.ref b46)])) rfl rfl (hb hby at_28)
  have V51x : Arv Z h51 b46 k46 .int (33 : Int32) [(.int (65 : Int32)), (.int (90 : Int32)), (.int (95 : Int32)), (.int (97 : Int32)), (.int (122 : Int32)), (.int (0 : Int32)), (.int (0 : Int32)), (.int (0 : Int32)), (.int (0 : Int32)), (.int (0 : Int32)), (.int (0 : Int32)), (.int (0 : Int32)), (.int (0 : Int32)), (.int (0 : Int32)), (.int (0 : Int32)), (.int (0 : Int32)), (.int (0 : Int32)), (.int (0 : Int32)), (.int (0 : Int32)), (.int (0 : Int32)), (.int (0 : Int32)), (.int (0 : Int32)), (.int (0 : Int32)), (.int (0 : Int32)), (.int (0 : Int32)), (.int (0 : Int32)), (.int (0 : Int32)), (.int (0 : Int32)), (.int (0 : Int32)), (.int (0 : Int32)), (.int (0 : Int32)), (.int (0 : Int32)), (.int (0 : Int32))] (.int (0 : Int32)) := V51
  have Zn51 : n0 ≤ h51.size := Nat.le_trans Zn50 (Keep.of_wr W51).1
  refine own_step st51 ?_
  show own_Run p e below T51 (mkF m 29 #[.val (.int p0), .val (.int p1), .val (.int p2), .unset, .unset] [(.ref b46)]) _
  refine own_step (fun t k => XS.dup X51.here hx rfl (hb hby at_29) rfl rfl k) ?_
  show own_Run p e below T51 (mkF m 30 #[.val (.int p0), .val (.int p1), .val (.int p2), .unset, .unset] [(.ref b46), (.ref b46)]) _
  refine own_step (fun t k => XS.iconst X51.here hx rfl (hb hby at_30) k) ?_
  show own_Run p e below T51 (mkF m 31 #[.val (.int p0), .val (.int p1), .val (.int p2), .unset, .unset] [(.int (5 : Int32)), (.ref b46), (.ref b46)]) _
  refine own_step (fun t k => XS.sipush X51.here hx rfl (hb hby at_31) k) ?_
  show own_Run p e below T51 (mkF m 34 #[.val (.int p0), .val (.int p1), .val (.int p2), .unset, .unset] [(.int (192 : Int32)), (.int (5 : Int32)), (.ref b46), (.ref b46)]) _
  obtain ⟨T52, h52, L52, X52, e52, N52, W52, V52, st52⟩ := own_stI X51 hx hZ e51 V51x N51 geb46 (j := (5 : Int32)) ⟨by decide, by decide⟩ 5 rfl (Nat.le_of_ble_eq_true rfl) (g := (mkF m 34 #[.val (.int p0), .val (.int p1), .val (.int p2), .unset, .unset] [(.int (192 : Int32)), (.int (5 : Int32)), (.ref b46), (.ref b46)])) rfl rfl (hb hby at_34)
  have V52x : Arv Z h52 b46 k46 .int (33 : Int32) [(.int (65 : Int32)), (.int (90 : Int32)), (.int (95 : Int32)), (.int (97 : Int32)), (.int (122 : Int32)), (.int (192 : Int32)), (.int (0 : Int32)), (.int (0 : Int32)), (.int (0 : Int32)), (.int (0 : Int32)), (.int (0 : Int32)), (.int (0 : Int32)), (.int (0 : Int32)), (.int (0 : Int32)), (.int (0 : Int32)), (.int (0 : Int32)), (.int (0 : Int32)), (.int (0 : Int32)), (.int (0 : Int32)), (.int (0 : Int32)), (.int (0 : Int32)), (.int (0 : Int32)), (.int (0 : Int32)), (.int (0 : Int32)), (.int (0 : Int32)), (.int (0 : Int32)), (.int (0 : Int32)), (.int (0 : Int32)), (.int (0 : Int32)), (.int (0 : Int32)), (.int (0 : Int32)), (.int (0 : Int32)), (.int (0 : Int32))] (.int (0 : Int32)) := V52
  have Zn52 : n0 ≤ h52.size := Nat.le_trans Zn51 (Keep.of_wr W52).1
  refine own_step st52 ?_
  show own_Run p e below T52 (mkF m 35 #[.val (.int p0), .val (.int p1), .val (.int p2), .unset, .unset] [(.ref b46)]) _
  refine own_step (fun t k => XS.dup X52.here hx rfl (hb hby at_35) rfl rfl k) ?_
  show own_Run p e below T52 (mkF m 36 #[.val (.int p0), .val (.int p1), .val (.int p2), .unset, .unset] [(.ref b46), (.ref b46)]) _
  refine own_step (fun t k => XS.bipush X52.here hx rfl (hb hby at_36) k) ?_
  show own_Run p e below T52 (mkF m 38 #[.val (.int p0), .val (.int p1), .val (.int p2), .unset, .unset] [(.int (6 : Int32)), (.ref b46), (.ref b46)]) _
  refine own_step (fun t k => XS.sipush X52.here hx rfl (hb hby at_38) k) ?_
  show own_Run p e below T52 (mkF m 41 #[.val (.int p0), .val (.int p1), .val (.int p2), .unset, .unset] [(.int (214 : Int32)), (.int (6 : Int32)), (.ref b46), (.ref b46)]) _
  obtain ⟨T53, h53, L53, X53, e53, N53, W53, V53, st53⟩ := own_stI X52 hx hZ e52 V52x N52 geb46 (j := (6 : Int32)) ⟨by decide, by decide⟩ 6 rfl (Nat.le_of_ble_eq_true rfl) (g := (mkF m 41 #[.val (.int p0), .val (.int p1), .val (.int p2), .unset, .unset] [(.int (214 : Int32)), (.int (6 : Int32)), (.ref b46), (.ref b46)])) rfl rfl (hb hby at_41)
  have V53x : Arv Z h53 b46 k46 .int (33 : Int32) [(.int (65 : Int32)), (.int (90 : Int32)), (.int (95 : Int32)), (.int (97 : Int32)), (.int (122 : Int32)), (.int (192 : Int32)), (.int (214 : Int32)), (.int (0 : Int32)), (.int (0 : Int32)), (.int (0 : Int32)), (.int (0 : Int32)), (.int (0 : Int32)), (.int (0 : Int32)), (.int (0 : Int32)), (.int (0 : Int32)), (.int (0 : Int32)), (.int (0 : Int32)), (.int (0 : Int32)), (.int (0 : Int32)), (.int (0 : Int32)), (.int (0 : Int32)), (.int (0 : Int32)), (.int (0 : Int32)), (.int (0 : Int32)), (.int (0 : Int32)), (.int (0 : Int32)), (.int (0 : Int32)), (.int (0 : Int32)), (.int (0 : Int32)), (.int (0 : Int32)), (.int (0 : Int32)), (.int (0 : Int32)), (.int (0 : Int32))] (.int (0 : Int32)) := V53
  have Zn53 : n0 ≤ h53.size := Nat.le_trans Zn52 (Keep.of_wr W53).1
  refine own_step st53 ?_
  show own_Run p e below T53 (mkF m 42 #[.val (.int p0), .val (.int p1), .val (.int p2), .unset, .unset] [(.ref b46)]) _
  refine own_step (fun t k => XS.dup X53.here hx rfl (hb hby at_42) rfl rfl k) ?_
  show own_Run p e below T53 (mkF m 43 #[.val (.int p0), .val (.int p1), .val (.int p2), .unset, .unset] [(.ref b46), (.ref b46)]) _
  refine own_step (fun t k => XS.bipush X53.here hx rfl (hb hby at_43) k) ?_
  show own_Run p e below T53 (mkF m 45 #[.val (.int p0), .val (.int p1), .val (.int p2), .unset, .unset] [(.int (7 : Int32)), (.ref b46), (.ref b46)]) _
  refine own_step (fun t k => XS.sipush X53.here hx rfl (hb hby at_45) k) ?_
  show own_Run p e below T53 (mkF m 48 #[.val (.int p0), .val (.int p1), .val (.int p2), .unset, .unset] [(.int (216 : Int32)), (.int (7 : Int32)), (.ref b46), (.ref b46)]) _
  obtain ⟨T54, h54, L54, X54, e54, N54, W54, V54, st54⟩ := own_stI X53 hx hZ e53 V53x N53 geb46 (j := (7 : Int32)) ⟨by decide, by decide⟩ 7 rfl (Nat.le_of_ble_eq_true rfl) (g := (mkF m 48 #[.val (.int p0), .val (.int p1), .val (.int p2), .unset, .unset] [(.int (216 : Int32)), (.int (7 : Int32)), (.ref b46), (.ref b46)])) rfl rfl (hb hby at_48)
  have V54x : Arv Z h54 b46 k46 .int (33 : Int32) [(.int (65 : Int32)), (.int (90 : Int32)), (.int (95 : Int32)), (.int (97 : Int32)), (.int (122 : Int32)), (.int (192 : Int32)), (.int (214 : Int32)), (.int (216 : Int32)), (.int (0 : Int32)), (.int (0 : Int32)), (.int (0 : Int32)), (.int (0 : Int32)), (.int (0 : Int32)), (.int (0 : Int32)), (.int (0 : Int32)), (.int (0 : Int32)), (.int (0 : Int32)), (.int (0 : Int32)), (.int (0 : Int32)), (.int (0 : Int32)), (.int (0 : Int32)), (.int (0 : Int32)), (.int (0 : Int32)), (.int (0 : Int32)), (.int (0 : Int32)), (.int (0 : Int32)), (.int (0 : Int32)), (.int (0 : Int32)), (.int (0 : Int32)), (.int (0 : Int32)), (.int (0 : Int32)), (.int (0 : Int32)), (.int (0 : Int32))] (.int (0 : Int32)) := V54
  have Zn54 : n0 ≤ h54.size := Nat.le_trans Zn53 (Keep.of_wr W54).1
  refine own_step st54 ?_
  show own_Run p e below T54 (mkF m 49 #[.val (.int p0), .val (.int p1), .val (.int p2), .unset, .unset] [(.ref b46)]) _
  refine own_step (fun t k => XS.dup X54.here hx rfl (hb hby at_49) rfl rfl k) ?_
  show own_Run p e below T54 (mkF m 50 #[.val (.int p0), .val (.int p1), .val (.int p2), .unset, .unset] [(.ref b46), (.ref b46)]) _
  refine own_step (fun t k => XS.bipush X54.here hx rfl (hb hby at_50) k) ?_
  show own_Run p e below T54 (mkF m 52 #[.val (.int p0), .val (.int p1), .val (.int p2), .unset, .unset] [(.int (8 : Int32)), (.ref b46), (.ref b46)]) _
  refine own_step (fun t k => XS.sipush X54.here hx rfl (hb hby at_52) k) ?_
  show own_Run p e below T54 (mkF m 55 #[.val (.int p0), .val (.int p1), .val (.int p2), .unset, .unset] [(.int (246 : Int32)), (.int (8 : Int32)), (.ref b46), (.ref b46)]) _
  obtain ⟨T55, h55, L55, X55, e55, N55, W55, V55, st55⟩ := own_stI X54 hx hZ e54 V54x N54 geb46 (j := (8 : Int32)) ⟨by decide, by decide⟩ 8 rfl (Nat.le_of_ble_eq_true rfl) (g := (mkF m 55 #[.val (.int p0), .val (.int p1), .val (.int p2), .unset, .unset] [(.int (246 : Int32)), (.int (8 : Int32)), (.ref b46), (.ref b46)])) rfl rfl (hb hby at_55)
  have V55x : Arv Z h55 b46 k46 .int (33 : Int32) [(.int (65 : Int32)), (.int (90 : Int32)), (.int (95 : Int32)), (.int (97 : Int32)), (.int (122 : Int32)), (.int (192 : Int32)), (.int (214 : Int32)), (.int (216 : Int32)), (.int (246 : Int32)), (.int (0 : Int32)), (.int (0 : Int32)), (.int (0 : Int32)), (.int (0 : Int32)), (.int (0 : Int32)), (.int (0 : Int32)), (.int (0 : Int32)), (.int (0 : Int32)), (.int (0 : Int32)), (.int (0 : Int32)), (.int (0 : Int32)), (.int (0 : Int32)), (.int (0 : Int32)), (.int (0 : Int32)), (.int (0 : Int32)), (.int (0 : Int32)), (.int (0 : Int32)), (.int (0 : Int32)), (.int (0 : Int32)), (.int (0 : Int32)), (.int (0 : Int32)), (.int (0 : Int32)), (.int (0 : Int32)), (.int (0 : Int32))] (.int (0 : Int32)) := V55
  have Zn55 : n0 ≤ h55.size := Nat.le_trans Zn54 (Keep.of_wr W55).1
  refine own_step st55 ?_
  show own_Run p e below T55 (mkF m 56 #[.val (.int p0), .val (.int p1), .val (.int p2), .unset, .unset] [(.ref b46)]) _
  refine own_step (fun t k => XS.dup X55.here hx rfl (hb hby at_56) rfl rfl k) ?_
  show own_Run p e below T55 (mkF m 57 #[.val (.int p0), .val (.int p1), .val (.int p2), .unset, .unset] [(.ref b46), (.ref b46)]) _
  refine own_step (fun t k => XS.bipush X55.here hx rfl (hb hby at_57) k) ?_
  show own_Run p e below T55 (mkF m 59 #[.val (.int p0), .val (.int p1), .val (.int p2), .unset, .unset] [(.int (9 : Int32)), (.ref b46), (.ref b46)]) _
  refine own_step (fun t k => XS.sipush X55.here hx rfl (hb hby at_59) k) ?_
  show own_Run p e below T55 (mkF m 62 #[.val (.int p0), .val (.int p1), .val (.int p2), .unset, .unset] [(.int (248 : Int32)), (.int (9 : Int32)), (.ref b46), (.ref b46)]) _
  obtain ⟨T56, h56, L56, X56, e56, N56, W56, V56, st56⟩ := own_stI X55 hx hZ e55 V55x N55 geb46 (j := (9 : Int32)) ⟨by decide, by decide⟩ 9 rfl (Nat.le_of_ble_eq_true rfl) (g := (mkF m 62 #[.val (.int p0), .val (.int p1), .val (.int p2), .unset, .unset] [(.int (248 : Int32)), (.int (9 : Int32)), (.ref b46), (.ref b46)])) rfl rfl (hb hby at_62)
  have V56x : Arv Z h56 b46 k46 .int (33 : Int32) [(.int (65 : Int32)), (.int (90 : Int32)), (.int (95 : Int32)), (.int (97 : Int32)), (.int (122 : Int32)), (.int (192 : Int32)), (.int (214 : Int32)), (.int (216 : Int32)), (.int (246 : Int32)), (.int (248 : Int32)), (.int (0 : Int32)), (.int (0 : Int32)), (.int (0 : Int32)), (.int (0 : Int32)), (.int (0 : Int32)), (.int (0 : Int32)), (.int (0 : Int32)), (.int (0 : Int32)), (.int (0 : Int32)), (.int (0 : Int32)), (.int (0 : Int32)), (.int (0 : Int32)), (.int (0 : Int32)), (.int (0 : Int32)), (.int (0 : Int32)), (.int (0 : Int32)), (.int (0 : Int32)), (.int (0 : Int32)), (.int (0 : Int32)), (.int (0 : Int32)), (.int (0 : Int32)), (.int (0 : Int32)), (.int (0 : Int32))] (.int (0 : Int32)) := V56
  have Zn56 : n0 ≤ h56.size := Nat.le_trans Zn55 (Keep.of_wr W56).1
  refine own_step st56 ?_
  show own_Run p e below T56 (mkF m 63 #[.val (.int p0), .val (.int p1), .val (.int p2), .unset, .unset] [(.ref b46)]) _
  refine own_step (fun t k => XS.dup X56.here hx rfl (hb hby at_63) rfl rfl k) ?_
  show own_Run p e below T56 (mkF m 64 #[.val (.int p0), .val (.int p1), .val (.int p2), .unset, .unset] [(.ref b46), (.ref b46)]) _
  refine own_step (fun t k => XS.bipush X56.here hx rfl (hb hby at_64) k) ?_
  show own_Run p e below T56 (mkF m 66 #[.val (.int p0), .val (.int p1), .val (.int p2), .unset, .unset] [(.int (10 : Int32)), (.ref b46), (.ref b46)]) _
  refine own_step (fun t k => XS.sipush X56.here hx rfl (hb hby at_66) k) ?_
  show own_Run p e below T56 (mkF m 69 #[.val (.int p0), .val (.int p1), .val (.int p2), .unset, .unset] [(.int (767 : Int32)), (.int (10 : Int32)), (.ref b46), (.ref b46)]) _
  obtain ⟨T57, h57, L57, X57, e57, N57, W57, V57, st57⟩ := own_stI X56 hx hZ e56 V56x N56 geb46 (j := (10 : Int32)) ⟨by decide, by decide⟩ 10 rfl (Nat.le_of_ble_eq_true rfl) (g := (mkF m 69 #[.val (.int p0), .val (.int p1), .val (.int p2), .unset, .unset] [(.int (767 : Int32)), (.int (10 : Int32)), (.ref b46), (.ref b46)])) rfl rfl (hb hby at_69)
  have V57x : Arv Z h57 b46 k46 .int (33 : Int32) [(.int (65 : Int32)), (.int (90 : Int32)), (.int (95 : Int32)), (.int (97 : Int32)), (.int (122 : Int32)), (.int (192 : Int32)), (.int (214 : Int32)), (.int (216 : Int32)), (.int (246 : Int32)), (.int (248 : Int32)), (.int (767 : Int32)), (.int (0 : Int32)), (.int (0 : Int32)), (.int (0 : Int32)), (.int (0 : Int32)), (.int (0 : Int32)), (.int (0 : Int32)), (.int (0 : Int32)), (.int (0 : Int32)), (.int (0 : Int32)), (.int (0 : Int32)), (.int (0 : Int32)), (.int (0 : Int32)), (.int (0 : Int32)), (.int (0 : Int32)), (.int (0 : Int32)), (.int (0 : Int32)), (.int (0 : Int32)), (.int (0 : Int32)), (.int (0 : Int32)), (.int (0 : Int32)), (.int (0 : Int32)), (.int (0 : Int32))] (.int (0 : Int32)) := V57
  have Zn57 : n0 ≤ h57.size := Nat.le_trans Zn56 (Keep.of_wr W57).1
  refine own_step st57 ?_
  show own_Run p e below T57 (mkF m 70 #[.val (.int p0), .val (.int p1), .val (.int p2), .unset, .unset] [(.ref b46)]) _
  refine own_step (fun t k => XS.dup X57.here hx rfl (hb hby at_70) rfl rfl k) ?_
  show own_Run p e below T57 (mkF m 71 #[.val (.int p0), .val (.int p1), .val (.int p2), .unset, .unset] [(.ref b46), (.ref b46)]) _
  refine own_step (fun t k => XS.bipush X57.here hx rfl (hb hby at_71) k) ?_
  show own_Run p e below T57 (mkF m 73 #[.val (.int p0), .val (.int p1), .val (.int p2), .unset, .unset] [(.int (11 : Int32)), (.ref b46), (.ref b46)]) _
  refine own_step (fun t k => XS.sipush X57.here hx rfl (hb hby at_73) k) ?_
  show own_Run p e below T57 (mkF m 76 #[.val (.int p0), .val (.int p1), .val (.int p2), .unset, .unset] [(.int (880 : Int32)), (.int (11 : Int32)), (.ref b46), (.ref b46)]) _
  obtain ⟨T58, h58, L58, X58, e58, N58, W58, V58, st58⟩ := own_stI X57 hx hZ e57 V57x N57 geb46 (j := (11 : Int32)) ⟨by decide, by decide⟩ 11 rfl (Nat.le_of_ble_eq_true rfl) (g := (mkF m 76 #[.val (.int p0), .val (.int p1), .val (.int p2), .unset, .unset] [(.int (880 : Int32)), (.int (11 : Int32)), (.ref b46), (.ref b46)])) rfl rfl (hb hby at_76)
  have V58x : Arv Z h58 b46 k46 .int (33 : Int32) [(.int (65 : Int32)), (.int (90 : Int32)), (.int (95 : Int32)), (.int (97 : Int32)), (.int (122 : Int32)), (.int (192 : Int32)), (.int (214 : Int32)), (.int (216 : Int32)), (.int (246 : Int32)), (.int (248 : Int32)), (.int (767 : Int32)), (.int (880 : Int32)), (.int (0 : Int32)), (.int (0 : Int32)), (.int (0 : Int32)), (.int (0 : Int32)), (.int (0 : Int32)), (.int (0 : Int32)), (.int (0 : Int32)), (.int (0 : Int32)), (.int (0 : Int32)), (.int (0 : Int32)), (.int (0 : Int32)), (.int (0 : Int32)), (.int (0 : Int32)), (.int (0 : Int32)), (.int (0 : Int32)), (.int (0 : Int32)), (.int (0 : Int32)), (.int (0 : Int32)), (.int (0 : Int32)), (.int (0 : Int32)), (.int (0 : Int32))] (.int (0 : Int32)) := V58
  have Zn58 : n0 ≤ h58.size := Nat.le_trans Zn57 (Keep.of_wr W58).1
  refine own_step st58 ?_
  show own_Run p e below T58 (mkF m 77 #[.val (.int p0), .val (.int p1), .val (.int p2), .unset, .unset] [(.ref b46)]) _
  refine own_step (fun t k => XS.dup X58.here hx rfl (hb hby at_77) rfl rfl k) ?_
  show own_Run p e below T58 (mkF m 78 #[.val (.int p0), .val (.int p1), .val (.int p2), .unset, .unset] [(.ref b46), (.ref b46)]) _
  refine own_step (fun t k => XS.bipush X58.here hx rfl (hb hby at_78) k) ?_
  show own_Run p e below T58 (mkF m 80 #[.val (.int p0), .val (.int p1), .val (.int p2), .unset, .unset] [(.int (12 : Int32)), (.ref b46), (.ref b46)]) _
  refine own_step (fun t k => XS.sipush X58.here hx rfl (hb hby at_80) k) ?_
  show own_Run p e below T58 (mkF m 83 #[.val (.int p0), .val (.int p1), .val (.int p2), .unset, .unset] [(.int (893 : Int32)), (.int (12 : Int32)), (.ref b46), (.ref b46)]) _
  obtain ⟨T59, h59, L59, X59, e59, N59, W59, V59, st59⟩ := own_stI X58 hx hZ e58 V58x N58 geb46 (j := (12 : Int32)) ⟨by decide, by decide⟩ 12 rfl (Nat.le_of_ble_eq_true rfl) (g := (mkF m 83 #[.val (.int p0), .val (.int p1), .val (.int p2), .unset, .unset] [(.int (893 : Int32)), (.int (12 : Int32)), (.ref b46), (.ref b46)])) rfl rfl (hb hby at_83)
  have V59x : Arv Z h59 b46 k46 .int (33 : Int32) [(.int (65 : Int32)), (.int (90 : Int32)), (.int (95 : Int32)), (.int (97 : Int32)), (.int (122 : Int32)), (.int (192 : Int32)), (.int (214 : Int32)), (.int (216 : Int32)), (.int (246 : Int32)), (.int (248 : Int32)), (.int (767 : Int32)), (.int (880 : Int32)), (.int (893 : Int32)), (.int (0 : Int32)), (.int (0 : Int32)), (.int (0 : Int32)), (.int (0 : Int32)), (.int (0 : Int32)), (.int (0 : Int32)), (.int (0 : Int32)), (.int (0 : Int32)), (.int (0 : Int32)), (.int (0 : Int32)), (.int (0 : Int32)), (.int (0 : Int32)), (.int (0 : Int32)), (.int (0 : Int32)), (.int (0 : Int32)), (.int (0 : Int32)), (.int (0 : Int32)), (.int (0 : Int32)), (.int (0 : Int32)), (.int (0 : Int32))] (.int (0 : Int32)) := V59
  have Zn59 : n0 ≤ h59.size := Nat.le_trans Zn58 (Keep.of_wr W59).1
  refine own_step st59 ?_
  show own_Run p e below T59 (mkF m 84 #[.val (.int p0), .val (.int p1), .val (.int p2), .unset, .unset] [(.ref b46)]) _
  refine own_step (fun t k => XS.dup X59.here hx rfl (hb hby at_84) rfl rfl k) ?_
  show own_Run p e below T59 (mkF m 85 #[.val (.int p0), .val (.int p1), .val (.int p2), .unset, .unset] [(.ref b46), (.ref b46)]) _
  refine own_step (fun t k => XS.bipush X59.here hx rfl (hb hby at_85) k) ?_
  show own_Run p e below T59 (mkF m 87 #[.val (.int p0), .val (.int p1), .val (.int p2), .unset, .unset] [(.int (13 : Int32)), (.ref b46), (.ref b46)]) _
  refine own_step (fun t k => XS.sipush X59.here hx rfl (hb hby at_87) k) ?_
  show own_Run p e below T59 (mkF m 90 #[.val (.int p0), .val (.int p1), .val (.int p2), .unset, .unset] [(.int (895 : Int32)), (.int (13 : Int32)), (.ref b46), (.ref b46)]) _
  obtain ⟨T60, h60, L60, X60, e60, N60, W60, V60, st60⟩ := own_stI X59 hx hZ e59 V59x N59 geb46 (j := (13 : Int32)) ⟨by decide, by decide⟩ 13 rfl (Nat.le_of_ble_eq_true rfl) (g := (mkF m 90 #[.val (.int p0), .val (.int p1), .val (.int p2), .unset, .unset] [(.int (895 : Int32)), (.int (13 : Int32)), (.ref b46), (.ref b46)])) rfl rfl (hb hby at_90)
  have V60x : Arv Z h60 b46 k46 .int (33 : Int32) [(.int (65 : Int32)), (.int (90 : Int32)), (.int (95 : Int32)), (.int (97 : Int32)), (.int (122 : Int32)), (.int (192 : Int32)), (.int (214 : Int32)), (.int (216 : Int32)), (.int (246 : Int32)), (.int (248 : Int32)), (.int (767 : Int32)), (.int (880 : Int32)), (.int (893 : Int32)), (.int (895 : Int32)), (.int (0 : Int32)), (.int (0 : Int32)), (.int (0 : Int32)), (.int (0 : Int32)), (.int (0 : Int32)), (.int (0 : Int32)), (.int (0 : Int32)), (.int (0 : Int32)), (.int (0 : Int32)), (.int (0 : Int32)), (.int (0 : Int32)), (.int (0 : Int32)), (.int (0 : Int32)), (.int (0 : Int32)), (.int (0 : Int32)), (.int (0 : Int32)), (.int (0 : Int32)), (.int (0 : Int32)), (.int (0 : Int32))] (.int (0 : Int32)) := V60
  have Zn60 : n0 ≤ h60.size := Nat.le_trans Zn59 (Keep.of_wr W60).1
  refine own_step st60 ?_
  show own_Run p e below T60 (mkF m 91 #[.val (.int p0), .val (.int p1), .val (.int p2), .unset, .unset] [(.ref b46)]) _
  refine own_step (fun t k => XS.dup X60.here hx rfl (hb hby at_91) rfl rfl k) ?_
  show own_Run p e below T60 (mkF m 92 #[.val (.int p0), .val (.int p1), .val (.int p2), .unset, .unset] [(.ref b46), (.ref b46)]) _
  refine own_step (fun t k => XS.bipush X60.here hx rfl (hb hby at_92) k) ?_
  show own_Run p e below T60 (mkF m 94 #[.val (.int p0), .val (.int p1), .val (.int p2), .unset, .unset] [(.int (14 : Int32)), (.ref b46), (.ref b46)]) _
  refine own_step (fun t k => XS.sipush X60.here hx rfl (hb hby at_94) k) ?_
  show own_Run p e below T60 (mkF m 97 #[.val (.int p0), .val (.int p1), .val (.int p2), .unset, .unset] [(.int (8191 : Int32)), (.int (14 : Int32)), (.ref b46), (.ref b46)]) _
  obtain ⟨T61, h61, L61, X61, e61, N61, W61, V61, st61⟩ := own_stI X60 hx hZ e60 V60x N60 geb46 (j := (14 : Int32)) ⟨by decide, by decide⟩ 14 rfl (Nat.le_of_ble_eq_true rfl) (g := (mkF m 97 #[.val (.int p0), .val (.int p1), .val (.int p2), .unset, .unset] [(.int (8191 : Int32)), (.int (14 : Int32)), (.ref b46), (.ref b46)])) rfl rfl (hb hby at_97)
  have V61x : Arv Z h61 b46 k46 .int (33 : Int32) [(.int (65 : Int32)), (.int (90 : Int32)), (.int (95 : Int32)), (.int (97 : Int32)), (.int (122 : Int32)), (.int (192 : Int32)), (.int (214 : Int32)), (.int (216 : Int32)), (.int (246 : Int32)), (.int (248 : Int32)), (.int (767 : Int32)), (.int (880 : Int32)), (.int (893 : Int32)), (.int (895 : Int32)), (.int (8191 : Int32)), (.int (0 : Int32)), (.int (0 : Int32)), (.int (0 : Int32)), (.int (0 : Int32)), (.int (0 : Int32)), (.int (0 : Int32)), (.int (0 : Int32)), (.int (0 : Int32)), (.int (0 : Int32)), (.int (0 : Int32)), (.int (0 : Int32)), (.int (0 : Int32)), (.int (0 : Int32)), (.int (0 : Int32)), (.int (0 : Int32)), (.int (0 : Int32)), (.int (0 : Int32)), (.int (0 : Int32))] (.int (0 : Int32)) := V61
  have Zn61 : n0 ≤ h61.size := Nat.le_trans Zn60 (Keep.of_wr W61).1
  refine own_step st61 ?_
  show own_Run p e below T61 (mkF m 98 #[.val (.int p0), .val (.int p1), .val (.int p2), .unset, .unset] [(.ref b46)]) _
  refine own_step (fun t k => XS.dup X61.here hx rfl (hb hby at_98) rfl rfl k) ?_
  show own_Run p e below T61 (mkF m 99 #[.val (.int p0), .val (.int p1), .val (.int p2), .unset, .unset] [(.ref b46), (.ref b46)]) _
  refine own_step (fun t k => XS.bipush X61.here hx rfl (hb hby at_99) k) ?_
  show own_Run p e below T61 (mkF m 101 #[.val (.int p0), .val (.int p1), .val (.int p2), .unset, .unset] [(.int (15 : Int32)), (.ref b46), (.ref b46)]) _
  refine own_step (fun t k => XS.sipush X61.here hx rfl (hb hby at_101) k) ?_
  show own_Run p e below T61 (mkF m 104 #[.val (.int p0), .val (.int p1), .val (.int p2), .unset, .unset] [(.int (8204 : Int32)), (.int (15 : Int32)), (.ref b46), (.ref b46)]) _
  obtain ⟨T62, h62, L62, X62, e62, N62, W62, V62, st62⟩ := own_stI X61 hx hZ e61 V61x N61 geb46 (j := (15 : Int32)) ⟨by decide, by decide⟩ 15 rfl (Nat.le_of_ble_eq_true rfl) (g := (mkF m 104 #[.val (.int p0), .val (.int p1), .val (.int p2), .unset, .unset] [(.int (8204 : Int32)), (.int (15 : Int32)), (.ref b46), (.ref b46)])) rfl rfl (hb hby at_104)
  have V62x : Arv Z h62 b46 k46 .int (33 : Int32) [(.int (65 : Int32)), (.int (90 : Int32)), (.int (95 : Int32)), (.int (97 : Int32)), (.int (122 : Int32)), (.int (192 : Int32)), (.int (214 : Int32)), (.int (216 : Int32)), (.int (246 : Int32)), (.int (248 : Int32)), (.int (767 : Int32)), (.int (880 : Int32)), (.int (893 : Int32)), (.int (895 : Int32)), (.int (8191 : Int32)), (.int (8204 : Int32)), (.int (0 : Int32)), (.int (0 : Int32)), (.int (0 : Int32)), (.int (0 : Int32)), (.int (0 : Int32)), (.int (0 : Int32)), (.int (0 : Int32)), (.int (0 : Int32)), (.int (0 : Int32)), (.int (0 : Int32)), (.int (0 : Int32)), (.int (0 : Int32)), (.int (0 : Int32)), (.int (0 : Int32)), (.int (0 : Int32)), (.int (0 : Int32)), (.int (0 : Int32))] (.int (0 : Int32)) := V62
  have Zn62 : n0 ≤ h62.size := Nat.le_trans Zn61 (Keep.of_wr W62).1
  refine own_step st62 ?_
  show own_Run p e below T62 (mkF m 105 #[.val (.int p0), .val (.int p1), .val (.int p2), .unset, .unset] [(.ref b46)]) _
  refine own_step (fun t k => XS.dup X62.here hx rfl (hb hby at_105) rfl rfl k) ?_
  show own_Run p e below T62 (mkF m 106 #[.val (.int p0), .val (.int p1), .val (.int p2), .unset, .unset] [(.ref b46), (.ref b46)]) _
  refine own_step (fun t k => XS.bipush X62.here hx rfl (hb hby at_106) k) ?_
  show own_Run p e below T62 (mkF m 108 #[.val (.int p0), .val (.int p1), .val (.int p2), .unset, .unset] [(.int (16 : Int32)), (.ref b46), (.ref b46)]) _
  refine own_step (fun t k => XS.sipush X62.here hx rfl (hb hby at_108) k) ?_
  show own_Run p e below T62 (mkF m 111 #[.val (.int p0), .val (.int p1), .val (.int p2), .unset, .unset] [(.int (8205 : Int32)), (.int (16 : Int32)), (.ref b46), (.ref b46)]) _
  obtain ⟨T63, h63, L63, X63, e63, N63, W63, V63, st63⟩ := own_stI X62 hx hZ e62 V62x N62 geb46 (j := (16 : Int32)) ⟨by decide, by decide⟩ 16 rfl (Nat.le_of_ble_eq_true rfl) (g := (mkF m 111 #[.val (.int p0), .val (.int p1), .val (.int p2), .unset, .unset] [(.int (8205 : Int32)), (.int (16 : Int32)), (.ref b46), (.ref b46)])) rfl rfl (hb hby at_111)
  have V63x : Arv Z h63 b46 k46 .int (33 : Int32) [(.int (65 : Int32)), (.int (90 : Int32)), (.int (95 : Int32)), (.int (97 : Int32)), (.int (122 : Int32)), (.int (192 : Int32)), (.int (214 : Int32)), (.int (216 : Int32)), (.int (246 : Int32)), (.int (248 : Int32)), (.int (767 : Int32)), (.int (880 : Int32)), (.int (893 : Int32)), (.int (895 : Int32)), (.int (8191 : Int32)), (.int (8204 : Int32)), (.int (8205 : Int32)), (.int (0 : Int32)), (.int (0 : Int32)), (.int (0 : Int32)), (.int (0 : Int32)), (.int (0 : Int32)), (.int (0 : Int32)), (.int (0 : Int32)), (.int (0 : Int32)), (.int (0 : Int32)), (.int (0 : Int32)), (.int (0 : Int32)), (.int (0 : Int32)), (.int (0 : Int32)), (.int (0 : Int32)), (.int (0 : Int32)), (.int (0 : Int32))] (.int (0 : Int32)) := V63
  have Zn63 : n0 ≤ h63.size := Nat.le_trans Zn62 (Keep.of_wr W63).1
  refine own_step st63 ?_
  show own_Run p e below T63 (mkF m 112 #[.val (.int p0), .val (.int p1), .val (.int p2), .unset, .unset] [(.ref b46)]) _
  refine own_step (fun t k => XS.dup X63.here hx rfl (hb hby at_112) rfl rfl k) ?_
  show own_Run p e below T63 (mkF m 113 #[.val (.int p0), .val (.int p1), .val (.int p2), .unset, .unset] [(.ref b46), (.ref b46)]) _
  refine own_step (fun t k => XS.bipush X63.here hx rfl (hb hby at_113) k) ?_
  show own_Run p e below T63 (mkF m 115 #[.val (.int p0), .val (.int p1), .val (.int p2), .unset, .unset] [(.int (17 : Int32)), (.ref b46), (.ref b46)]) _
  refine own_step (fun t k => XS.sipush X63.here hx rfl (hb hby at_115) k) ?_
  show own_Run p e below T63 (mkF m 118 #[.val (.int p0), .val (.int p1), .val (.int p2), .unset, .unset] [(.int (8304 : Int32)), (.int (17 : Int32)), (.ref b46), (.ref b46)]) _
  obtain ⟨T64, h64, L64, X64, e64, N64, W64, V64, st64⟩ := own_stI X63 hx hZ e63 V63x N63 geb46 (j := (17 : Int32)) ⟨by decide, by decide⟩ 17 rfl (Nat.le_of_ble_eq_true rfl) (g := (mkF m 118 #[.val (.int p0), .val (.int p1), .val (.int p2), .unset, .unset] [(.int (8304 : Int32)), (.int (17 : Int32)), (.ref b46), (.ref b46)])) rfl rfl (hb hby at_118)
  have V64x : Arv Z h64 b46 k46 .int (33 : Int32) [(.int (65 : Int32)), (.int (90 : Int32)), (.int (95 : Int32)), (.int (97 : Int32)), (.int (122 : Int32)), (.int (192 : Int32)), (.int (214 : Int32)), (.int (216 : Int32)), (.int (246 : Int32)), (.int (248 : Int32)), (.int (767 : Int32)), (.int (880 : Int32)), (.int (893 : Int32)), (.int (895 : Int32)), (.int (8191 : Int32)), (.int (8204 : Int32)), (.int (8205 : Int32)), (.int (8304 : Int32)), (.int (0 : Int32)), (.int (0 : Int32)), (.int (0 : Int32)), (.int (0 : Int32)), (.int (0 : Int32)), (.int (0 : Int32)), (.int (0 : Int32)), (.int (0 : Int32)), (.int (0 : Int32)), (.int (0 : Int32)), (.int (0 : Int32)), (.int (0 : Int32)), (.int (0 : Int32)), (.int (0 : Int32)), (.int (0 : Int32))] (.int (0 : Int32)) := V64
  have Zn64 : n0 ≤ h64.size := Nat.le_trans Zn63 (Keep.of_wr W64).1
  refine own_step st64 ?_
  show own_Run p e below T64 (mkF m 119 #[.val (.int p0), .val (.int p1), .val (.int p2), .unset, .unset] [(.ref b46)]) _
  refine own_step (fun t k => XS.dup X64.here hx rfl (hb hby at_119) rfl rfl k) ?_
  show own_Run p e below T64 (mkF m 120 #[.val (.int p0), .val (.int p1), .val (.int p2), .unset, .unset] [(.ref b46), (.ref b46)]) _
  refine own_step (fun t k => XS.bipush X64.here hx rfl (hb hby at_120) k) ?_
  show own_Run p e below T64 (mkF m 122 #[.val (.int p0), .val (.int p1), .val (.int p2), .unset, .unset] [(.int (18 : Int32)), (.ref b46), (.ref b46)]) _
  refine own_step (fun t k => XS.sipush X64.here hx rfl (hb hby at_122) k) ?_
  show own_Run p e below T64 (mkF m 125 #[.val (.int p0), .val (.int p1), .val (.int p2), .unset, .unset] [(.int (8591 : Int32)), (.int (18 : Int32)), (.ref b46), (.ref b46)]) _
  obtain ⟨T65, h65, L65, X65, e65, N65, W65, V65, st65⟩ := own_stI X64 hx hZ e64 V64x N64 geb46 (j := (18 : Int32)) ⟨by decide, by decide⟩ 18 rfl (Nat.le_of_ble_eq_true rfl) (g := (mkF m 125 #[.val (.int p0), .val (.int p1), .val (.int p2), .unset, .unset] [(.int (8591 : Int32)), (.int (18 : Int32)), (.ref b46), (.ref b46)])) rfl rfl (hb hby at_125)
  have V65x : Arv Z h65 b46 k46 .int (33 : Int32) [(.int (65 : Int32)), (.int (90 : Int32)), (.int (95 : Int32)), (.int (97 : Int32)), (.int (122 : Int32)), (.int (192 : Int32)), (.int (214 : Int32)), (.int (216 : Int32)), (.int (246 : Int32)), (.int (248 : Int32)), (.int (767 : Int32)), (.int (880 : Int32)), (.int (893 : Int32)), (.int (895 : Int32)), (.int (8191 : Int32)), (.int (8204 : Int32)), (.int (8205 : Int32)), (.int (8304 : Int32)), (.int (8591 : Int32)), (.int (0 : Int32)), (.int (0 : Int32)), (.int (0 : Int32)), (.int (0 : Int32)), (.int (0 : Int32)), (.int (0 : Int32)), (.int (0 : Int32)), (.int (0 : Int32)), (.int (0 : Int32)), (.int (0 : Int32)), (.int (0 : Int32)), (.int (0 : Int32)), (.int (0 : Int32)), (.int (0 : Int32))] (.int (0 : Int32)) := V65
  have Zn65 : n0 ≤ h65.size := Nat.le_trans Zn64 (Keep.of_wr W65).1
  refine own_step st65 ?_
  show own_Run p e below T65 (mkF m 126 #[.val (.int p0), .val (.int p1), .val (.int p2), .unset, .unset] [(.ref b46)]) _
  refine own_step (fun t k => XS.dup X65.here hx rfl (hb hby at_126) rfl rfl k) ?_
  show own_Run p e below T65 (mkF m 127 #[.val (.int p0), .val (.int p1), .val (.int p2), .unset, .unset] [(.ref b46), (.ref b46)]) _
  refine own_step (fun t k => XS.bipush X65.here hx rfl (hb hby at_127) k) ?_
  show own_Run p e below T65 (mkF m 129 #[.val (.int p0), .val (.int p1), .val (.int p2), .unset, .unset] [(.int (19 : Int32)), (.ref b46), (.ref b46)]) _
  refine own_step (fun t k => XS.sipush X65.here hx rfl (hb hby at_129) k) ?_
  show own_Run p e below T65 (mkF m 132 #[.val (.int p0), .val (.int p1), .val (.int p2), .unset, .unset] [(.int (11264 : Int32)), (.int (19 : Int32)), (.ref b46), (.ref b46)]) _
  obtain ⟨T66, h66, L66, X66, e66, N66, W66, V66, st66⟩ := own_stI X65 hx hZ e65 V65x N65 geb46 (j := (19 : Int32)) ⟨by decide, by decide⟩ 19 rfl (Nat.le_of_ble_eq_true rfl) (g := (mkF m 132 #[.val (.int p0), .val (.int p1), .val (.int p2), .unset, .unset] [(.int (11264 : Int32)), (.int (19 : Int32)), (.ref b46), (.ref b46)])) rfl rfl (hb hby at_132)
  have V66x : Arv Z h66 b46 k46 .int (33 : Int32) [(.int (65 : Int32)), (.int (90 : Int32)), (.int (95 : Int32)), (.int (97 : Int32)), (.int (122 : Int32)), (.int (192 : Int32)), (.int (214 : Int32)), (.int (216 : Int32)), (.int (246 : Int32)), (.int (248 : Int32)), (.int (767 : Int32)), (.int (880 : Int32)), (.int (893 : Int32)), (.int (895 : Int32)), (.int (8191 : Int32)), (.int (8204 : Int32)), (.int (8205 : Int32)), (.int (8304 : Int32)), (.int (8591 : Int32)), (.int (11264 : Int32)), (.int (0 : Int32)), (.int (0 : Int32)), (.int (0 : Int32)), (.int (0 : Int32)), (.int (0 : Int32)), (.int (0 : Int32)), (.int (0 : Int32)), (.int (0 : Int32)), (.int (0 : Int32)), (.int (0 : Int32)), (.int (0 : Int32)), (.int (0 : Int32)), (.int (0 : Int32))] (.int (0 : Int32)) := V66
  have Zn66 : n0 ≤ h66.size := Nat.le_trans Zn65 (Keep.of_wr W66).1
  refine own_step st66 ?_
  show own_Run p e below T66 (mkF m 133 #[.val (.int p0), .val (.int p1), .val (.int p2), .unset, .unset] [(.ref b46)]) _
  refine own_step (fun t k => XS.dup X66.here hx rfl (hb hby at_133) rfl rfl k) ?_
  show own_Run p e below T66 (mkF m 134 #[.val (.int p0), .val (.int p1), .val (.int p2), .unset, .unset] [(.ref b46), (.ref b46)]) _
  refine own_step (fun t k => XS.bipush X66.here hx rfl (hb hby at_134) k) ?_
  show own_Run p e below T66 (mkF m 136 #[.val (.int p0), .val (.int p1), .val (.int p2), .unset, .unset] [(.int (20 : Int32)), (.ref b46), (.ref b46)]) _
  refine own_step (fun t k => XS.sipush X66.here hx rfl (hb hby at_136) k) ?_
  show own_Run p e below T66 (mkF m 139 #[.val (.int p0), .val (.int p1), .val (.int p2), .unset, .unset] [(.int (12271 : Int32)), (.int (20 : Int32)), (.ref b46), (.ref b46)]) _
  obtain ⟨T67, h67, L67, X67, e67, N67, W67, V67, st67⟩ := own_stI X66 hx hZ e66 V66x N66 geb46 (j := (20 : Int32)) ⟨by decide, by decide⟩ 20 rfl (Nat.le_of_ble_eq_true rfl) (g := (mkF m 139 #[.val (.int p0), .val (.int p1), .val (.int p2), .unset, .unset] [(.int (12271 : Int32)), (.int (20 : Int32)), (.ref b46), (.ref b46)])) rfl rfl (hb hby at_139)
  have V67x : Arv Z h67 b46 k46 .int (33 : Int32) [(.int (65 : Int32)), (.int (90 : Int32)), (.int (95 : Int32)), (.int (97 : Int32)), (.int (122 : Int32)), (.int (192 : Int32)), (.int (214 : Int32)), (.int (216 : Int32)), (.int (246 : Int32)), (.int (248 : Int32)), (.int (767 : Int32)), (.int (880 : Int32)), (.int (893 : Int32)), (.int (895 : Int32)), (.int (8191 : Int32)), (.int (8204 : Int32)), (.int (8205 : Int32)), (.int (8304 : Int32)), (.int (8591 : Int32)), (.int (11264 : Int32)), (.int (12271 : Int32)), (.int (0 : Int32)), (.int (0 : Int32)), (.int (0 : Int32)), (.int (0 : Int32)), (.int (0 : Int32)), (.int (0 : Int32)), (.int (0 : Int32)), (.int (0 : Int32)), (.int (0 : Int32)), (.int (0 : Int32)), (.int (0 : Int32)), (.int (0 : Int32))] (.int (0 : Int32)) := V67
  have Zn67 : n0 ≤ h67.size := Nat.le_trans Zn66 (Keep.of_wr W67).1
  refine own_step st67 ?_
  show own_Run p e below T67 (mkF m 140 #[.val (.int p0), .val (.int p1), .val (.int p2), .unset, .unset] [(.ref b46)]) _
  refine own_step (fun t k => XS.dup X67.here hx rfl (hb hby at_140) rfl rfl k) ?_
  show own_Run p e below T67 (mkF m 141 #[.val (.int p0), .val (.int p1), .val (.int p2), .unset, .unset] [(.ref b46), (.ref b46)]) _
  refine own_step (fun t k => XS.bipush X67.here hx rfl (hb hby at_141) k) ?_
  show own_Run p e below T67 (mkF m 143 #[.val (.int p0), .val (.int p1), .val (.int p2), .unset, .unset] [(.int (21 : Int32)), (.ref b46), (.ref b46)]) _
  refine own_step (fun t k => XS.sipush X67.here hx rfl (hb hby at_143) k) ?_
  show own_Run p e below T67 (mkF m 146 #[.val (.int p0), .val (.int p1), .val (.int p2), .unset, .unset] [(.int (12289 : Int32)), (.int (21 : Int32)), (.ref b46), (.ref b46)]) _
  obtain ⟨T68, h68, L68, X68, e68, N68, W68, V68, st68⟩ := own_stI X67 hx hZ e67 V67x N67 geb46 (j := (21 : Int32)) ⟨by decide, by decide⟩ 21 rfl (Nat.le_of_ble_eq_true rfl) (g := (mkF m 146 #[.val (.int p0), .val (.int p1), .val (.int p2), .unset, .unset] [(.int (12289 : Int32)), (.int (21 : Int32)), (.ref b46), (.ref b46)])) rfl rfl (hb hby at_146)
  have V68x : Arv Z h68 b46 k46 .int (33 : Int32) [(.int (65 : Int32)), (.int (90 : Int32)), (.int (95 : Int32)), (.int (97 : Int32)), (.int (122 : Int32)), (.int (192 : Int32)), (.int (214 : Int32)), (.int (216 : Int32)), (.int (246 : Int32)), (.int (248 : Int32)), (.int (767 : Int32)), (.int (880 : Int32)), (.int (893 : Int32)), (.int (895 : Int32)), (.int (8191 : Int32)), (.int (8204 : Int32)), (.int (8205 : Int32)), (.int (8304 : Int32)), (.int (8591 : Int32)), (.int (11264 : Int32)), (.int (12271 : Int32)), (.int (12289 : Int32)), (.int (0 : Int32)), (.int (0 : Int32)), (.int (0 : Int32)), (.int (0 : Int32)), (.int (0 : Int32)), (.int (0 : Int32)), (.int (0 : Int32)), (.int (0 : Int32)), (.int (0 : Int32)), (.int (0 : Int32)), (.int (0 : Int32))] (.int (0 : Int32)) := V68
  have Zn68 : n0 ≤ h68.size := Nat.le_trans Zn67 (Keep.of_wr W68).1
  refine own_step st68 ?_
  show own_Run p e below T68 (mkF m 147 #[.val (.int p0), .val (.int p1), .val (.int p2), .unset, .unset] [(.ref b46)]) _
  refine own_step (fun t k => XS.dup X68.here hx rfl (hb hby at_147) rfl rfl k) ?_
  show own_Run p e below T68 (mkF m 148 #[.val (.int p0), .val (.int p1), .val (.int p2), .unset, .unset] [(.ref b46), (.ref b46)]) _
  refine own_step (fun t k => XS.bipush X68.here hx rfl (hb hby at_148) k) ?_
  show own_Run p e below T68 (mkF m 150 #[.val (.int p0), .val (.int p1), .val (.int p2), .unset, .unset] [(.int (22 : Int32)), (.ref b46), (.ref b46)]) _
  refine own_step (fun t k => X68.ldcInt hx hown (mvT hZ (hw _ (List.mem_of_getElem? (i := 1) rfl))) (g := (mkF m 150 #[.val (.int p0), .val (.int p1), .val (.int p2), .unset, .unset] [(.int (22 : Int32)), (.ref b46), (.ref b46)])) rfl (hb hby at_150) t k) ?_
  show own_Run p e below T68 (mkF m 152 #[.val (.int p0), .val (.int p1), .val (.int p2), .unset, .unset] [(.int (55295 : Int32)), (.int (22 : Int32)), (.ref b46), (.ref b46)]) _
  obtain ⟨T69, h69, L69, X69, e69, N69, W69, V69, st69⟩ := own_stI X68 hx hZ e68 V68x N68 geb46 (j := (22 : Int32)) ⟨by decide, by decide⟩ 22 rfl (Nat.le_of_ble_eq_true rfl) (g := (mkF m 152 #[.val (.int p0), .val (.int p1), .val (.int p2), .unset, .unset] [(.int (55295 : Int32)), (.int (22 : Int32)), (.ref b46), (.ref b46)])) rfl rfl (hb hby at_152)
  have V69x : Arv Z h69 b46 k46 .int (33 : Int32) [(.int (65 : Int32)), (.int (90 : Int32)), (.int (95 : Int32)), (.int (97 : Int32)), (.int (122 : Int32)), (.int (192 : Int32)), (.int (214 : Int32)), (.int (216 : Int32)), (.int (246 : Int32)), (.int (248 : Int32)), (.int (767 : Int32)), (.int (880 : Int32)), (.int (893 : Int32)), (.int (895 : Int32)), (.int (8191 : Int32)), (.int (8204 : Int32)), (.int (8205 : Int32)), (.int (8304 : Int32)), (.int (8591 : Int32)), (.int (11264 : Int32)), (.int (12271 : Int32)), (.int (12289 : Int32)), (.int (55295 : Int32)), (.int (0 : Int32)), (.int (0 : Int32)), (.int (0 : Int32)), (.int (0 : Int32)), (.int (0 : Int32)), (.int (0 : Int32)), (.int (0 : Int32)), (.int (0 : Int32)), (.int (0 : Int32)), (.int (0 : Int32))] (.int (0 : Int32)) := V69
  have Zn69 : n0 ≤ h69.size := Nat.le_trans Zn68 (Keep.of_wr W69).1
  refine own_step st69 ?_
  show own_Run p e below T69 (mkF m 153 #[.val (.int p0), .val (.int p1), .val (.int p2), .unset, .unset] [(.ref b46)]) _
  refine own_step (fun t k => XS.dup X69.here hx rfl (hb hby at_153) rfl rfl k) ?_
  show own_Run p e below T69 (mkF m 154 #[.val (.int p0), .val (.int p1), .val (.int p2), .unset, .unset] [(.ref b46), (.ref b46)]) _
  refine own_step (fun t k => XS.bipush X69.here hx rfl (hb hby at_154) k) ?_
  show own_Run p e below T69 (mkF m 156 #[.val (.int p0), .val (.int p1), .val (.int p2), .unset, .unset] [(.int (23 : Int32)), (.ref b46), (.ref b46)]) _
  refine own_step (fun t k => X69.ldcInt hx hown (mvT hZ (hw _ (List.mem_of_getElem? (i := 2) rfl))) (g := (mkF m 156 #[.val (.int p0), .val (.int p1), .val (.int p2), .unset, .unset] [(.int (23 : Int32)), (.ref b46), (.ref b46)])) rfl (hb hby at_156) t k) ?_
  show own_Run p e below T69 (mkF m 158 #[.val (.int p0), .val (.int p1), .val (.int p2), .unset, .unset] [(.int (63744 : Int32)), (.int (23 : Int32)), (.ref b46), (.ref b46)]) _
  obtain ⟨T70, h70, L70, X70, e70, N70, W70, V70, st70⟩ := own_stI X69 hx hZ e69 V69x N69 geb46 (j := (23 : Int32)) ⟨by decide, by decide⟩ 23 rfl (Nat.le_of_ble_eq_true rfl) (g := (mkF m 158 #[.val (.int p0), .val (.int p1), .val (.int p2), .unset, .unset] [(.int (63744 : Int32)), (.int (23 : Int32)), (.ref b46), (.ref b46)])) rfl rfl (hb hby at_158)
  have V70x : Arv Z h70 b46 k46 .int (33 : Int32) [(.int (65 : Int32)), (.int (90 : Int32)), (.int (95 : Int32)), (.int (97 : Int32)), (.int (122 : Int32)), (.int (192 : Int32)), (.int (214 : Int32)), (.int (216 : Int32)), (.int (246 : Int32)), (.int (248 : Int32)), (.int (767 : Int32)), (.int (880 : Int32)), (.int (893 : Int32)), (.int (895 : Int32)), (.int (8191 : Int32)), (.int (8204 : Int32)), (.int (8205 : Int32)), (.int (8304 : Int32)), (.int (8591 : Int32)), (.int (11264 : Int32)), (.int (12271 : Int32)), (.int (12289 : Int32)), (.int (55295 : Int32)), (.int (63744 : Int32)), (.int (0 : Int32)), (.int (0 : Int32)), (.int (0 : Int32)), (.int (0 : Int32)), (.int (0 : Int32)), (.int (0 : Int32)), (.int (0 : Int32)), (.int (0 : Int32)), (.int (0 : Int32))] (.int (0 : Int32)) := V70
  have Zn70 : n0 ≤ h70.size := Nat.le_trans Zn69 (Keep.of_wr W70).1
  refine own_step st70 ?_
  show own_Run p e below T70 (mkF m 159 #[.val (.int p0), .val (.int p1), .val (.int p2), .unset, .unset] [(.ref b46)]) _
  refine own_step (fun t k => XS.dup X70.here hx rfl (hb hby at_159) rfl rfl k) ?_
  show own_Run p e below T70 (mkF m 160 #[.val (.int p0), .val (.int p1), .val (.int p2), .unset, .unset] [(.ref b46), (.ref b46)]) _
  refine own_step (fun t k => XS.bipush X70.here hx rfl (hb hby at_160) k) ?_
  show own_Run p e below T70 (mkF m 162 #[.val (.int p0), .val (.int p1), .val (.int p2), .unset, .unset] [(.int (24 : Int32)), (.ref b46), (.ref b46)]) _
  refine own_step (fun t k => X70.ldcInt hx hown (mvT hZ (hw _ (List.mem_of_getElem? (i := 3) rfl))) (g := (mkF m 162 #[.val (.int p0), .val (.int p1), .val (.int p2), .unset, .unset] [(.int (24 : Int32)), (.ref b46), (.ref b46)])) rfl (hb hby at_162) t k) ?_
  show own_Run p e below T70 (mkF m 164 #[.val (.int p0), .val (.int p1), .val (.int p2), .unset, .unset] [(.int (64975 : Int32)), (.int (24 : Int32)), (.ref b46), (.ref b46)]) _
  obtain ⟨T71, h71, L71, X71, e71, N71, W71, V71, st71⟩ := own_stI X70 hx hZ e70 V70x N70 geb46 (j := (24 : Int32)) ⟨by decide, by decide⟩ 24 rfl (Nat.le_of_ble_eq_true rfl) (g := (mkF m 164 #[.val (.int p0), .val (.int p1), .val (.int p2), .unset, .unset] [(.int (64975 : Int32)), (.int (24 : Int32)), (.ref b46), (.ref b46)])) rfl rfl (hb hby at_164)
  have V71x : Arv Z h71 b46 k46 .int (33 : Int32) [(.int (65 : Int32)), (.int (90 : Int32)), (.int (95 : Int32)), (.int (97 : Int32)), (.int (122 : Int32)), (.int (192 : Int32)), (.int (214 : Int32)), (.int (216 : Int32)), (.int (246 : Int32)), (.int (248 : Int32)), (.int (767 : Int32)), (.int (880 : Int32)), (.int (893 : Int32)), (.int (895 : Int32)), (.int (8191 : Int32)), (.int (8204 : Int32)), (.int (8205 : Int32)), (.int (8304 : Int32)), (.int (8591 : Int32)), (.int (11264 : Int32)), (.int (12271 : Int32)), (.int (12289 : Int32)), (.int (55295 : Int32)), (.int (63744 : Int32)), (.int (64975 : Int32)), (.int (0 : Int32)), (.int (0 : Int32)), (.int (0 : Int32)), (.int (0 : Int32)), (.int (0 : Int32)), (.int (0 : Int32)), (.int (0 : Int32)), (.int (0 : Int32))] (.int (0 : Int32)) := V71
  have Zn71 : n0 ≤ h71.size := Nat.le_trans Zn70 (Keep.of_wr W71).1
  refine own_step st71 ?_
  show own_Run p e below T71 (mkF m 165 #[.val (.int p0), .val (.int p1), .val (.int p2), .unset, .unset] [(.ref b46)]) _
  refine own_step (fun t k => XS.dup X71.here hx rfl (hb hby at_165) rfl rfl k) ?_
  show own_Run p e below T71 (mkF m 166 #[.val (.int p0), .val (.int p1), .val (.int p2), .unset, .unset] [(.ref b46), (.ref b46)]) _
  refine own_step (fun t k => XS.bipush X71.here hx rfl (hb hby at_166) k) ?_
  show own_Run p e below T71 (mkF m 168 #[.val (.int p0), .val (.int p1), .val (.int p2), .unset, .unset] [(.int (25 : Int32)), (.ref b46), (.ref b46)]) _
  refine own_step (fun t k => X71.ldcInt hx hown (mvT hZ (hw _ (List.mem_of_getElem? (i := 4) rfl))) (g := (mkF m 168 #[.val (.int p0), .val (.int p1), .val (.int p2), .unset, .unset] [(.int (25 : Int32)), (.ref b46), (.ref b46)])) rfl (hb hby at_168) t k) ?_
  show own_Run p e below T71 (mkF m 170 #[.val (.int p0), .val (.int p1), .val (.int p2), .unset, .unset] [(.int (65008 : Int32)), (.int (25 : Int32)), (.ref b46), (.ref b46)]) _
  obtain ⟨T72, h72, L72, X72, e72, N72, W72, V72, st72⟩ := own_stI X71 hx hZ e71 V71x N71 geb46 (j := (25 : Int32)) ⟨by decide, by decide⟩ 25 rfl (Nat.le_of_ble_eq_true rfl) (g := (mkF m 170 #[.val (.int p0), .val (.int p1), .val (.int p2), .unset, .unset] [(.int (65008 : Int32)), (.int (25 : Int32)), (.ref b46), (.ref b46)])) rfl rfl (hb hby at_170)
  have V72x : Arv Z h72 b46 k46 .int (33 : Int32) [(.int (65 : Int32)), (.int (90 : Int32)), (.int (95 : Int32)), (.int (97 : Int32)), (.int (122 : Int32)), (.int (192 : Int32)), (.int (214 : Int32)), (.int (216 : Int32)), (.int (246 : Int32)), (.int (248 : Int32)), (.int (767 : Int32)), (.int (880 : Int32)), (.int (893 : Int32)), (.int (895 : Int32)), (.int (8191 : Int32)), (.int (8204 : Int32)), (.int (8205 : Int32)), (.int (8304 : Int32)), (.int (8591 : Int32)), (.int (11264 : Int32)), (.int (12271 : Int32)), (.int (12289 : Int32)), (.int (55295 : Int32)), (.int (63744 : Int32)), (.int (64975 : Int32)), (.int (65008 : Int32)), (.int (0 : Int32)), (.int (0 : Int32)), (.int (0 : Int32)), (.int (0 : Int32)), (.int (0 : Int32)), (.int (0 : Int32)), (.int (0 : Int32))] (.int (0 : Int32)) := V72
  have Zn72 : n0 ≤ h72.size := Nat.le_trans Zn71 (Keep.of_wr W72).1
  refine own_step st72 ?_
  show own_Run p e below T72 (mkF m 171 #[.val (.int p0), .val (.int p1), .val (.int p2), .unset, .unset] [(.ref b46)]) _
  refine own_step (fun t k => XS.dup X72.here hx rfl (hb hby at_171) rfl rfl k) ?_
  show own_Run p e below T72 (mkF m 172 #[.val (.int p0), .val (.int p1), .val (.int p2), .unset, .unset] [(.ref b46), (.ref b46)]) _
  refine own_step (fun t k => XS.bipush X72.here hx rfl (hb hby at_172) k) ?_
  show own_Run p e below T72 (mkF m 174 #[.val (.int p0), .val (.int p1), .val (.int p2), .unset, .unset] [(.int (26 : Int32)), (.ref b46), (.ref b46)]) _
  refine own_step (fun t k => X72.ldcInt hx hown (mvT hZ (hw _ (List.mem_of_getElem? (i := 5) rfl))) (g := (mkF m 174 #[.val (.int p0), .val (.int p1), .val (.int p2), .unset, .unset] [(.int (26 : Int32)), (.ref b46), (.ref b46)])) rfl (hb hby at_174) t k) ?_
  show own_Run p e below T72 (mkF m 176 #[.val (.int p0), .val (.int p1), .val (.int p2), .unset, .unset] [(.int (65533 : Int32)), (.int (26 : Int32)), (.ref b46), (.ref b46)]) _
  obtain ⟨T73, h73, L73, X73, e73, N73, W73, V73, st73⟩ := own_stI X72 hx hZ e72 V72x N72 geb46 (j := (26 : Int32)) ⟨by decide, by decide⟩ 26 rfl (Nat.le_of_ble_eq_true rfl) (g := (mkF m 176 #[.val (.int p0), .val (.int p1), .val (.int p2), .unset, .unset] [(.int (65533 : Int32)), (.int (26 : Int32)), (.ref b46), (.ref b46)])) rfl rfl (hb hby at_176)
  have V73x : Arv Z h73 b46 k46 .int (33 : Int32) [(.int (65 : Int32)), (.int (90 : Int32)), (.int (95 : Int32)), (.int (97 : Int32)), (.int (122 : Int32)), (.int (192 : Int32)), (.int (214 : Int32)), (.int (216 : Int32)), (.int (246 : Int32)), (.int (248 : Int32)), (.int (767 : Int32)), (.int (880 : Int32)), (.int (893 : Int32)), (.int (895 : Int32)), (.int (8191 : Int32)), (.int (8204 : Int32)), (.int (8205 : Int32)), (.int (8304 : Int32)), (.int (8591 : Int32)), (.int (11264 : Int32)), (.int (12271 : Int32)), (.int (12289 : Int32)), (.int (55295 : Int32)), (.int (63744 : Int32)), (.int (64975 : Int32)), (.int (65008 : Int32)), (.int (65533 : Int32)), (.int (0 : Int32)), (.int (0 : Int32)), (.int (0 : Int32)), (.int (0 : Int32)), (.int (0 : Int32)), (.int (0 : Int32))] (.int (0 : Int32)) := V73
  have Zn73 : n0 ≤ h73.size := Nat.le_trans Zn72 (Keep.of_wr W73).1
  refine own_step st73 ?_
  show own_Run p e below T73 (mkF m 177 #[.val (.int p0), .val (.int p1), .val (.int p2), .unset, .unset] [(.ref b46)]) _
  refine own_step (fun t k => XS.dup X73.here hx rfl (hb hby at_177) rfl rfl k) ?_
  show own_Run p e below T73 (mkF m 178 #[.val (.int p0), .val (.int p1), .val (.int p2), .unset, .unset] [(.ref b46), (.ref b46)]) _
  refine own_step (fun t k => XS.bipush X73.here hx rfl (hb hby at_178) k) ?_
  show own_Run p e below T73 (mkF m 180 #[.val (.int p0), .val (.int p1), .val (.int p2), .unset, .unset] [(.int (27 : Int32)), (.ref b46), (.ref b46)]) _
  refine own_step (fun t k => X73.ldcInt hx hown (mvT hZ (hw _ (List.mem_of_getElem? (i := 6) rfl))) (g := (mkF m 180 #[.val (.int p0), .val (.int p1), .val (.int p2), .unset, .unset] [(.int (27 : Int32)), (.ref b46), (.ref b46)])) rfl (hb hby at_180) t k) ?_
  show own_Run p e below T73 (mkF m 182 #[.val (.int p0), .val (.int p1), .val (.int p2), .unset, .unset] [(.int (65536 : Int32)), (.int (27 : Int32)), (.ref b46), (.ref b46)]) _
  obtain ⟨T74, h74, L74, X74, e74, N74, W74, V74, st74⟩ := own_stI X73 hx hZ e73 V73x N73 geb46 (j := (27 : Int32)) ⟨by decide, by decide⟩ 27 rfl (Nat.le_of_ble_eq_true rfl) (g := (mkF m 182 #[.val (.int p0), .val (.int p1), .val (.int p2), .unset, .unset] [(.int (65536 : Int32)), (.int (27 : Int32)), (.ref b46), (.ref b46)])) rfl rfl (hb hby at_182)
  have V74x : Arv Z h74 b46 k46 .int (33 : Int32) [(.int (65 : Int32)), (.int (90 : Int32)), (.int (95 : Int32)), (.int (97 : Int32)), (.int (122 : Int32)), (.int (192 : Int32)), (.int (214 : Int32)), (.int (216 : Int32)), (.int (246 : Int32)), (.int (248 : Int32)), (.int (767 : Int32)), (.int (880 : Int32)), (.int (893 : Int32)), (.int (895 : Int32)), (.int (8191 : Int32)), (.int (8204 : Int32)), (.int (8205 : Int32)), (.int (8304 : Int32)), (.int (8591 : Int32)), (.int (11264 : Int32)), (.int (12271 : Int32)), (.int (12289 : Int32)), (.int (55295 : Int32)), (.int (63744 : Int32)), (.int (64975 : Int32)), (.int (65008 : Int32)), (.int (65533 : Int32)), (.int (65536 : Int32)), (.int (0 : Int32)), (.int (0 : Int32)), (.int (0 : Int32)), (.int (0 : Int32)), (.int (0 : Int32))] (.int (0 : Int32)) := V74
  have Zn74 : n0 ≤ h74.size := Nat.le_trans Zn73 (Keep.of_wr W74).1
  refine own_step st74 ?_
  show own_Run p e below T74 (mkF m 183 #[.val (.int p0), .val (.int p1), .val (.int p2), .unset, .unset] [(.ref b46)]) _
  refine own_step (fun t k => XS.dup X74.here hx rfl (hb hby at_183) rfl rfl k) ?_
  show own_Run p e below T74 (mkF m 184 #[.val (.int p0), .val (.int p1), .val (.int p2), .unset, .unset] [(.ref b46), (.ref b46)]) _
  refine own_step (fun t k => XS.bipush X74.here hx rfl (hb hby at_184) k) ?_
  show own_Run p e below T74 (mkF m 186 #[.val (.int p0), .val (.int p1), .val (.int p2), .unset, .unset] [(.int (28 : Int32)), (.ref b46), (.ref b46)]) _
  refine own_step (fun t k => X74.ldcInt hx hown (mvT hZ (hw _ (List.mem_of_getElem? (i := 7) rfl))) (g := (mkF m 186 #[.val (.int p0), .val (.int p1), .val (.int p2), .unset, .unset] [(.int (28 : Int32)), (.ref b46), (.ref b46)])) rfl (hb hby at_186) t k) ?_
  show own_Run p e below T74 (mkF m 188 #[.val (.int p0), .val (.int p1), .val (.int p2), .unset, .unset] [(.int (983039 : Int32)), (.int (28 : Int32)), (.ref b46), (.ref b46)]) _
  obtain ⟨T75, h75, L75, X75, e75, N75, W75, V75, st75⟩ := own_stI X74 hx hZ e74 V74x N74 geb46 (j := (28 : Int32)) ⟨by decide, by decide⟩ 28 rfl (Nat.le_of_ble_eq_true rfl) (g := (mkF m 188 #[.val (.int p0), .val (.int p1), .val (.int p2), .unset, .unset] [(.int (983039 : Int32)), (.int (28 : Int32)), (.ref b46), (.ref b46)])) rfl rfl (hb hby at_188)
  have V75x : Arv Z h75 b46 k46 .int (33 : Int32) [(.int (65 : Int32)), (.int (90 : Int32)), (.int (95 : Int32)), (.int (97 : Int32)), (.int (122 : Int32)), (.int (192 : Int32)), (.int (214 : Int32)), (.int (216 : Int32)), (.int (246 : Int32)), (.int (248 : Int32)), (.int (767 : Int32)), (.int (880 : Int32)), (.int (893 : Int32)), (.int (895 : Int32)), (.int (8191 : Int32)), (.int (8204 : Int32)), (.int (8205 : Int32)), (.int (8304 : Int32)), (.int (8591 : Int32)), (.int (11264 : Int32)), (.int (12271 : Int32)), (.int (12289 : Int32)), (.int (55295 : Int32)), (.int (63744 : Int32)), (.int (64975 : Int32)), (.int (65008 : Int32)), (.int (65533 : Int32)), (.int (65536 : Int32)), (.int (983039 : Int32)), (.int (0 : Int32)), (.int (0 : Int32)), (.int (0 : Int32)), (.int (0 : Int32))] (.int (0 : Int32)) := V75
  have Zn75 : n0 ≤ h75.size := Nat.le_trans Zn74 (Keep.of_wr W75).1
  refine own_step st75 ?_
  show own_Run p e below T75 (mkF m 189 #[.val (.int p0), .val (.int p1), .val (.int p2), .unset, .unset] [(.ref b46)]) _
  refine own_step (fun t k => XS.dup X75.here hx rfl (hb hby at_189) rfl rfl k) ?_
  show own_Run p e below T75 (mkF m 190 #[.val (.int p0), .val (.int p1), .val (.int p2), .unset, .unset] [(.ref b46), (.ref b46)]) _
  refine own_step (fun t k => XS.bipush X75.here hx rfl (hb hby at_190) k) ?_
  show own_Run p e below T75 (mkF m 192 #[.val (.int p0), .val (.int p1), .val (.int p2), .unset, .unset] [(.int (29 : Int32)), (.ref b46), (.ref b46)]) _
  refine own_step (fun t k => XS.bipush X75.here hx rfl (hb hby at_192) k) ?_
  show own_Run p e below T75 (mkF m 194 #[.val (.int p0), .val (.int p1), .val (.int p2), .unset, .unset] [(.int (58 : Int32)), (.int (29 : Int32)), (.ref b46), (.ref b46)]) _
  obtain ⟨T76, h76, L76, X76, e76, N76, W76, V76, st76⟩ := own_stI X75 hx hZ e75 V75x N75 geb46 (j := (29 : Int32)) ⟨by decide, by decide⟩ 29 rfl (Nat.le_of_ble_eq_true rfl) (g := (mkF m 194 #[.val (.int p0), .val (.int p1), .val (.int p2), .unset, .unset] [(.int (58 : Int32)), (.int (29 : Int32)), (.ref b46), (.ref b46)])) rfl rfl (hb hby at_194)
  have V76x : Arv Z h76 b46 k46 .int (33 : Int32) [(.int (65 : Int32)), (.int (90 : Int32)), (.int (95 : Int32)), (.int (97 : Int32)), (.int (122 : Int32)), (.int (192 : Int32)), (.int (214 : Int32)), (.int (216 : Int32)), (.int (246 : Int32)), (.int (248 : Int32)), (.int (767 : Int32)), (.int (880 : Int32)), (.int (893 : Int32)), (.int (895 : Int32)), (.int (8191 : Int32)), (.int (8204 : Int32)), (.int (8205 : Int32)), (.int (8304 : Int32)), (.int (8591 : Int32)), (.int (11264 : Int32)), (.int (12271 : Int32)), (.int (12289 : Int32)), (.int (55295 : Int32)), (.int (63744 : Int32)), (.int (64975 : Int32)), (.int (65008 : Int32)), (.int (65533 : Int32)), (.int (65536 : Int32)), (.int (983039 : Int32)), (.int (58 : Int32)), (.int (0 : Int32)), (.int (0 : Int32)), (.int (0 : Int32))] (.int (0 : Int32)) := V76
  have Zn76 : n0 ≤ h76.size := Nat.le_trans Zn75 (Keep.of_wr W76).1
  refine own_step st76 ?_
  show own_Run p e below T76 (mkF m 195 #[.val (.int p0), .val (.int p1), .val (.int p2), .unset, .unset] [(.ref b46)]) _
  refine own_step (fun t k => XS.dup X76.here hx rfl (hb hby at_195) rfl rfl k) ?_
  show own_Run p e below T76 (mkF m 196 #[.val (.int p0), .val (.int p1), .val (.int p2), .unset, .unset] [(.ref b46), (.ref b46)]) _
  refine own_step (fun t k => XS.bipush X76.here hx rfl (hb hby at_196) k) ?_
  show own_Run p e below T76 (mkF m 198 #[.val (.int p0), .val (.int p1), .val (.int p2), .unset, .unset] [(.int (30 : Int32)), (.ref b46), (.ref b46)]) _
  refine own_step (fun t k => XS.iconst X76.here hx rfl (hb hby at_198) k) ?_
  show own_Run p e below T76 (mkF m 199 #[.val (.int p0), .val (.int p1), .val (.int p2), .unset, .unset] [(.int (0 : Int32)), (.int (30 : Int32)), (.ref b46), (.ref b46)]) _
  obtain ⟨T77, h77, L77, X77, e77, N77, W77, V77, st77⟩ := own_stI X76 hx hZ e76 V76x N76 geb46 (j := (30 : Int32)) ⟨by decide, by decide⟩ 30 rfl (Nat.le_of_ble_eq_true rfl) (g := (mkF m 199 #[.val (.int p0), .val (.int p1), .val (.int p2), .unset, .unset] [(.int (0 : Int32)), (.int (30 : Int32)), (.ref b46), (.ref b46)])) rfl rfl (hb hby at_199)
  have V77x : Arv Z h77 b46 k46 .int (33 : Int32) [(.int (65 : Int32)), (.int (90 : Int32)), (.int (95 : Int32)), (.int (97 : Int32)), (.int (122 : Int32)), (.int (192 : Int32)), (.int (214 : Int32)), (.int (216 : Int32)), (.int (246 : Int32)), (.int (248 : Int32)), (.int (767 : Int32)), (.int (880 : Int32)), (.int (893 : Int32)), (.int (895 : Int32)), (.int (8191 : Int32)), (.int (8204 : Int32)), (.int (8205 : Int32)), (.int (8304 : Int32)), (.int (8591 : Int32)), (.int (11264 : Int32)), (.int (12271 : Int32)), (.int (12289 : Int32)), (.int (55295 : Int32)), (.int (63744 : Int32)), (.int (64975 : Int32)), (.int (65008 : Int32)), (.int (65533 : Int32)), (.int (65536 : Int32)), (.int (983039 : Int32)), (.int (58 : Int32)), (.int (0 : Int32)), (.int (0 : Int32)), (.int (0 : Int32))] (.int (0 : Int32)) := V77
  have Zn77 : n0 ≤ h77.size := Nat.le_trans Zn76 (Keep.of_wr W77).1
  refine own_step st77 ?_
  show own_Run p e below T77 (mkF m 200 #[.val (.int p0), .val (.int p1), .val (.int p2), .unset, .unset] [(.ref b46)]) _
  refine own_step (fun t k => XS.dup X77.here hx rfl (hb hby at_200) rfl rfl k) ?_
  show own_Run p e below T77 (mkF m 201 #[.val (.int p0), .val (.int p1), .val (.int p2), .unset, .unset] [(.ref b46), (.ref b46)]) _
  refine own_step (fun t k => XS.bipush X77.here hx rfl (hb hby at_201) k) ?_
  show own_Run p e below T77 (mkF m 203 #[.val (.int p0), .val (.int p1), .val (.int p2), .unset, .unset] [(.int (31 : Int32)), (.ref b46), (.ref b46)]) _
  refine own_step (fun t k => X77.ldcInt hx hown (mvT hZ (hw _ (List.mem_of_getElem? (i := 8) rfl))) (g := (mkF m 203 #[.val (.int p0), .val (.int p1), .val (.int p2), .unset, .unset] [(.int (31 : Int32)), (.ref b46), (.ref b46)])) rfl (hb hby at_203) t k) ?_
  show own_Run p e below T77 (mkF m 205 #[.val (.int p0), .val (.int p1), .val (.int p2), .unset, .unset] [(.int (-2147483647 : Int32)), (.int (31 : Int32)), (.ref b46), (.ref b46)]) _
  obtain ⟨T78, h78, L78, X78, e78, N78, W78, V78, st78⟩ := own_stI X77 hx hZ e77 V77x N77 geb46 (j := (31 : Int32)) ⟨by decide, by decide⟩ 31 rfl (Nat.le_of_ble_eq_true rfl) (g := (mkF m 205 #[.val (.int p0), .val (.int p1), .val (.int p2), .unset, .unset] [(.int (-2147483647 : Int32)), (.int (31 : Int32)), (.ref b46), (.ref b46)])) rfl rfl (hb hby at_205)
  have V78x : Arv Z h78 b46 k46 .int (33 : Int32) [(.int (65 : Int32)), (.int (90 : Int32)), (.int (95 : Int32)), (.int (97 : Int32)), (.int (122 : Int32)), (.int (192 : Int32)), (.int (214 : Int32)), (.int (216 : Int32)), (.int (246 : Int32)), (.int (248 : Int32)), (.int (767 : Int32)), (.int (880 : Int32)), (.int (893 : Int32)), (.int (895 : Int32)), (.int (8191 : Int32)), (.int (8204 : Int32)), (.int (8205 : Int32)), (.int (8304 : Int32)), (.int (8591 : Int32)), (.int (11264 : Int32)), (.int (12271 : Int32)), (.int (12289 : Int32)), (.int (55295 : Int32)), (.int (63744 : Int32)), (.int (64975 : Int32)), (.int (65008 : Int32)), (.int (65533 : Int32)), (.int (65536 : Int32)), (.int (983039 : Int32)), (.int (58 : Int32)), (.int (0 : Int32)), (.int (-2147483647 : Int32)), (.int (0 : Int32))] (.int (0 : Int32)) := V78
  have Zn78 : n0 ≤ h78.size := Nat.le_trans Zn77 (Keep.of_wr W78).1
  refine own_step st78 ?_
  show own_Run p e below T78 (mkF m 206 #[.val (.int p0), .val (.int p1), .val (.int p2), .unset, .unset] [(.ref b46)]) _
  refine own_step (fun t k => XS.dup X78.here hx rfl (hb hby at_206) rfl rfl k) ?_
  show own_Run p e below T78 (mkF m 207 #[.val (.int p0), .val (.int p1), .val (.int p2), .unset, .unset] [(.ref b46), (.ref b46)]) _
  refine own_step (fun t k => XS.bipush X78.here hx rfl (hb hby at_207) k) ?_
  show own_Run p e below T78 (mkF m 209 #[.val (.int p0), .val (.int p1), .val (.int p2), .unset, .unset] [(.int (32 : Int32)), (.ref b46), (.ref b46)]) _
  refine own_step (fun t k => X78.ldcInt hx hown (mvT hZ (hw _ (List.mem_of_getElem? (i := 9) rfl))) (g := (mkF m 209 #[.val (.int p0), .val (.int p1), .val (.int p2), .unset, .unset] [(.int (32 : Int32)), (.ref b46), (.ref b46)])) rfl (hb hby at_209) t k) ?_
  show own_Run p e below T78 (mkF m 211 #[.val (.int p0), .val (.int p1), .val (.int p2), .unset, .unset] [(.int (2147483646 : Int32)), (.int (32 : Int32)), (.ref b46), (.ref b46)]) _
  obtain ⟨T79, h79, L79, X79, e79, N79, W79, V79, st79⟩ := own_stI X78 hx hZ e78 V78x N78 geb46 (j := (32 : Int32)) ⟨by decide, by decide⟩ 32 rfl (Nat.le_of_ble_eq_true rfl) (g := (mkF m 211 #[.val (.int p0), .val (.int p1), .val (.int p2), .unset, .unset] [(.int (2147483646 : Int32)), (.int (32 : Int32)), (.ref b46), (.ref b46)])) rfl rfl (hb hby at_211)
  have V79x : Arv Z h79 b46 k46 .int (33 : Int32) [(.int (65 : Int32)), (.int (90 : Int32)), (.int (95 : Int32)), (.int (97 : Int32)), (.int (122 : Int32)), (.int (192 : Int32)), (.int (214 : Int32)), (.int (216 : Int32)), (.int (246 : Int32)), (.int (248 : Int32)), (.int (767 : Int32)), (.int (880 : Int32)), (.int (893 : Int32)), (.int (895 : Int32)), (.int (8191 : Int32)), (.int (8204 : Int32)), (.int (8205 : Int32)), (.int (8304 : Int32)), (.int (8591 : Int32)), (.int (11264 : Int32)), (.int (12271 : Int32)), (.int (12289 : Int32)), (.int (55295 : Int32)), (.int (63744 : Int32)), (.int (64975 : Int32)), (.int (65008 : Int32)), (.int (65533 : Int32)), (.int (65536 : Int32)), (.int (983039 : Int32)), (.int (58 : Int32)), (.int (0 : Int32)), (.int (-2147483647 : Int32)), (.int (2147483646 : Int32))] (.int (0 : Int32)) := V79
  have Zn79 : n0 ≤ h79.size := Nat.le_trans Zn78 (Keep.of_wr W79).1
  refine own_step st79 ?_
  show own_Run p e below T79 (mkF m 212 #[.val (.int p0), .val (.int p1), .val (.int p2), .unset, .unset] [(.ref b46)]) _
  refine own_step (fun t k => XS.astoreN X79.here hx rfl (hb hby at_212) rfl rfl (l' := #[.val (.int p0), .val (.int p1), .val (.int p2), .val (.ref b46), .unset]) rfl k) ?_
  show own_Run p e below T79 (mkF m 213 #[.val (.int p0), .val (.int p1), .val (.int p2), .val (.ref b46), .unset] []) _
  refine own_step (fun t k => XS.aloadN X79.here hx rfl (hb hby at_213) rfl rfl k) ?_
  show own_Run p e below T79 (mkF m 214 #[.val (.int p0), .val (.int p1), .val (.int p2), .val (.ref b46), .unset] [(.ref b46)]) _
  refine own_step (fun t k => XS.iloadN X79.here hx rfl (hb hby at_214) rfl  k) ?_
  show own_Run p e below T79 (mkF m 215 #[.val (.int p0), .val (.int p1), .val (.int p2), .val (.ref b46), .unset] [(.int p1), (.ref b46)]) _
  refine own_step (fun t k => X79.ldcInt hx hown (mvT hZ (hw _ (List.mem_of_getElem? (i := 10) rfl))) (g := (mkF m 215 #[.val (.int p0), .val (.int p1), .val (.int p2), .val (.ref b46), .unset] [(.int p1), (.ref b46)])) rfl (hb hby at_215) t k) ?_
  show own_Run p e below T79 (mkF m 217 #[.val (.int p0), .val (.int p1), .val (.int p2), .val (.ref b46), .unset] [(.int (2147483647 : Int32)), (.int p1), (.ref b46)]) _
  refine own_step (fun t k => XS.iand X79.here hx rfl (hb hby at_217) rfl k) ?_
  show own_Run p e below T79 (mkF m 218 #[.val (.int p0), .val (.int p1), .val (.int p2), .val (.ref b46), .unset] [(.int (p1 &&& (2147483647 : Int32))), (.ref b46)]) _
  refine own_step (fun t k => XS.bipush X79.here hx rfl (hb hby at_218) k) ?_
  show own_Run p e below T79 (mkF m 220 #[.val (.int p0), .val (.int p1), .val (.int p2), .val (.ref b46), .unset] [(.int (33 : Int32)), (.int (p1 &&& (2147483647 : Int32))), (.ref b46)]) _
  refine own_step (fun t k => XS.irem X79.here hx rfl (hb hby at_220) rfl (by decide) k) ?_
  show own_Run p e below T79 (mkF m 221 #[.val (.int p0), .val (.int p1), .val (.int p2), .val (.ref b46), .unset] [(.int (own_rem (p1 &&& (2147483647 : Int32)) (33 : Int32))), (.ref b46)]) _
  refine own_step (own_ldI X79 hx hZ e79 V79x (j := (own_rem (p1 &&& (2147483647 : Int32)) (33 : Int32))) (v := (.int (own_bounds.getD ((own_rem (p1 &&& (2147483647 : Int32)) (33 : Int32))).toNatClampNeg 0))) (own_idx p1) (own_elem _) (g := (mkF m 221 #[.val (.int p0), .val (.int p1), .val (.int p2), .val (.ref b46), .unset] [(.int (own_rem (p1 &&& (2147483647 : Int32)) (33 : Int32))), (.ref b46)])) rfl rfl (hb hby at_221)) ?_
  show own_Run p e below T79 (mkF m 222 #[.val (.int p0), .val (.int p1), .val (.int p2), .val (.ref b46), .unset] [(.int (own_bounds.getD ((own_rem (p1 &&& (2147483647 : Int32)) (33 : Int32))).toNatClampNeg 0))]) _
  refine own_step (fun t k => XS.iloadN X79.here hx rfl (hb hby at_222) rfl  k) ?_
  show own_Run p e below T79 (mkF m 223 #[.val (.int p0), .val (.int p1), .val (.int p2), .val (.ref b46), .unset] [(.int p2), (.int (own_bounds.getD ((own_rem (p1 &&& (2147483647 : Int32)) (33 : Int32))).toNatClampNeg 0))]) _
  refine own_step (fun t k => X79.ldcInt hx hown (mvT hZ (hw _ (List.mem_of_getElem? (i := 10) rfl))) (g := (mkF m 223 #[.val (.int p0), .val (.int p1), .val (.int p2), .val (.ref b46), .unset] [(.int p2), (.int (own_bounds.getD ((own_rem (p1 &&& (2147483647 : Int32)) (33 : Int32))).toNatClampNeg 0))])) rfl (hb hby at_223) t k) ?_
  show own_Run p e below T79 (mkF m 225 #[.val (.int p0), .val (.int p1), .val (.int p2), .val (.ref b46), .unset] [(.int (2147483647 : Int32)), (.int p2), (.int (own_bounds.getD ((own_rem (p1 &&& (2147483647 : Int32)) (33 : Int32))).toNatClampNeg 0))]) _
  refine own_step (fun t k => XS.iand X79.here hx rfl (hb hby at_225) rfl k) ?_
  show own_Run p e below T79 (mkF m 226 #[.val (.int p0), .val (.int p1), .val (.int p2), .val (.ref b46), .unset] [(.int (p2 &&& (2147483647 : Int32))), (.int (own_bounds.getD ((own_rem (p1 &&& (2147483647 : Int32)) (33 : Int32))).toNatClampNeg 0))]) _
  refine own_step (fun t k => XS.iconst X79.here hx rfl (hb hby at_226) k) ?_
  show own_Run p e below T79 (mkF m 227 #[.val (.int p0), .val (.int p1), .val (.int p2), .val (.ref b46), .unset] [(.int (3 : Int32)), (.int (p2 &&& (2147483647 : Int32))), (.int (own_bounds.getD ((own_rem (p1 &&& (2147483647 : Int32)) (33 : Int32))).toNatClampNeg 0))]) _
  refine own_step (fun t k => XS.irem X79.here hx rfl (hb hby at_227) rfl (by decide) k) ?_
  show own_Run p e below T79 (mkF m 228 #[.val (.int p0), .val (.int p1), .val (.int p2), .val (.ref b46), .unset] [(.int (own_rem (p2 &&& (2147483647 : Int32)) (3 : Int32))), (.int (own_bounds.getD ((own_rem (p1 &&& (2147483647 : Int32)) (33 : Int32))).toNatClampNeg 0))]) _
  refine own_step (fun t k => XS.iconst X79.here hx rfl (hb hby at_228) k) ?_
  show own_Run p e below T79 (mkF m 229 #[.val (.int p0), .val (.int p1), .val (.int p2), .val (.ref b46), .unset] [(.int (1 : Int32)), (.int (own_rem (p2 &&& (2147483647 : Int32)) (3 : Int32))), (.int (own_bounds.getD ((own_rem (p1 &&& (2147483647 : Int32)) (33 : Int32))).toNatClampNeg 0))]) _
  refine own_step (fun t k => XS.isub X79.here hx rfl (hb hby at_229) rfl k) ?_
  show own_Run p e below T79 (mkF m 230 #[.val (.int p0), .val (.int p1), .val (.int p2), .val (.ref b46), .unset] [(.int ((own_rem (p2 &&& (2147483647 : Int32)) (3 : Int32)) - (1 : Int32))), (.int (own_bounds.getD ((own_rem (p1 &&& (2147483647 : Int32)) (33 : Int32))).toNatClampNeg 0))]) _
  refine own_step (fun t k => XS.iadd X79.here hx rfl (hb hby at_230) rfl k) ?_
  show own_Run p e below T79 (mkF m 231 #[.val (.int p0), .val (.int p1), .val (.int p2), .val (.ref b46), .unset] [(.int ((own_bounds.getD ((own_rem (p1 &&& (2147483647 : Int32)) (33 : Int32))).toNatClampNeg 0) + ((own_rem (p2 &&& (2147483647 : Int32)) (3 : Int32)) - (1 : Int32))))]) _
  refine own_step (fun t k => XS.istore X79.here hx rfl (hb hby at_231) rfl (l' := #[.val (.int p0), .val (.int p1), .val (.int p2), .val (.ref b46), .val (.int (own_f0_231 p1 p2))]) rfl k) ?_
  show own_Run p e below T79 (mkF m 233 #[.val (.int p0), .val (.int p1), .val (.int p2), .val (.ref b46), .val (.int (own_f0_231 p1 p2))] []) _
  refine own_step (fun t k => XS.iloadN X79.here hx rfl (hb hby at_233) rfl  k) ?_
  show own_Run p e below T79 (mkF m 234 #[.val (.int p0), .val (.int p1), .val (.int p2), .val (.ref b46), .val (.int (own_f0_231 p1 p2))] [(.int p0)]) _
  obtain ⟨_, _, ⟨T80, L80, kq80, nq80⟩, -, X80, ⟨Lc80, hQ80, lq80, yq80, zq80⟩, st80⟩ := Jvm.LawKit.callS X79 hx (y := (⟨"com/example/emscher/emscher/model/XmlNamesIsNameStartPinLaw", "agrees", "(I)Z"⟩ : MethodName)) hown (mvT hZ (hw _ (List.mem_of_getElem? (i := 11) rfl))) (mvT hZ (hw _ (List.mem_of_getElem? (i := 12) rfl))) (mvT hZ (hw _ (List.mem_of_getElem? (i := 13) rfl))) (mvT hZ (hw _ (List.mem_of_getElem? (i := 14) rfl))) (by decide) (backOf (W := 0) (rm1 l Z av0 hw [] p0 h79 n0 Zn79 ) hZ (hw _ (List.mem_of_getElem? (i := 14) rfl)) (hw _ (List.mem_of_getElem? (i := 13) rfl)) (by decide) (by decide)) (g := (mkF m 234 #[.val (.int p0), .val (.int p1), .val (.int p2), .val (.ref b46), .val (.int (own_f0_231 p1 p2))] [(.int p0)])) rfl (by rw [hml]; rfl) (argsL := [(.int p0)]) (rest := []) (lenOf own_pd199 rfl) rfl (by show 2 * 0 + _ ≤ _; exact Nat.le_of_eq rfl) (hb hby at_234) (fun _ _ => ⟨rfl, e79, (by decide : 1 + 0 ≤ _), (by decide : 33 + 0 ≤ _)⟩)
  dsimp only [Pt.U, Pt.locs, Pt.cells, Pt.slots] at X80 lq80 yq80 zq80 st80 hQ80
  subst lq80 yq80 zq80
  obtain ⟨rfl, N80q, e80⟩ := hQ80
  have N80 := Fr.app N79 N80q
  refine own_step st80 ?_
  show own_Run p e below T80 (mkF m 237 #[.val (.int p0), .val (.int p1), .val (.int p2), .val (.ref b46), .val (.int (own_f0_231 p1 p2))] [(.int (own_r1 p0))]) _
  obtain ⟨_, st81, T81, L81, rfl, X81, e81, N81⟩ : own_Run p e below T80 (mkF m 237 #[.val (.int p0), .val (.int p1), .val (.int p2), .val (.ref b46), .val (.int (own_f0_231 p1 p2))] [(.int (own_r1 p0))]) (fun t => ∃ (T' : State) (L' : List Loc) , t = T'.setTop (mkF m 284 #[.val (.int p0), .val (.int p1), .val (.int p2), .val (.ref b46), .val (.int (own_f0_231 p1 p2))] [(.int (own_f0_j284_S0 p0 p1 p2))]) ∧ Stand p l e room_1 s m #[(.int p0), (.int p1), (.int p2)] below meth c T' L' 1 33 ∧ T'.heap = h79 ∧ Fr n0 L') := by
    by_cases hc82 : (own_r1 p0) = (0 : Int32)
    · refine own_step (fun t k => XS.ifYes X80.here hx rfl (pc0 := 237) (pc' := 283) rfl (hb hby at_237) rfl ((if0 _ _).trans (teq hc82).1) (by decide) (by decide) k) ?_
      show own_Run p e below T80 (mkF m 283 #[.val (.int p0), .val (.int p1), .val (.int p2), .val (.ref b46), .val (.int (own_f0_231 p1 p2))] []) _
      refine own_step (fun t k => XS.iconst X80.here hx rfl (hb hby at_283) k) ?_
      show own_Run p e below T80 (mkF m 284 #[.val (.int p0), .val (.int p1), .val (.int p2), .val (.ref b46), .val (.int (own_f0_231 p1 p2))] [(.int (0 : Int32))]) _
      have hj0 : (own_f0_j284_S0 p0 p1 p2) = (0 : Int32) := (if_pos hc82)
      exact own_here ⟨T80, _, (by rw [hj0]), X80, e80, N80⟩
    · refine own_step (fun t k => XS.ifNo X80.here hx rfl (hb hby at_237) rfl ((if0 _ _).trans (feq hc82).1) k) ?_
      show own_Run p e below T80 (mkF m 240 #[.val (.int p0), .val (.int p1), .val (.int p2), .val (.ref b46), .val (.int (own_f0_231 p1 p2))] []) _
      refine own_step (fun t k => XS.iload X80.here hx rfl (hb hby at_240) rfl  k) ?_
      show own_Run p e below T80 (mkF m 242 #[.val (.int p0), .val (.int p1), .val (.int p2), .val (.ref b46), .val (.int (own_f0_231 p1 p2))] [(.int (own_f0_231 p1 p2))]) _
      obtain ⟨_, _, ⟨T83, L83, kq83, nq83⟩, -, X83, ⟨Lc83, hQ83, lq83, yq83, zq83⟩, st83⟩ := Jvm.LawKit.callS X80 hx (y := (⟨"com/example/emscher/emscher/model/XmlNamesIsNameStartPinLaw", "agrees", "(I)Z"⟩ : MethodName)) hown (mvT hZ (hw _ (List.mem_of_getElem? (i := 11) rfl))) (mvT hZ (hw _ (List.mem_of_getElem? (i := 12) rfl))) (mvT hZ (hw _ (List.mem_of_getElem? (i := 13) rfl))) (mvT hZ (hw _ (List.mem_of_getElem? (i := 14) rfl))) (by decide) (backOf (W := 0) (rm1 l Z av0 hw [] (own_f0_231 p1 p2) h79 n0 Zn79 ) hZ (hw _ (List.mem_of_getElem? (i := 14) rfl)) (hw _ (List.mem_of_getElem? (i := 13) rfl)) (by decide) (by decide)) (g := (mkF m 242 #[.val (.int p0), .val (.int p1), .val (.int p2), .val (.ref b46), .val (.int (own_f0_231 p1 p2))] [(.int (own_f0_231 p1 p2))])) rfl (by rw [hml]; rfl) (argsL := [(.int (own_f0_231 p1 p2))]) (rest := []) (lenOf own_pd199 rfl) rfl (by show 2 * 0 + _ ≤ _; exact Nat.le_of_eq rfl) (hb hby at_242) (fun _ _ => ⟨rfl, e80, (by decide : 1 + 0 ≤ _), (by decide : 33 + 0 ≤ _)⟩)
      dsimp only [Pt.U, Pt.locs, Pt.cells, Pt.slots] at X83 lq83 yq83 zq83 st83 hQ83
      subst lq83 yq83 zq83
      obtain ⟨rfl, N83q, e83⟩ := hQ83
      have N83 := Fr.app N80 N83q
      refine own_step st83 ?_
      show own_Run p e below T83 (mkF m 245 #[.val (.int p0), .val (.int p1), .val (.int p2), .val (.ref b46), .val (.int (own_f0_231 p1 p2))] [(.int (own_r1 (own_f0_231 p1 p2)))]) _
      by_cases hc84 : (own_r1 (own_f0_231 p1 p2)) = (0 : Int32)
      · refine own_step (fun t k => XS.ifYes X83.here hx rfl (pc0 := 245) (pc' := 283) rfl (hb hby at_245) rfl ((if0 _ _).trans (teq hc84).1) (by decide) (by decide) k) ?_
        show own_Run p e below T83 (mkF m 283 #[.val (.int p0), .val (.int p1), .val (.int p2), .val (.ref b46), .val (.int (own_f0_231 p1 p2))] []) _
        refine own_step (fun t k => XS.iconst X83.here hx rfl (hb hby at_283) k) ?_
        show own_Run p e below T83 (mkF m 284 #[.val (.int p0), .val (.int p1), .val (.int p2), .val (.ref b46), .val (.int (own_f0_231 p1 p2))] [(.int (0 : Int32))]) _
        have hj0 : (own_f0_j284_S0 p0 p1 p2) = (0 : Int32) := ((if_neg hc82).trans (if_pos hc84))
        exact own_here ⟨T83, _, (by rw [hj0]), X83, e83, N83⟩
      · refine own_step (fun t k => XS.ifNo X83.here hx rfl (hb hby at_245) rfl ((if0 _ _).trans (feq hc84).1) k) ?_
        show own_Run p e below T83 (mkF m 248 #[.val (.int p0), .val (.int p1), .val (.int p2), .val (.ref b46), .val (.int (own_f0_231 p1 p2))] []) _
        refine own_step (fun t k => XS.iloadN X83.here hx rfl (hb hby at_248) rfl  k) ?_
        show own_Run p e below T83 (mkF m 249 #[.val (.int p0), .val (.int p1), .val (.int p2), .val (.ref b46), .val (.int (own_f0_231 p1 p2))] [(.int p0)]) _
        refine own_step (fun t k => X83.ldcInt hx hown (mvT hZ (hw _ (List.mem_of_getElem? (i := 28) rfl))) (g := (mkF m 249 #[.val (.int p0), .val (.int p1), .val (.int p2), .val (.ref b46), .val (.int (own_f0_231 p1 p2))] [(.int p0)])) rfl (hb hby at_249) t k) ?_
        show own_Run p e below T83 (mkF m 251 #[.val (.int p0), .val (.int p1), .val (.int p2), .val (.ref b46), .val (.int (own_f0_231 p1 p2))] [(.int (1048575 : Int32)), (.int p0)]) _
        refine own_step (fun t k => XS.iand X83.here hx rfl (hb hby at_251) rfl k) ?_
        show own_Run p e below T83 (mkF m 252 #[.val (.int p0), .val (.int p1), .val (.int p2), .val (.ref b46), .val (.int (own_f0_231 p1 p2))] [(.int (p0 &&& (1048575 : Int32)))]) _
        obtain ⟨_, _, ⟨T85, L85, kq85, nq85⟩, -, X85, ⟨Lc85, hQ85, lq85, yq85, zq85⟩, st85⟩ := Jvm.LawKit.callS X83 hx (y := (⟨"com/example/emscher/emscher/model/XmlNamesIsNameStartPinLaw", "agrees", "(I)Z"⟩ : MethodName)) hown (mvT hZ (hw _ (List.mem_of_getElem? (i := 11) rfl))) (mvT hZ (hw _ (List.mem_of_getElem? (i := 12) rfl))) (mvT hZ (hw _ (List.mem_of_getElem? (i := 13) rfl))) (mvT hZ (hw _ (List.mem_of_getElem? (i := 14) rfl))) (by decide) (backOf (W := 0) (rm1 l Z av0 hw [] (p0 &&& (1048575 : Int32)) h79 n0 Zn79 ) hZ (hw _ (List.mem_of_getElem? (i := 14) rfl)) (hw _ (List.mem_of_getElem? (i := 13) rfl)) (by decide) (by decide)) (g := (mkF m 252 #[.val (.int p0), .val (.int p1), .val (.int p2), .val (.ref b46), .val (.int (own_f0_231 p1 p2))] [(.int (p0 &&& (1048575 : Int32)))])) rfl (by rw [hml]; rfl) (argsL := [(.int (p0 &&& (1048575 : Int32)))]) (rest := []) (lenOf own_pd199 rfl) rfl (by show 2 * 0 + _ ≤ _; exact Nat.le_of_eq rfl) (hb hby at_252) (fun _ _ => ⟨rfl, e83, (by decide : 1 + 0 ≤ _), (by decide : 33 + 0 ≤ _)⟩)
        dsimp only [Pt.U, Pt.locs, Pt.cells, Pt.slots] at X85 lq85 yq85 zq85 st85 hQ85
        subst lq85 yq85 zq85
        obtain ⟨rfl, N85q, e85⟩ := hQ85
        have N85 := Fr.app N83 N85q
        refine own_step st85 ?_
        show own_Run p e below T85 (mkF m 255 #[.val (.int p0), .val (.int p1), .val (.int p2), .val (.ref b46), .val (.int (own_f0_231 p1 p2))] [(.int (own_r1 (p0 &&& (1048575 : Int32))))]) _
        by_cases hc86 : (own_r1 (p0 &&& (1048575 : Int32))) = (0 : Int32)
        · refine own_step (fun t k => XS.ifYes X85.here hx rfl (pc0 := 255) (pc' := 283) rfl (hb hby at_255) rfl ((if0 _ _).trans (teq hc86).1) (by decide) (by decide) k) ?_
          show own_Run p e below T85 (mkF m 283 #[.val (.int p0), .val (.int p1), .val (.int p2), .val (.ref b46), .val (.int (own_f0_231 p1 p2))] []) _
          refine own_step (fun t k => XS.iconst X85.here hx rfl (hb hby at_283) k) ?_
          show own_Run p e below T85 (mkF m 284 #[.val (.int p0), .val (.int p1), .val (.int p2), .val (.ref b46), .val (.int (own_f0_231 p1 p2))] [(.int (0 : Int32))]) _
          have hj0 : (own_f0_j284_S0 p0 p1 p2) = (0 : Int32) := ((if_neg hc82).trans ((if_neg hc84).trans (if_pos hc86)))
          exact own_here ⟨T85, _, (by rw [hj0]), X85, e85, N85⟩
        · refine own_step (fun t k => XS.ifNo X85.here hx rfl (hb hby at_255) rfl ((if0 _ _).trans (feq hc86).1) k) ?_
          show own_Run p e below T85 (mkF m 258 #[.val (.int p0), .val (.int p1), .val (.int p2), .val (.ref b46), .val (.int (own_f0_231 p1 p2))] []) _
          refine own_step (fun t k => XS.iloadN X85.here hx rfl (hb hby at_258) rfl  k) ?_
          show own_Run p e below T85 (mkF m 259 #[.val (.int p0), .val (.int p1), .val (.int p2), .val (.ref b46), .val (.int (own_f0_231 p1 p2))] [(.int p0)]) _
          refine own_step (fun t k => X85.ldcInt hx hown (mvT hZ (hw _ (List.mem_of_getElem? (i := 29) rfl))) (g := (mkF m 259 #[.val (.int p0), .val (.int p1), .val (.int p2), .val (.ref b46), .val (.int (own_f0_231 p1 p2))] [(.int p0)])) rfl (hb hby at_259) t k) ?_
          show own_Run p e below T85 (mkF m 261 #[.val (.int p0), .val (.int p1), .val (.int p2), .val (.ref b46), .val (.int (own_f0_231 p1 p2))] [(.int (65535 : Int32)), (.int p0)]) _
          refine own_step (fun t k => XS.iand X85.here hx rfl (hb hby at_261) rfl k) ?_
          show own_Run p e below T85 (mkF m 262 #[.val (.int p0), .val (.int p1), .val (.int p2), .val (.ref b46), .val (.int (own_f0_231 p1 p2))] [(.int (p0 &&& (65535 : Int32)))]) _
          obtain ⟨_, _, ⟨T87, L87, kq87, nq87⟩, -, X87, ⟨Lc87, hQ87, lq87, yq87, zq87⟩, st87⟩ := Jvm.LawKit.callS X85 hx (y := (⟨"com/example/emscher/emscher/model/XmlNamesIsNameStartPinLaw", "agrees", "(I)Z"⟩ : MethodName)) hown (mvT hZ (hw _ (List.mem_of_getElem? (i := 11) rfl))) (mvT hZ (hw _ (List.mem_of_getElem? (i := 12) rfl))) (mvT hZ (hw _ (List.mem_of_getElem? (i := 13) rfl))) (mvT hZ (hw _ (List.mem_of_getElem? (i := 14) rfl))) (by decide) (backOf (W := 0) (rm1 l Z av0 hw [] (p0 &&& (65535 : Int32)) h79 n0 Zn79 ) hZ (hw _ (List.mem_of_getElem? (i := 14) rfl)) (hw _ (List.mem_of_getElem? (i := 13) rfl)) (by decide) (by decide)) (g := (mkF m 262 #[.val (.int p0), .val (.int p1), .val (.int p2), .val (.ref b46), .val (.int (own_f0_231 p1 p2))] [(.int (p0 &&& (65535 : Int32)))])) rfl (by rw [hml]; rfl) (argsL := [(.int (p0 &&& (65535 : Int32)))]) (rest := []) (lenOf own_pd199 rfl) rfl (by show 2 * 0 + _ ≤ _; exact Nat.le_of_eq rfl) (hb hby at_262) (fun _ _ => ⟨rfl, e85, (by decide : 1 + 0 ≤ _), (by decide : 33 + 0 ≤ _)⟩)
          dsimp only [Pt.U, Pt.locs, Pt.cells, Pt.slots] at X87 lq87 yq87 zq87 st87 hQ87
          subst lq87 yq87 zq87
          obtain ⟨rfl, N87q, e87⟩ := hQ87
          have N87 := Fr.app N85 N87q
          refine own_step st87 ?_
          show own_Run p e below T87 (mkF m 265 #[.val (.int p0), .val (.int p1), .val (.int p2), .val (.ref b46), .val (.int (own_f0_231 p1 p2))] [(.int (own_r1 (p0 &&& (65535 : Int32))))]) _
          by_cases hc88 : (own_r1 (p0 &&& (65535 : Int32))) = (0 : Int32)
          · refine own_step (fun t k => XS.ifYes X87.here hx rfl (pc0 := 265) (pc' := 283) rfl (hb hby at_265) rfl ((if0 _ _).trans (teq hc88).1) (by decide) (by decide) k) ?_
            show own_Run p e below T87 (mkF m 283 #[.val (.int p0), .val (.int p1), .val (.int p2), .val (.ref b46), .val (.int (own_f0_231 p1 p2))] []) _
            refine own_step (fun t k => XS.iconst X87.here hx rfl (hb hby at_283) k) ?_
            show own_Run p e below T87 (mkF m 284 #[.val (.int p0), .val (.int p1), .val (.int p2), .val (.ref b46), .val (.int (own_f0_231 p1 p2))] [(.int (0 : Int32))]) _
            have hj0 : (own_f0_j284_S0 p0 p1 p2) = (0 : Int32) := ((if_neg hc82).trans ((if_neg hc84).trans ((if_neg hc86).trans (if_pos hc88))))
            exact own_here ⟨T87, _, (by rw [hj0]), X87, e87, N87⟩
          · refine own_step (fun t k => XS.ifNo X87.here hx rfl (hb hby at_265) rfl ((if0 _ _).trans (feq hc88).1) k) ?_
            show own_Run p e below T87 (mkF m 268 #[.val (.int p0), .val (.int p1), .val (.int p2), .val (.ref b46), .val (.int (own_f0_231 p1 p2))] []) _
            refine own_step (fun t k => XS.iloadN X87.here hx rfl (hb hby at_268) rfl  k) ?_
            show own_Run p e below T87 (mkF m 269 #[.val (.int p0), .val (.int p1), .val (.int p2), .val (.ref b46), .val (.int (own_f0_231 p1 p2))] [(.int p0)]) _
            refine own_step (fun t k => XS.sipush X87.here hx rfl (hb hby at_269) k) ?_
            show own_Run p e below T87 (mkF m 272 #[.val (.int p0), .val (.int p1), .val (.int p2), .val (.ref b46), .val (.int (own_f0_231 p1 p2))] [(.int (255 : Int32)), (.int p0)]) _
            refine own_step (fun t k => XS.iand X87.here hx rfl (hb hby at_272) rfl k) ?_
            show own_Run p e below T87 (mkF m 273 #[.val (.int p0), .val (.int p1), .val (.int p2), .val (.ref b46), .val (.int (own_f0_231 p1 p2))] [(.int (p0 &&& (255 : Int32)))]) _
            obtain ⟨_, _, ⟨T89, L89, kq89, nq89⟩, -, X89, ⟨Lc89, hQ89, lq89, yq89, zq89⟩, st89⟩ := Jvm.LawKit.callS X87 hx (y := (⟨"com/example/emscher/emscher/model/XmlNamesIsNameStartPinLaw", "agrees", "(I)Z"⟩ : MethodName)) hown (mvT hZ (hw _ (List.mem_of_getElem? (i := 11) rfl))) (mvT hZ (hw _ (List.mem_of_getElem? (i := 12) rfl))) (mvT hZ (hw _ (List.mem_of_getElem? (i := 13) rfl))) (mvT hZ (hw _ (List.mem_of_getElem? (i := 14) rfl))) (by decide) (backOf (W := 0) (rm1 l Z av0 hw [] (p0 &&& (255 : Int32)) h79 n0 Zn79 ) hZ (hw _ (List.mem_of_getElem? (i := 14) rfl)) (hw _ (List.mem_of_getElem? (i := 13) rfl)) (by decide) (by decide)) (g := (mkF m 273 #[.val (.int p0), .val (.int p1), .val (.int p2), .val (.ref b46), .val (.int (own_f0_231 p1 p2))] [(.int (p0 &&& (255 : Int32)))])) rfl (by rw [hml]; rfl) (argsL := [(.int (p0 &&& (255 : Int32)))]) (rest := []) (lenOf own_pd199 rfl) rfl (by show 2 * 0 + _ ≤ _; exact Nat.le_of_eq rfl) (hb hby at_273) (fun _ _ => ⟨rfl, e87, (by decide : 1 + 0 ≤ _), (by decide : 33 + 0 ≤ _)⟩)
            dsimp only [Pt.U, Pt.locs, Pt.cells, Pt.slots] at X89 lq89 yq89 zq89 st89 hQ89
            subst lq89 yq89 zq89
            obtain ⟨rfl, N89q, e89⟩ := hQ89
            have N89 := Fr.app N87 N89q
            refine own_step st89 ?_
            show own_Run p e below T89 (mkF m 276 #[.val (.int p0), .val (.int p1), .val (.int p2), .val (.ref b46), .val (.int (own_f0_231 p1 p2))] [(.int (own_r1 (p0 &&& (255 : Int32))))]) _
            by_cases hc90 : (own_r1 (p0 &&& (255 : Int32))) = (0 : Int32)
            · refine own_step (fun t k => XS.ifYes X89.here hx rfl (pc0 := 276) (pc' := 283) rfl (hb hby at_276) rfl ((if0 _ _).trans (teq hc90).1) (by decide) (by decide) k) ?_
              show own_Run p e below T89 (mkF m 283 #[.val (.int p0), .val (.int p1), .val (.int p2), .val (.ref b46), .val (.int (own_f0_231 p1 p2))] []) _
              refine own_step (fun t k => XS.iconst X89.here hx rfl (hb hby at_283) k) ?_
              show own_Run p e below T89 (mkF m 284 #[.val (.int p0), .val (.int p1), .val (.int p2), .val (.ref b46), .val (.int (own_f0_231 p1 p2))] [(.int (0 : Int32))]) _
              have hj0 : (own_f0_j284_S0 p0 p1 p2) = (0 : Int32) := ((if_neg hc82).trans ((if_neg hc84).trans ((if_neg hc86).trans ((if_neg hc88).trans (if_pos hc90)))))
              exact own_here ⟨T89, _, (by rw [hj0]), X89, e89, N89⟩
            · refine own_step (fun t k => XS.ifNo X89.here hx rfl (hb hby at_276) rfl ((if0 _ _).trans (feq hc90).1) k) ?_
              show own_Run p e below T89 (mkF m 279 #[.val (.int p0), .val (.int p1), .val (.int p2), .val (.ref b46), .val (.int (own_f0_231 p1 p2))] []) _
              refine own_step (fun t k => XS.iconst X89.here hx rfl (hb hby at_279) k) ?_
              show own_Run p e below T89 (mkF m 280 #[.val (.int p0), .val (.int p1), .val (.int p2), .val (.ref b46), .val (.int (own_f0_231 p1 p2))] [(.int (1 : Int32))]) _
              refine own_step (fun t k => XS.goto X89.here hx rfl (pc0 := 280) (pc' := 284) rfl (hb hby at_280) (by decide) (by decide) k) ?_
              show own_Run p e below T89 (mkF m 284 #[.val (.int p0), .val (.int p1), .val (.int p2), .val (.ref b46), .val (.int (own_f0_231 p1 p2))] [(.int (1 : Int32))]) _
              have hj0 : (own_f0_j284_S0 p0 p1 p2) = (1 : Int32) := ((if_neg hc82).trans ((if_neg hc84).trans ((if_neg hc86).trans ((if_neg hc88).trans (if_neg hc90)))))
              exact own_here ⟨T89, _, (by rw [hj0]), X89, e89, N89⟩
  refine own_tr st81 ?_
  show own_Run p e below T81 (mkF m 284 #[.val (.int p0), .val (.int p1), .val (.int p2), .val (.ref b46), .val (.int (own_f0_231 p1 p2))] [(.int (own_f0_j284_S0 p0 p1 p2))]) _
  exact own_retZ X81 hx hlk hret (hb hby at_284) (by decide) (by decide) N81 trivial
theorem own_lt1 (x y : Int32) : (x < y) = (x.toInt < y.toInt) := propext Int32.lt_iff_toInt_lt
theorem own_eq1 (x y : Int32) : (x = y) = (x.toInt = y.toInt) := propext Int32.toInt_inj.symm
theorem own_rng (x A B : Int) (N : Prop) [Decidable N] : (if x < A then (if N then (1 : Int32) else 0) else if B < x then (if N then (1 : Int32) else 0) else 1) = if (A ≤ x ∧ x ≤ B) ∨ N then 1 else 0 := by
  by_cases n : N
  · simp [n]
  · by_cases h1 : x < A
    · rw [if_pos h1, if_neg n, if_neg (by rintro (h | h); omega; exact n h)]
    · by_cases h2 : B < x
      · rw [if_neg h1, if_pos h2, if_neg n, if_neg (by rintro (h | h); omega; exact n h)]
      · rw [if_neg h1, if_neg h2, if_pos (Or.inl ⟨by omega, by omega⟩)]
theorem own_eqv (x A : Int) (N : Prop) [Decidable N] : (if x = A then (1 : Int32) else if N then (1 : Int32) else 0) = if (x = A) ∨ N then 1 else 0 := by
  by_cases n : N <;> by_cases h1 : x = A <;> simp [n, h1]
theorem own_lst (x A B : Int) : (if x < A then (0 : Int32) else if B < x then (0 : Int32) else 1) = if (A ≤ x ∧ x ≤ B) then 1 else 0 := by
  by_cases h1 : x < A
  · rw [if_pos h1, if_neg (by omega)]
  · by_cases h2 : B < x
    · rw [if_neg h1, if_pos h2, if_neg (by omega)]
    · rw [if_neg h1, if_neg h2, if_pos (by omega)]
theorem own_lst0 (x A B : Int) : (if x < A then (1 : Int32) else if B < x then (1 : Int32) else 0) = if (x < A ∨ B < x) then 1 else 0 := by
  by_cases h1 : x < A
  · rw [if_pos h1, if_pos (Or.inl h1)]
  · by_cases h2 : B < x
    · rw [if_neg h1, if_pos h2, if_pos (Or.inr h2)]
    · rw [if_neg h1, if_neg h2, if_neg (by omega)]
theorem own_rng0 (x A B : Int) (N : Prop) [Decidable N] : (if x < A then (if N then (1 : Int32) else 0) else if B < x then (if N then (1 : Int32) else 0) else 0) = if (x < A ∨ B < x) ∧ N then 1 else 0 := by
  by_cases n : N <;> by_cases h1 : x < A <;> by_cases h2 : B < x <;> simp [n, h1, h2]
theorem own_eq0 (x A : Int) (N : Prop) [Decidable N] : (if x = A then (0 : Int32) else if N then (1 : Int32) else 0) = if (x < A ∨ A < x) ∧ N then 1 else 0 := by
  by_cases h1 : x = A
  · rw [if_pos h1, if_neg (by rintro ⟨h, -⟩; omega)]
  · by_cases n : N
    · rw [if_neg h1, if_pos n, if_pos ⟨by omega, n⟩]
    · rw [if_neg h1, if_neg n, if_neg (fun z => n z.2)]
theorem own_top0 (x A B : Int) (N : Prop) [Decidable N] : (if x < A then (0 : Int32) else if B < x then (0 : Int32) else if N then (1 : Int32) else 0) = if (A ≤ x ∧ x ≤ B) ∧ N then 1 else 0 := by
  by_cases h1 : x < A
  · rw [if_pos h1, if_neg (by rintro ⟨h, -⟩; omega)]
  · by_cases h2 : B < x
    · rw [if_neg h1, if_pos h2, if_neg (by rintro ⟨h, -⟩; omega)]
    · by_cases n : N
      · rw [if_neg h1, if_neg h2, if_pos n, if_pos ⟨by omega, n⟩]
      · rw [if_neg h1, if_neg h2, if_neg n, if_neg (fun z => n z.2)]
theorem own_k65 : (65 : Int32).toInt = 65 := by decide
theorem own_k90 : (90 : Int32).toInt = 90 := by decide
theorem own_k91 : (91 : Int32).toInt = 91 := by decide
theorem own_k94 : (94 : Int32).toInt = 94 := by decide
theorem own_k95 : (95 : Int32).toInt = 95 := by decide
theorem own_k96 : (96 : Int32).toInt = 96 := by decide
theorem own_k97 : (97 : Int32).toInt = 97 := by decide
theorem own_k122 : (122 : Int32).toInt = 122 := by decide
theorem own_k123 : (123 : Int32).toInt = 123 := by decide
theorem own_k191 : (191 : Int32).toInt = 191 := by decide
theorem own_k192 : (192 : Int32).toInt = 192 := by decide
theorem own_k214 : (214 : Int32).toInt = 214 := by decide
theorem own_k215 : (215 : Int32).toInt = 215 := by decide
theorem own_k216 : (216 : Int32).toInt = 216 := by decide
theorem own_k246 : (246 : Int32).toInt = 246 := by decide
theorem own_k247 : (247 : Int32).toInt = 247 := by decide
theorem own_k248 : (248 : Int32).toInt = 248 := by decide
theorem own_k767 : (767 : Int32).toInt = 767 := by decide
theorem own_k768 : (768 : Int32).toInt = 768 := by decide
theorem own_k879 : (879 : Int32).toInt = 879 := by decide
theorem own_k880 : (880 : Int32).toInt = 880 := by decide
theorem own_k893 : (893 : Int32).toInt = 893 := by decide
theorem own_k894 : (894 : Int32).toInt = 894 := by decide
theorem own_k895 : (895 : Int32).toInt = 895 := by decide
theorem own_k8191 : (8191 : Int32).toInt = 8191 := by decide
theorem own_k8192 : (8192 : Int32).toInt = 8192 := by decide
theorem own_k8203 : (8203 : Int32).toInt = 8203 := by decide
theorem own_k8204 : (8204 : Int32).toInt = 8204 := by decide
theorem own_k8205 : (8205 : Int32).toInt = 8205 := by decide
theorem own_k8206 : (8206 : Int32).toInt = 8206 := by decide
theorem own_k8303 : (8303 : Int32).toInt = 8303 := by decide
theorem own_k8304 : (8304 : Int32).toInt = 8304 := by decide
theorem own_k8591 : (8591 : Int32).toInt = 8591 := by decide
theorem own_k8592 : (8592 : Int32).toInt = 8592 := by decide
theorem own_k11263 : (11263 : Int32).toInt = 11263 := by decide
theorem own_k11264 : (11264 : Int32).toInt = 11264 := by decide
theorem own_k12271 : (12271 : Int32).toInt = 12271 := by decide
theorem own_k12272 : (12272 : Int32).toInt = 12272 := by decide
theorem own_k12288 : (12288 : Int32).toInt = 12288 := by decide
theorem own_k12289 : (12289 : Int32).toInt = 12289 := by decide
theorem own_k55295 : (55295 : Int32).toInt = 55295 := by decide
theorem own_k55296 : (55296 : Int32).toInt = 55296 := by decide
theorem own_k63743 : (63743 : Int32).toInt = 63743 := by decide
theorem own_k63744 : (63744 : Int32).toInt = 63744 := by decide
theorem own_k64975 : (64975 : Int32).toInt = 64975 := by decide
theorem own_k64976 : (64976 : Int32).toInt = 64976 := by decide
theorem own_k65007 : (65007 : Int32).toInt = 65007 := by decide
theorem own_k65008 : (65008 : Int32).toInt = 65008 := by decide
theorem own_k65533 : (65533 : Int32).toInt = 65533 := by decide
theorem own_k65534 : (65534 : Int32).toInt = 65534 := by decide
theorem own_k65535 : (65535 : Int32).toInt = 65535 := by decide
theorem own_k65536 : (65536 : Int32).toInt = 65536 := by decide
theorem own_k983039 : (983039 : Int32).toInt = 983039 := by decide
theorem own_sr2_179_is (p0 : Int32) : own_r2_179 p0 = if ((65536 ≤ p0.toInt ∧ p0.toInt ≤ 983039)) then 1 else 0 := by
  unfold own_r2_179
  simp only [own_lt1, own_eq1, own_k65536, own_k983039]
  rw [own_lst]
theorem own_sr2_167_is (p0 : Int32) : own_r2_167 p0 = if ((65008 ≤ p0.toInt ∧ p0.toInt ≤ 65533) ∨ ((65536 ≤ p0.toInt ∧ p0.toInt ≤ 983039))) then 1 else 0 := by
  unfold own_r2_167
  rw [own_sr2_179_is]
  simp only [own_lt1, own_eq1, own_k65008, own_k65533]
  rw [own_rng]
theorem own_sr2_155_is (p0 : Int32) : own_r2_155 p0 = if ((63744 ≤ p0.toInt ∧ p0.toInt ≤ 64975) ∨ ((65008 ≤ p0.toInt ∧ p0.toInt ≤ 65533) ∨ ((65536 ≤ p0.toInt ∧ p0.toInt ≤ 983039)))) then 1 else 0 := by
  unfold own_r2_155
  rw [own_sr2_167_is]
  simp only [own_lt1, own_eq1, own_k63744, own_k64975]
  rw [own_rng]
theorem own_sr2_142_is (p0 : Int32) : own_r2_142 p0 = if ((12289 ≤ p0.toInt ∧ p0.toInt ≤ 55295) ∨ ((63744 ≤ p0.toInt ∧ p0.toInt ≤ 64975) ∨ ((65008 ≤ p0.toInt ∧ p0.toInt ≤ 65533) ∨ ((65536 ≤ p0.toInt ∧ p0.toInt ≤ 983039))))) then 1 else 0 := by
  unfold own_r2_142
  rw [own_sr2_155_is]
  simp only [own_lt1, own_eq1, own_k12289, own_k55295]
  rw [own_rng]
theorem own_sr2_128_is (p0 : Int32) : own_r2_128 p0 = if ((11264 ≤ p0.toInt ∧ p0.toInt ≤ 12271) ∨ ((12289 ≤ p0.toInt ∧ p0.toInt ≤ 55295) ∨ ((63744 ≤ p0.toInt ∧ p0.toInt ≤ 64975) ∨ ((65008 ≤ p0.toInt ∧ p0.toInt ≤ 65533) ∨ ((65536 ≤ p0.toInt ∧ p0.toInt ≤ 983039)))))) then 1 else 0 := by
  unfold own_r2_128
  rw [own_sr2_142_is]
  simp only [own_lt1, own_eq1, own_k11264, own_k12271]
  rw [own_rng]
theorem own_sr2_114_is (p0 : Int32) : own_r2_114 p0 = if ((8304 ≤ p0.toInt ∧ p0.toInt ≤ 8591) ∨ ((11264 ≤ p0.toInt ∧ p0.toInt ≤ 12271) ∨ ((12289 ≤ p0.toInt ∧ p0.toInt ≤ 55295) ∨ ((63744 ≤ p0.toInt ∧ p0.toInt ≤ 64975) ∨ ((65008 ≤ p0.toInt ∧ p0.toInt ≤ 65533) ∨ ((65536 ≤ p0.toInt ∧ p0.toInt ≤ 983039))))))) then 1 else 0 := by
  unfold own_r2_114
  rw [own_sr2_128_is]
  simp only [own_lt1, own_eq1, own_k8304, own_k8591]
  rw [own_rng]
theorem own_sr2_100_is (p0 : Int32) : own_r2_100 p0 = if ((8204 ≤ p0.toInt ∧ p0.toInt ≤ 8205) ∨ ((8304 ≤ p0.toInt ∧ p0.toInt ≤ 8591) ∨ ((11264 ≤ p0.toInt ∧ p0.toInt ≤ 12271) ∨ ((12289 ≤ p0.toInt ∧ p0.toInt ≤ 55295) ∨ ((63744 ≤ p0.toInt ∧ p0.toInt ≤ 64975) ∨ ((65008 ≤ p0.toInt ∧ p0.toInt ≤ 65533) ∨ ((65536 ≤ p0.toInt ∧ p0.toInt ≤ 983039)))))))) then 1 else 0 := by
  unfold own_r2_100
  rw [own_sr2_114_is]
  simp only [own_lt1, own_eq1, own_k8204, own_k8205]
  rw [own_rng]
theorem own_sr2_86_is (p0 : Int32) : own_r2_86 p0 = if ((895 ≤ p0.toInt ∧ p0.toInt ≤ 8191) ∨ ((8204 ≤ p0.toInt ∧ p0.toInt ≤ 8205) ∨ ((8304 ≤ p0.toInt ∧ p0.toInt ≤ 8591) ∨ ((11264 ≤ p0.toInt ∧ p0.toInt ≤ 12271) ∨ ((12289 ≤ p0.toInt ∧ p0.toInt ≤ 55295) ∨ ((63744 ≤ p0.toInt ∧ p0.toInt ≤ 64975) ∨ ((65008 ≤ p0.toInt ∧ p0.toInt ≤ 65533) ∨ ((65536 ≤ p0.toInt ∧ p0.toInt ≤ 983039))))))))) then 1 else 0 := by
  unfold own_r2_86
  rw [own_sr2_100_is]
  simp only [own_lt1, own_eq1, own_k895, own_k8191]
  rw [own_rng]
theorem own_sr2_72_is (p0 : Int32) : own_r2_72 p0 = if ((880 ≤ p0.toInt ∧ p0.toInt ≤ 893) ∨ ((895 ≤ p0.toInt ∧ p0.toInt ≤ 8191) ∨ ((8204 ≤ p0.toInt ∧ p0.toInt ≤ 8205) ∨ ((8304 ≤ p0.toInt ∧ p0.toInt ≤ 8591) ∨ ((11264 ≤ p0.toInt ∧ p0.toInt ≤ 12271) ∨ ((12289 ≤ p0.toInt ∧ p0.toInt ≤ 55295) ∨ ((63744 ≤ p0.toInt ∧ p0.toInt ≤ 64975) ∨ ((65008 ≤ p0.toInt ∧ p0.toInt ≤ 65533) ∨ ((65536 ≤ p0.toInt ∧ p0.toInt ≤ 983039)))))))))) then 1 else 0 := by
  unfold own_r2_72
  rw [own_sr2_86_is]
  simp only [own_lt1, own_eq1, own_k880, own_k893]
  rw [own_rng]
theorem own_sr2_58_is (p0 : Int32) : own_r2_58 p0 = if ((248 ≤ p0.toInt ∧ p0.toInt ≤ 767) ∨ ((880 ≤ p0.toInt ∧ p0.toInt ≤ 893) ∨ ((895 ≤ p0.toInt ∧ p0.toInt ≤ 8191) ∨ ((8204 ≤ p0.toInt ∧ p0.toInt ≤ 8205) ∨ ((8304 ≤ p0.toInt ∧ p0.toInt ≤ 8591) ∨ ((11264 ≤ p0.toInt ∧ p0.toInt ≤ 12271) ∨ ((12289 ≤ p0.toInt ∧ p0.toInt ≤ 55295) ∨ ((63744 ≤ p0.toInt ∧ p0.toInt ≤ 64975) ∨ ((65008 ≤ p0.toInt ∧ p0.toInt ≤ 65533) ∨ ((65536 ≤ p0.toInt ∧ p0.toInt ≤ 983039))))))))))) then 1 else 0 := by
  unfold own_r2_58
  rw [own_sr2_72_is]
  simp only [own_lt1, own_eq1, own_k248, own_k767]
  rw [own_rng]
theorem own_sr2_44_is (p0 : Int32) : own_r2_44 p0 = if ((216 ≤ p0.toInt ∧ p0.toInt ≤ 246) ∨ ((248 ≤ p0.toInt ∧ p0.toInt ≤ 767) ∨ ((880 ≤ p0.toInt ∧ p0.toInt ≤ 893) ∨ ((895 ≤ p0.toInt ∧ p0.toInt ≤ 8191) ∨ ((8204 ≤ p0.toInt ∧ p0.toInt ≤ 8205) ∨ ((8304 ≤ p0.toInt ∧ p0.toInt ≤ 8591) ∨ ((11264 ≤ p0.toInt ∧ p0.toInt ≤ 12271) ∨ ((12289 ≤ p0.toInt ∧ p0.toInt ≤ 55295) ∨ ((63744 ≤ p0.toInt ∧ p0.toInt ≤ 64975) ∨ ((65008 ≤ p0.toInt ∧ p0.toInt ≤ 65533) ∨ ((65536 ≤ p0.toInt ∧ p0.toInt ≤ 983039)))))))))))) then 1 else 0 := by
  unfold own_r2_44
  rw [own_sr2_58_is]
  simp only [own_lt1, own_eq1, own_k216, own_k246]
  rw [own_rng]
theorem own_sr2_30_is (p0 : Int32) : own_r2_30 p0 = if ((192 ≤ p0.toInt ∧ p0.toInt ≤ 214) ∨ ((216 ≤ p0.toInt ∧ p0.toInt ≤ 246) ∨ ((248 ≤ p0.toInt ∧ p0.toInt ≤ 767) ∨ ((880 ≤ p0.toInt ∧ p0.toInt ≤ 893) ∨ ((895 ≤ p0.toInt ∧ p0.toInt ≤ 8191) ∨ ((8204 ≤ p0.toInt ∧ p0.toInt ≤ 8205) ∨ ((8304 ≤ p0.toInt ∧ p0.toInt ≤ 8591) ∨ ((11264 ≤ p0.toInt ∧ p0.toInt ≤ 12271) ∨ ((12289 ≤ p0.toInt ∧ p0.toInt ≤ 55295) ∨ ((63744 ≤ p0.toInt ∧ p0.toInt ≤ 64975) ∨ ((65008 ≤ p0.toInt ∧ p0.toInt ≤ 65533) ∨ ((65536 ≤ p0.toInt ∧ p0.toInt ≤ 983039))))))))))))) then 1 else 0 := by
  unfold own_r2_30
  rw [own_sr2_44_is]
  simp only [own_lt1, own_eq1, own_k192, own_k214]
  rw [own_rng]
theorem own_sr2_12_is (p0 : Int32) : own_r2_12 p0 = if ((p0.toInt = 95) ∨ (97 ≤ p0.toInt ∧ p0.toInt ≤ 122) ∨ ((192 ≤ p0.toInt ∧ p0.toInt ≤ 214) ∨ ((216 ≤ p0.toInt ∧ p0.toInt ≤ 246) ∨ ((248 ≤ p0.toInt ∧ p0.toInt ≤ 767) ∨ ((880 ≤ p0.toInt ∧ p0.toInt ≤ 893) ∨ ((895 ≤ p0.toInt ∧ p0.toInt ≤ 8191) ∨ ((8204 ≤ p0.toInt ∧ p0.toInt ≤ 8205) ∨ ((8304 ≤ p0.toInt ∧ p0.toInt ≤ 8591) ∨ ((11264 ≤ p0.toInt ∧ p0.toInt ≤ 12271) ∨ ((12289 ≤ p0.toInt ∧ p0.toInt ≤ 55295) ∨ ((63744 ≤ p0.toInt ∧ p0.toInt ≤ 64975) ∨ ((65008 ≤ p0.toInt ∧ p0.toInt ≤ 65533) ∨ ((65536 ≤ p0.toInt ∧ p0.toInt ≤ 983039)))))))))))))) then 1 else 0 := by
  unfold own_r2_12
  rw [own_sr2_30_is]
  simp only [own_lt1, own_eq1, own_k95, own_k97, own_k122]
  rw [own_rng, own_eqv]
theorem own_sr2_is (p0 : Int32) : own_r2 p0 = if ((65 ≤ p0.toInt ∧ p0.toInt ≤ 90) ∨ ((p0.toInt = 95) ∨ (97 ≤ p0.toInt ∧ p0.toInt ≤ 122) ∨ ((192 ≤ p0.toInt ∧ p0.toInt ≤ 214) ∨ ((216 ≤ p0.toInt ∧ p0.toInt ≤ 246) ∨ ((248 ≤ p0.toInt ∧ p0.toInt ≤ 767) ∨ ((880 ≤ p0.toInt ∧ p0.toInt ≤ 893) ∨ ((895 ≤ p0.toInt ∧ p0.toInt ≤ 8191) ∨ ((8204 ≤ p0.toInt ∧ p0.toInt ≤ 8205) ∨ ((8304 ≤ p0.toInt ∧ p0.toInt ≤ 8591) ∨ ((11264 ≤ p0.toInt ∧ p0.toInt ≤ 12271) ∨ ((12289 ≤ p0.toInt ∧ p0.toInt ≤ 55295) ∨ ((63744 ≤ p0.toInt ∧ p0.toInt ≤ 64975) ∨ ((65008 ≤ p0.toInt ∧ p0.toInt ≤ 65533) ∨ ((65536 ≤ p0.toInt ∧ p0.toInt ≤ 983039))))))))))))))) then 1 else 0 := by
  unfold own_r2
  rw [own_sr2_12_is]
  simp only [own_lt1, own_eq1, own_k65, own_k90]
  rw [own_rng]
theorem own_sr3_184_is (p0 : Int32) : own_r3_184 p0 = if ((p0.toInt < 65534 ∨ 65535 < p0.toInt)) then 1 else 0 := by
  unfold own_r3_184
  simp only [own_lt1, own_eq1, own_k65534, own_k65535]
  rw [own_lst0]
theorem own_sr3_170_is (p0 : Int32) : own_r3_170 p0 = if ((p0.toInt < 64976 ∨ 65007 < p0.toInt) ∧ ((p0.toInt < 65534 ∨ 65535 < p0.toInt))) then 1 else 0 := by
  unfold own_r3_170
  rw [own_sr3_184_is]
  simp only [own_lt1, own_eq1, own_k64976, own_k65007]
  rw [own_rng0]
theorem own_sr3_156_is (p0 : Int32) : own_r3_156 p0 = if ((p0.toInt < 55296 ∨ 63743 < p0.toInt) ∧ ((p0.toInt < 64976 ∨ 65007 < p0.toInt) ∧ ((p0.toInt < 65534 ∨ 65535 < p0.toInt)))) then 1 else 0 := by
  unfold own_r3_156
  rw [own_sr3_170_is]
  simp only [own_lt1, own_eq1, own_k55296, own_k63743]
  rw [own_rng0]
theorem own_sr3_140_is (p0 : Int32) : own_r3_140 p0 = if ((p0.toInt < 12272 ∨ 12288 < p0.toInt) ∧ ((p0.toInt < 55296 ∨ 63743 < p0.toInt) ∧ ((p0.toInt < 64976 ∨ 65007 < p0.toInt) ∧ ((p0.toInt < 65534 ∨ 65535 < p0.toInt))))) then 1 else 0 := by
  unfold own_r3_140
  rw [own_sr3_156_is]
  simp only [own_lt1, own_eq1, own_k12272, own_k12288]
  rw [own_rng0]
theorem own_sr3_124_is (p0 : Int32) : own_r3_124 p0 = if ((p0.toInt < 8592 ∨ 11263 < p0.toInt) ∧ ((p0.toInt < 12272 ∨ 12288 < p0.toInt) ∧ ((p0.toInt < 55296 ∨ 63743 < p0.toInt) ∧ ((p0.toInt < 64976 ∨ 65007 < p0.toInt) ∧ ((p0.toInt < 65534 ∨ 65535 < p0.toInt)))))) then 1 else 0 := by
  unfold own_r3_124
  rw [own_sr3_140_is]
  simp only [own_lt1, own_eq1, own_k8592, own_k11263]
  rw [own_rng0]
theorem own_sr3_108_is (p0 : Int32) : own_r3_108 p0 = if ((p0.toInt < 8206 ∨ 8303 < p0.toInt) ∧ ((p0.toInt < 8592 ∨ 11263 < p0.toInt) ∧ ((p0.toInt < 12272 ∨ 12288 < p0.toInt) ∧ ((p0.toInt < 55296 ∨ 63743 < p0.toInt) ∧ ((p0.toInt < 64976 ∨ 65007 < p0.toInt) ∧ ((p0.toInt < 65534 ∨ 65535 < p0.toInt))))))) then 1 else 0 := by
  unfold own_r3_108
  rw [own_sr3_124_is]
  simp only [own_lt1, own_eq1, own_k8206, own_k8303]
  rw [own_rng0]
theorem own_sr3_83_is (p0 : Int32) : own_r3_83 p0 = if ((p0.toInt < 894 ∨ 894 < p0.toInt) ∧ (p0.toInt < 8192 ∨ 8203 < p0.toInt) ∧ ((p0.toInt < 8206 ∨ 8303 < p0.toInt) ∧ ((p0.toInt < 8592 ∨ 11263 < p0.toInt) ∧ ((p0.toInt < 12272 ∨ 12288 < p0.toInt) ∧ ((p0.toInt < 55296 ∨ 63743 < p0.toInt) ∧ ((p0.toInt < 64976 ∨ 65007 < p0.toInt) ∧ ((p0.toInt < 65534 ∨ 65535 < p0.toInt)))))))) then 1 else 0 := by
  unfold own_r3_83
  rw [own_sr3_108_is]
  simp only [own_lt1, own_eq1, own_k894, own_k8192, own_k8203]
  rw [own_rng0, own_eq0]
theorem own_sr3_51_is (p0 : Int32) : own_r3_51 p0 = if ((p0.toInt < 215 ∨ 215 < p0.toInt) ∧ (p0.toInt < 247 ∨ 247 < p0.toInt) ∧ (p0.toInt < 768 ∨ 879 < p0.toInt) ∧ ((p0.toInt < 894 ∨ 894 < p0.toInt) ∧ (p0.toInt < 8192 ∨ 8203 < p0.toInt) ∧ ((p0.toInt < 8206 ∨ 8303 < p0.toInt) ∧ ((p0.toInt < 8592 ∨ 11263 < p0.toInt) ∧ ((p0.toInt < 12272 ∨ 12288 < p0.toInt) ∧ ((p0.toInt < 55296 ∨ 63743 < p0.toInt) ∧ ((p0.toInt < 64976 ∨ 65007 < p0.toInt) ∧ ((p0.toInt < 65534 ∨ 65535 < p0.toInt))))))))) then 1 else 0 := by
  unfold own_r3_51
  rw [own_sr3_83_is]
  simp only [own_lt1, own_eq1, own_k215, own_k247, own_k768, own_k879]
  rw [own_rng0, own_eq0, own_eq0]
theorem own_sr3_28_is (p0 : Int32) : own_r3_28 p0 = if ((p0.toInt < 96 ∨ 96 < p0.toInt) ∧ (p0.toInt < 123 ∨ 191 < p0.toInt) ∧ ((p0.toInt < 215 ∨ 215 < p0.toInt) ∧ (p0.toInt < 247 ∨ 247 < p0.toInt) ∧ (p0.toInt < 768 ∨ 879 < p0.toInt) ∧ ((p0.toInt < 894 ∨ 894 < p0.toInt) ∧ (p0.toInt < 8192 ∨ 8203 < p0.toInt) ∧ ((p0.toInt < 8206 ∨ 8303 < p0.toInt) ∧ ((p0.toInt < 8592 ∨ 11263 < p0.toInt) ∧ ((p0.toInt < 12272 ∨ 12288 < p0.toInt) ∧ ((p0.toInt < 55296 ∨ 63743 < p0.toInt) ∧ ((p0.toInt < 64976 ∨ 65007 < p0.toInt) ∧ ((p0.toInt < 65534 ∨ 65535 < p0.toInt)))))))))) then 1 else 0 := by
  unfold own_r3_28
  rw [own_sr3_51_is]
  simp only [own_lt1, own_eq1, own_k96, own_k123, own_k191]
  rw [own_rng0, own_eq0]
theorem own_sr3_is (p0 : Int32) : own_r3 p0 = if ((65 ≤ p0.toInt ∧ p0.toInt ≤ 983039) ∧ (p0.toInt < 91 ∨ 94 < p0.toInt) ∧ ((p0.toInt < 96 ∨ 96 < p0.toInt) ∧ (p0.toInt < 123 ∨ 191 < p0.toInt) ∧ ((p0.toInt < 215 ∨ 215 < p0.toInt) ∧ (p0.toInt < 247 ∨ 247 < p0.toInt) ∧ (p0.toInt < 768 ∨ 879 < p0.toInt) ∧ ((p0.toInt < 894 ∨ 894 < p0.toInt) ∧ (p0.toInt < 8192 ∨ 8203 < p0.toInt) ∧ ((p0.toInt < 8206 ∨ 8303 < p0.toInt) ∧ ((p0.toInt < 8592 ∨ 11263 < p0.toInt) ∧ ((p0.toInt < 12272 ∨ 12288 < p0.toInt) ∧ ((p0.toInt < 55296 ∨ 63743 < p0.toInt) ∧ ((p0.toInt < 64976 ∨ 65007 < p0.toInt) ∧ ((p0.toInt < 65534 ∨ 65535 < p0.toInt))))))))))) then 1 else 0 := by
  unfold own_r3
  rw [own_sr3_28_is]
  simp only [own_lt1, own_eq1, own_k65, own_k983039, own_k91, own_k94]
  rw [own_rng0, own_top0]
theorem own_same (p0 : Int32) : own_r2 p0 = own_r3 p0 := by
  rw [own_sr2_is, own_sr3_is]
  generalize p0.toInt = x
  have hl : ((65 ≤ x ∧ x ≤ 90) ∨ ((x = 95) ∨ (97 ≤ x ∧ x ≤ 122) ∨ ((192 ≤ x ∧ x ≤ 214) ∨ ((216 ≤ x ∧ x ≤ 246) ∨ ((248 ≤ x ∧ x ≤ 767) ∨ ((880 ≤ x ∧ x ≤ 893) ∨ ((895 ≤ x ∧ x ≤ 8191) ∨ ((8204 ≤ x ∧ x ≤ 8205) ∨ ((8304 ≤ x ∧ x ≤ 8591) ∨ ((11264 ≤ x ∧ x ≤ 12271) ∨ ((12289 ≤ x ∧ x ≤ 55295) ∨ ((63744 ≤ x ∧ x ≤ 64975) ∨ ((65008 ≤ x ∧ x ≤ 65533) ∨ ((65536 ≤ x ∧ x ≤ 983039))))))))))))))) → ((65 ≤ x ∧ x ≤ 983039) ∧ (x < 91 ∨ 94 < x) ∧ ((x < 96 ∨ 96 < x) ∧ (x < 123 ∨ 191 < x) ∧ ((x < 215 ∨ 215 < x) ∧ (x < 247 ∨ 247 < x) ∧ (x < 768 ∨ 879 < x) ∧ ((x < 894 ∨ 894 < x) ∧ (x < 8192 ∨ 8203 < x) ∧ ((x < 8206 ∨ 8303 < x) ∧ ((x < 8592 ∨ 11263 < x) ∧ ((x < 12272 ∨ 12288 < x) ∧ ((x < 55296 ∨ 63743 < x) ∧ ((x < 64976 ∨ 65007 < x) ∧ ((x < 65534 ∨ 65535 < x))))))))))) := by
    rintro (h | h | h | h | h | h | h | h | h | h | h | h | h | h | h) <;> omega
  have hr : ((65 ≤ x ∧ x ≤ 983039) ∧ (x < 91 ∨ 94 < x) ∧ ((x < 96 ∨ 96 < x) ∧ (x < 123 ∨ 191 < x) ∧ ((x < 215 ∨ 215 < x) ∧ (x < 247 ∨ 247 < x) ∧ (x < 768 ∨ 879 < x) ∧ ((x < 894 ∨ 894 < x) ∧ (x < 8192 ∨ 8203 < x) ∧ ((x < 8206 ∨ 8303 < x) ∧ ((x < 8592 ∨ 11263 < x) ∧ ((x < 12272 ∨ 12288 < x) ∧ ((x < 55296 ∨ 63743 < x) ∧ ((x < 64976 ∨ 65007 < x) ∧ ((x < 65534 ∨ 65535 < x))))))))))) → ((65 ≤ x ∧ x ≤ 90) ∨ ((x = 95) ∨ (97 ≤ x ∧ x ≤ 122) ∨ ((192 ≤ x ∧ x ≤ 214) ∨ ((216 ≤ x ∧ x ≤ 246) ∨ ((248 ≤ x ∧ x ≤ 767) ∨ ((880 ≤ x ∧ x ≤ 893) ∨ ((895 ≤ x ∧ x ≤ 8191) ∨ ((8204 ≤ x ∧ x ≤ 8205) ∨ ((8304 ≤ x ∧ x ≤ 8591) ∨ ((11264 ≤ x ∧ x ≤ 12271) ∨ ((12289 ≤ x ∧ x ≤ 55295) ∨ ((63744 ≤ x ∧ x ≤ 64975) ∨ ((65008 ≤ x ∧ x ≤ 65533) ∨ ((65536 ≤ x ∧ x ≤ 983039))))))))))))))) := by
    intro h
    omega
  by_cases h : ((65 ≤ x ∧ x ≤ 90) ∨ ((x = 95) ∨ (97 ≤ x ∧ x ≤ 122) ∨ ((192 ≤ x ∧ x ≤ 214) ∨ ((216 ≤ x ∧ x ≤ 246) ∨ ((248 ≤ x ∧ x ≤ 767) ∨ ((880 ≤ x ∧ x ≤ 893) ∨ ((895 ≤ x ∧ x ≤ 8191) ∨ ((8204 ≤ x ∧ x ≤ 8205) ∨ ((8304 ≤ x ∧ x ≤ 8591) ∨ ((11264 ≤ x ∧ x ≤ 12271) ∨ ((12289 ≤ x ∧ x ≤ 55295) ∨ ((63744 ≤ x ∧ x ≤ 64975) ∨ ((65008 ≤ x ∧ x ≤ 65533) ∨ ((65536 ≤ x ∧ x ≤ 983039)))))))))))))))
  · rw [if_pos h, if_pos (hl h)]
  · rw [if_neg h, if_neg (fun z => h (hr z))]
theorem own_agree (c : Int32) : own_r1 c = 1 := by
  unfold own_r1 own_f1_j16_S0; rw [if_pos (own_same c)]; rfl
theorem own_plain (p0 p1 p2 : Int32) : own_r0 p0 p1 p2 = 1 := by
  unfold own_r0 own_f0_j284_S0
  simp only [own_agree]; decide

set_option maxRecDepth 65536 in
set_option maxHeartbeats 40000000 in
theorem own_comes {Post : Tables → Env → Array Value → State → Outcome → State → Prop} (hpost : ∀ tb e args s v u, (limb_1_1.after args s (.returned v) u = true ∧ limb_1_2.after args s (.returned v) u = true ∧ True) → FrameEnd s (.returned v) u (Jvm.fieldLocs frame_1_writes args s ++ Jvm.arrayLocs frame_1_arrays args s ++ Jvm.staticLocs frame_1_statics s) 16 192 → Post tb e args s (.returned v) u) :
    ArmFor flags0 classFile x code maxLocals ret World_1 tables_1 room_1 Calls_1 rest_1 Pre_1 Post := by
  intro l hfl _ _ p e ha hc hk s m args below hf hA hF happ hP
  obtain ⟨hcalls, hrest, hpre⟩ := hP
  obtain ⟨-, -, -, hnamed, -, -, -, hat⟩ := (Spec.applies_iff hf).mp happ
  obtain ⟨hg, hn⟩ := and_e (Cond.before_iff.mp (show (Jvm.Cond.and given_1 narrow_1).before args s = true from hpre))
  obtain ⟨gc, g0⟩ := and_e hg
  obtain ⟨v0, g1⟩ := and_e g0
  obtain ⟨v1, g2⟩ := and_e g1
  obtain ⟨w0, w1, w2, rfl⟩ : ∃ w0 w1 w2 : Value, args = #[w0, w1, w2] := by
    have hs : args.size = 3 := by simpa [Cond.value, given_1] using gc
    obtain ⟨L⟩ := args
    match L, hs with
    | [w0, w1, w2], _ => exact ⟨w0, w1, w2, rfl⟩
  have hw := fun d (hd : d ∈ tables_1) => atoms_spec (ws := Jvm.Cond.code x code maxLocals ret :: tables_1) hat d (List.mem_cons_of_mem _ hd)
  obtain ⟨i0, ei0⟩ := is_v v0
  obtain rfl : w0 = (.int i0) := Option.some.inj ei0
  obtain ⟨i1, ei1⟩ := is_v v1
  obtain rfl : w1 = (.int i1) := Option.some.inj ei1
  obtain ⟨i2, ei2⟩ := is_v g2
  obtain rfl : w2 = (.int i2) := Option.some.inj ei2
  obtain ⟨n, o, h1, h2, h3, _, L, rfl, ⟨rfl, N, -⟩, hq⟩ := rm0 l s _ hw tables_1 i0 i1 i2  s.heap s.heap.size (Nat.le_refl _)  p e ha hc hk s m _ below hf ((Spec.applies_iff_loose hf).mp happ).1 ⟨rfl, State.Warmed39.refl s, rfl⟩ trivial
  have hv : own_r0 i0 i1 i2 = 1 := own_plain i0 i1 i2
  refine ⟨n, _, h1, h2, h3, hpost _ _ _ _ _ _ ⟨Cond.after_iff.mpr rfl, Cond.after_iff.mpr (eq_i res_at (Term.int_eval (1)) (congrArg Value.int hv)), trivial⟩ ⟨hq.1, hq.2.1, (hq.2.2.sift fun y hy => Or.inr (N y hy)).mono (by decide) (by decide)⟩⟩
theorem main_1_1 : Claimed_1_1 := own_comes fun _ _ _ _ _ _ h hF => ⟨h.1, hF⟩
theorem main_1_2 : Claimed_1_2 := own_comes fun _ _ _ _ _ _ h hF => ⟨h.2.1, hF⟩
end Jvm.Pilot.@@N@@
namespace Jvm.Pilot.@@N@@
open Jvm Jvm.ClassFile Sem Op Lib Jvm.Free Jvm.Stand Jvm.Pilot.@@N@@.Jvm.D
/-! MADE BY PROGRAM (witnessworld.py) out of the Statement's table words and the real class files: 9 classes; the members and pool entries that the words name. The judged class is class 1, her method 3. -/
namespace start1
open Jvm.ClassFile
def u (s : String) : CpInfo := .utf8 (stringToUtf16 s)
/-- a pool by its gaps: so many unusable entries, then the entry; so many at the end -/
def gap : Nat → List CpInfo → List CpInfo
  | 0, r => r
  | n + 1, r => .unusable :: gap n r
def poolList (es : List (Nat × CpInfo)) (last : Nat) : List CpInfo := es.foldr (fun e r => gap e.1 (e.2 :: r)) (gap last [])
def pool (es : List (Nat × CpInfo)) (last : Nat) : Array CpInfo := ⟨poolList es last⟩
def fileOf (pool : Array CpInfo) (this : Nat) (attrs : Array Attribute := #[]) (ms : Array MethodInfo := #[]) (fl : Nat := 33) (sup : Nat := 0) (ifs : Array Nat := #[]) (fds : Array FieldInfo := #[]) : ClassFile where
  minorVersion := 0
  majorVersion := 65
  constantPool := pool
  accessFlags := fl
  thisClass := this
  superClass := sup
  interfaces := ifs
  fields := fds
  methods := ms
  attributes := attrs
def plain (name : String) (sup : Option ClassId) : Class where
  name := name
  kind := .ordinary
  loader := none
  accessFlags := 33
  super := sup
  interfaces := #[]
  cf := none
  fields := #[]
  methods := #[]
  instanceTypes := #[]
  staticTypes := #[]
  resolved := #[]
  callSites := []
  init := .initialized
  statics := none
  mirror := none

def pool0 : Array CpInfo := pool [(5, u "<init>"), (0, u "()V"), (1, .class_ 10), (1, u "java/lang/Object")] 113

def k0m0 : Method := { name := "<init>", desc := "()V", sig := { parameters := [], returnType := none }, accessFlags := 1, code := none }
/-- java/lang/Object -/
def k0 : Class := { plain "java/lang/Object" none with
  accessFlags := 33
  interfaces := #[]
  cf := some (fileOf pool0 8 #[] #[{ accessFlags := 1, nameIndex := 5, descriptorIndex := 6, attributes := #[] }] 33 0 #[] #[])
  fields := #[]
  methods := #[k0m0]
  instanceTypes := #[]
  staticTypes := #[]
  resolved := Array.replicate 124 none
  statics := none }

def pool1 : Array CpInfo := pool [(2, .class_ 4), (1, u "java/lang/Object"), (0, u "<init>"), (0, u "()V"), (0, .integer 983039), (0, .integer 55296), (0, .integer 63743), (0, .integer 64976), (0, .integer 65007), (0, .integer 65534), (0, .integer 65535), (0, .methodref 15 16), (0, .class_ 17), (0, .nameAndType 18 19), (0, u "com/example/emscher/emscher/model/XmlNames"), (0, u "isNameStart"), (0, u "(I)Z"), (0, .methodref 21 22), (0, .class_ 23), (0, .nameAndType 24 19), (0, u "com/example/emscher/emscher/model/XmlNamesIsNameStartPinLaw"), (0, u "ref"), (0, .integer 55295), (0, .integer 63744), (0, .integer 64975), (0, .integer 65008), (0, .integer 65533), (0, .integer 65536), (2, .integer 2147483649), (0, .integer 2147483646), (0, .integer 2147483647), (0, .methodref 21 37), (0, .nameAndType 38 19), (0, u "agrees"), (0, .integer 1048575), (3, u "law"), (0, u "(III)Z")] 4

def k1m0 : Method := { name := "<init>", desc := "()V", sig := { parameters := [], returnType := none }, accessFlags := 2, code := none }
def k1c1 : Code := { maxStack := 2, maxLocals := 1, code := method_2_code, exceptionTable := #[], attributes := #[] }
def k1m1 : Method := { name := "ref", desc := "(I)Z", sig := { parameters := [.int], returnType := some .boolean }, accessFlags := 10, code := some k1c1 }
def k1c2 : Code := { maxStack := 2, maxLocals := 1, code := method_3_code, exceptionTable := #[], attributes := #[] }
def k1m2 : Method := { name := "agrees", desc := "(I)Z", sig := { parameters := [.int], returnType := some .boolean }, accessFlags := 10, code := some k1c2 }
def k1c3 : Code := { maxStack := 4, maxLocals := 5, code := code, exceptionTable := #[], attributes := #[] }
def k1m3 : Method := { name := "law", desc := "(III)Z", sig := { parameters := [.int, .int, .int], returnType := some .boolean }, accessFlags := 9, code := some k1c3 }
/-- com/example/emscher/emscher/model/XmlNamesIsNameStartPinLaw -/
def k1 : Class := { plain "com/example/emscher/emscher/model/XmlNamesIsNameStartPinLaw" (some 0) with
  accessFlags := 49
  interfaces := #[]
  cf := some (fileOf pool1 21 #[] #[{ accessFlags := 2, nameIndex := 5, descriptorIndex := 6, attributes := #[] }, { accessFlags := 10, nameIndex := 24, descriptorIndex := 19, attributes := #[] }, { accessFlags := 10, nameIndex := 38, descriptorIndex := 19, attributes := #[] }, { accessFlags := 9, nameIndex := 43, descriptorIndex := 44, attributes := #[] }] 49 2 #[] #[])
  fields := #[]
  methods := #[k1m0, k1m1, k1m2, k1m3]
  instanceTypes := #[]
  staticTypes := #[]
  resolved := Array.replicate 49 none
  statics := none }

def pool2 : Array CpInfo := pool [(2, .class_ 4), (1, u "java/lang/Object"), (0, u "<init>"), (0, u "()V"), (0, .integer 55295), (0, .integer 63744), (0, .integer 64975), (0, .integer 65008), (0, .integer 65533), (0, .integer 65536), (0, .integer 983039), (1, .class_ 17), (1, u "com/example/emscher/emscher/model/XmlNames"), (0, u "isNameStart"), (0, u "(I)Z"), (1, .class_ 22), (0, u "com/example/emscher/emscher/model/XmlNames$SecondEdition"), (3, .class_ 27), (0, u "com/example/emscher/emscher/model/XmlNames$Names")] 110

def k2m0 : Method := { name := "<init>", desc := "()V", sig := { parameters := [], returnType := none }, accessFlags := 2, code := none }
def k2c1 : Code := { maxStack := 2, maxLocals := 1, code := prog_150_method_3_code, exceptionTable := #[], attributes := #[] }
def k2m1 : Method := { name := "isNameStart", desc := "(I)Z", sig := { parameters := [.int], returnType := some .boolean }, accessFlags := 9, code := some k2c1 }
/-- com/example/emscher/emscher/model/XmlNames -/
def k2 : Class := { plain "com/example/emscher/emscher/model/XmlNames" (some 0) with
  accessFlags := 33
  interfaces := #[]
  cf := some (fileOf pool2 15 #[.nestMembers #[21, 26]] #[{ accessFlags := 2, nameIndex := 5, descriptorIndex := 6, attributes := #[] }, { accessFlags := 9, nameIndex := 18, descriptorIndex := 19, attributes := #[] }] 33 2 #[] #[])
  fields := #[]
  methods := #[k2m0, k2m1]
  instanceTypes := #[]
  staticTypes := #[]
  resolved := Array.replicate 138 none
  statics := none }

def pool3 : Array CpInfo := pool [(1, u "java/lang/Cloneable"), (0, .class_ 1), (0, u "java/lang/Object"), (0, .class_ 3)] 3

/-- java/lang/Cloneable -/
def k3 : Class := { plain "java/lang/Cloneable" (some 0) with
  accessFlags := 1537
  interfaces := #[]
  cf := some (fileOf pool3 2 #[] #[] 1537 4 #[] #[])
  fields := #[]
  methods := #[]
  instanceTypes := #[]
  staticTypes := #[]
  resolved := Array.replicate 8 none
  statics := none }

def pool4 : Array CpInfo := pool [(1, u "java/io/Serializable"), (0, .class_ 1), (0, u "java/lang/Object"), (0, .class_ 3)] 3

/-- java/io/Serializable -/
def k4 : Class := { plain "java/io/Serializable" (some 0) with
  accessFlags := 1537
  interfaces := #[]
  cf := some (fileOf pool4 2 #[] #[] 1537 4 #[] #[])
  fields := #[]
  methods := #[]
  instanceTypes := #[]
  staticTypes := #[]
  resolved := Array.replicate 8 none
  statics := none }

/-- the primitive byte -/
def k5 : Class := { plain "byte" none with kind := .primitive 'B', accessFlags := 0x411 }
/-- [B -/
def k6 : Class := { plain "[B" (some 0) with kind := .array 5 .byte, interfaces := #[3, 4], accessFlags := 1041 }

/-- the primitive int -/
def k7 : Class := { plain "int" none with kind := .primitive 'I', accessFlags := 0x411 }
/-- [I -/
def k8 : Class := { plain "[I" (some 0) with kind := .array 7 .int, interfaces := #[3, 4], accessFlags := 1041 }

def heap : Heap := #[]
def classes : Array Class := #[k0, k1, k2, k3, k4, k5, k6, k7, k8]
def interned : List (Array UInt16 × Addr) := []
def slotsUsed : Nat := 0
def theMethod : MethodId := ⟨1, 3⟩
def args0 : Array Value := #[.int 65, .int 7, .int 1]
def aboutOver (below : List Frame) : State where
  vm := { classes := classes, interned := interned.toArray }
  heap := heap
  slotsUsed := slotsUsed
  threads := #[{ frames := .invoking theMethod args0 :: below }]
def below0 : List Frame := [.native { method := ⟨0, 0⟩, args := #[] }]
def about1 : State := aboutOver below0
def p0 : Program := .bare "" "" ""
def e0 : Env := launch0.env 0 0 0
theorem w_frames : about1.frames = Frame.invoking theMethod args0 :: below0 := rfl
set_option maxRecDepth 65536 in
theorem w_args : argsFit about1.vm theMethod args0 = true := by decide +kernel
set_option maxRecDepth 65536 in
theorem w_heap : heapFits about1 = true := by decide +kernel
set_option maxRecDepth 65536 in
theorem w_runnable : about1.curStatus? = some .runnable := by decide +kernel
set_option maxRecDepth 65536 in
theorem w_alone : about1.alone = true := by decide +kernel
set_option maxRecDepth 65536 in
theorem w_named : about1.methodNamed? x = some theMethod := by decide +kernel
set_option maxRecDepth 65536 in
theorem w_hears : about1.hears theMethod below0 = true := by decide +kernel
set_option maxRecDepth 65536 in
theorem w_ripe : about1.ripe theMethod args0 below0 = true := by decide +kernel
theorem w_running : about1.status = .running := rfl
set_option maxRecDepth 65536 in
theorem w_room : about1.hasRoom e0.platform room_1 = true :=
  launch0.hasRoom_least _ room_1 (by decide +kernel) (by decide +kernel) (by decide +kernel) (by decide +kernel) (by decide +kernel) (by decide +kernel)
theorem allAtoms_all (ts : List Jvm.Cond) (a : Array Jvm.Value) (st : Jvm.State) : (allAtoms ts).before a st = ts.all (fun c => c.before a st) := by
  induction ts with
  | nil => rfl
  | cons c t ih =>
    show (Jvm.Cond.and c (allAtoms t)).before a st = _
    rw [Jvm.Cond.before_and, ih, List.all_cons]
def words1 : List Jvm.Cond := Jvm.Cond.code x code maxLocals ret :: tables_1
/-- a 'code' word, met by the world's own term for the bytes: nothing is compared byte by byte -/
theorem code_word {y : MethodName} {bytes : ByteArray} {mx : Nat} {rt : Option FieldType} {a : Array Value} {s : State} {m : MethodId} {meth : Method} {c : Code} (h1 : s.methodNamed? y = some m) (h2 : s.vm.method? m = some meth) (h3 : meth.code = some c) (h4 : c.code = bytes)
    (h5 : (c.maxLocals == mx && c.exceptionTable.isEmpty && decide (c.maxStack ≤ mostOperands) && decide (meth.sig.returnType = rt) && !meth.locks && decide (parseMethodDescriptor y.desc = some meth.sig)) = true) : (Jvm.Cond.code y bytes mx rt).before a s = true := by
  simp only [Bool.and_eq_true, beq_iff_eq, Bool.not_eq_true', decide_eq_true_eq] at h5
  obtain ⟨⟨⟨⟨⟨g1, g2⟩, g3⟩, g4⟩, g5⟩, g6⟩ := h5
  simp [Cond.before, Cond.holds, Cond.value, h1, h2, h3, h4, g1, g2, g3, g4, g5, g6]
def isCode : Jvm.Cond → Bool
  | .code _ _ _ _ => true
  | _ => false
theorem all_split {L : List Jvm.Cond} {P : Jvm.Cond → Bool} (h1 : L.all (fun c => isCode c || P c) = true) (h2 : ∀ c ∈ L.filter isCode, P c = true) : L.all P = true := by
  refine List.all_eq_true.mpr fun c hc => ?_
  have h := List.all_eq_true.mp h1 c hc
  rcases Bool.eq_false_or_eq_true (isCode c) with hi | hi
  · exact h2 c (List.mem_filter.mpr ⟨hc, hi⟩)
  · simpa [hi] using h
set_option maxRecDepth 65536 in
theorem w_c0 : (Jvm.Cond.code x code maxLocals ret).before args0 about1 = true := code_word (m := ⟨1, 3⟩) (meth := k1m3) (c := k1c3) (by decide +kernel) rfl rfl rfl (by decide +kernel)
set_option maxRecDepth 65536 in
theorem w_c1 : (Jvm.Cond.code ({ cls := "com/example/emscher/emscher/model/XmlNamesIsNameStartPinLaw", name := "agrees", desc := "(I)Z" } : Jvm.MethodName) method_3_code (1 : Nat) (Option.some Jvm.ClassFile.FieldType.boolean)).before args0 about1 = true := code_word (m := ⟨1, 2⟩) (meth := k1m2) (c := k1c2) (by decide +kernel) rfl rfl rfl (by decide +kernel)
set_option maxRecDepth 65536 in
theorem w_c2 : (Jvm.Cond.code ({ cls := "com/example/emscher/emscher/model/XmlNames", name := "isNameStart", desc := "(I)Z" } : Jvm.MethodName) prog_150_method_3_code (1 : Nat) (Option.some Jvm.ClassFile.FieldType.boolean)).before args0 about1 = true := code_word (m := ⟨2, 1⟩) (meth := k2m1) (c := k2c1) (by decide +kernel) rfl rfl rfl (by decide +kernel)
set_option maxRecDepth 65536 in
theorem w_c3 : (Jvm.Cond.code ({ cls := "com/example/emscher/emscher/model/XmlNamesIsNameStartPinLaw", name := "ref", desc := "(I)Z" } : Jvm.MethodName) method_2_code (1 : Nat) (Option.some Jvm.ClassFile.FieldType.boolean)).before args0 about1 = true := code_word (m := ⟨1, 1⟩) (meth := k1m1) (c := k1c1) (by decide +kernel) rfl rfl rfl (by decide +kernel)
def codes1 : List Jvm.Cond := [Jvm.Cond.code x code maxLocals ret, Jvm.Cond.code ({ cls := "com/example/emscher/emscher/model/XmlNamesIsNameStartPinLaw", name := "agrees", desc := "(I)Z" } : Jvm.MethodName) method_3_code (1 : Nat) (Option.some Jvm.ClassFile.FieldType.boolean), Jvm.Cond.code ({ cls := "com/example/emscher/emscher/model/XmlNames", name := "isNameStart", desc := "(I)Z" } : Jvm.MethodName) prog_150_method_3_code (1 : Nat) (Option.some Jvm.ClassFile.FieldType.boolean), Jvm.Cond.code ({ cls := "com/example/emscher/emscher/model/XmlNamesIsNameStartPinLaw", name := "ref", desc := "(I)Z" } : Jvm.MethodName) method_2_code (1 : Nat) (Option.some Jvm.ClassFile.FieldType.boolean)]
set_option maxRecDepth 65536 in
theorem codes_eq : words1.filter isCode = codes1 := rfl
theorem w_codes : ∀ c ∈ words1.filter isCode, c.before args0 about1 = true := by
  rw [codes_eq]
  intro c hc
  simp only [codes1, List.mem_cons, List.not_mem_nil, or_false] at hc
  rcases hc with rfl | rfl | rfl | rfl
  · exact w_c0
  · exact w_c1
  · exact w_c2
  · exact w_c3
set_option maxRecDepth 65536 in
theorem w_t1 : (words1.take 24).all (fun c => isCode c || c.before args0 about1) = true := by decide +kernel
set_option maxRecDepth 65536 in
theorem w_t2 : (words1.drop 24).all (fun c => isCode c || c.before args0 about1) = true := by decide +kernel
theorem w_tables : (allAtoms (Jvm.Cond.code x code maxLocals ret :: tables_1)).before args0 about1 = true := by
  rw [allAtoms_all]
  show words1.all (fun c => c.before args0 about1) = true
  refine all_split ?_ w_codes
  rw [← List.take_append_drop 24 words1, List.all_append, w_t1, w_t2]
  rfl
set_option maxRecDepth 65536 in
theorem w_case : (Jvm.Cond.and given_1 narrow_1).before args0 about1 = true := by decide +kernel
theorem w_applies : (headSpec (Jvm.Cond.code x code maxLocals ret :: tables_1) room_1).applies x e0.platform about1 = true :=
  (Spec.applies_iff w_frames).mpr ⟨w_running, w_runnable, w_alone, w_named, w_hears, w_ripe, w_room, w_tables⟩
theorem atStart : AtStart classFile x code maxLocals ret World_1 tables_1 room_1 Calls_1 rest_1 Pre_1 launch0 p0 e0 about1 theMethod args0 below0 :=
  ⟨lists_1, trivial, launch0.admits_env _ _ _, launch0.least_env, fairChoices_fair.cas, fairChoices_fair.clock, w_frames, w_args, w_heap, w_applies, trivial, trivial, w_case⟩
end start1
theorem witness_1 : WitnessClaimed_1 := ⟨start1.p0, start1.e0, start1.about1, start1.theMethod, start1.args0, start1.below0, start1.atStart⟩
end Jvm.Pilot.@@N@@
