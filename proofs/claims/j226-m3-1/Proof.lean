import JvmDerived
import JvmDerived.Pilot.@@N@@Statement
import JvmDerived.Pilot.@@N@@Code
set_option linter.unusedVariables false
set_option linter.unusedSimpArgs false
@@BLOCK:NumsL.lean.txt@@
namespace Jvm.RoadKit
open Sem ClassFile Op Lib Jvm.Stand Jvm.Free Jvm.LawKit
section New
variable {p : Program} {l : Launch} {e : Env} {R : Room} {s : State} {m : MethodId} {args : Array Value} {below : List Frame} {meth : Method} {c : Code} {T : State} {locs : List Loc} {cells slots : Nat}
theorem retI (X : Stand p l e R s m args below meth c T locs cells slots) (hx : p.tables.exec = Jvm.exec) {pc : Nat} {Ls : Array Slot} {z : Int32} {rest : List Value} (hret : meth.sig.returnType = some .int) (hd : decode c.code pc = .ok (.ireturn, 1)) {fs : List Frame}
    (hl : ∀ (f : JFrame) (acts : List Action), f.method = m → f.locked = none → f.entered = [] → (doReturn e (T.setTop f) acts (some (.int z))).1 = T.setFrames fs) : Steps p.tables e below (T.setTop (mkF m pc Ls (.int z :: rest))) (T.setFrames fs) := by
  have hm' : T.vm.method? m = some meth := X.method'
  have hn : narrow .int (.int z) = .int z := rfl
  show Steps p.tables e below (T.setTop { method := m, pc := pc, locals := Ls, stack := _ :: rest, locked := none }) _
  jvm_step X.here [X.here.top, hx, hd, hm', hret, hn]
  first | (intro acts; rw [hl _ acts rfl rfl rfl]) | rw [hl _ _ rfl rfl rfl]
  exact Steps.refl _
end New
end Jvm.RoadKit
namespace Jvm.Pilot.@@N@@
open Jvm Jvm.ClassFile Sem Op Lib Jvm.Free Jvm.Stand Jvm.LawKit Jvm.RoadKit Bundle Jvm.Pilot.@@N@@.Jvm.D
/-! own: Java's shifts and remainders, written short -/
def own_shl (x y : Int32) : Int32 := x <<< (y &&& 31)
def own_shr (x y : Int32) : Int32 := x >>> (y &&& 31)
def own_ushr (x y : Int32) : Int32 := (x.toUInt32 >>> (y &&& 31).toUInt32).toInt32
def own_shlL (x : Int64) (y : Int32) : Int64 := x <<< (y &&& 0x3f).toInt64
def own_shrL (x : Int64) (y : Int32) : Int64 := x >>> (y &&& 0x3f).toInt64
def own_ushrL (x : Int64) (y : Int32) : Int64 := (x.toUInt64 >>> (y &&& 0x3f).toInt64.toUInt64).toInt64
def own_rem (x y : Int32) : Int32 := x - (x / y) * y
def own_remL (x y : Int64) : Int64 := x - (x / y) * y
theorem own_rem_nn {x y : Int32} (hx : 0 ≤ x.toInt) (hy : 0 < y.toInt) : (own_rem x y).toInt = x.toInt % y.toInt := by
  have hd : (x / y).toInt = x.toInt / y.toInt := by
    rw [Jvm.Kit.i32_div (by omega), Int.tdiv_eq_ediv_of_nonneg hx]
  have b1 := Int.emod_add_mul_ediv x.toInt y.toInt
  have b2 := Int.emod_nonneg x.toInt (by omega : y.toInt ≠ 0)
  have b3 := Int.emod_lt_of_pos x.toInt hy
  have b4 : 0 ≤ x.toInt / y.toInt := Int.ediv_nonneg hx (by omega)
  have hX := Int32.toInt_lt x
  have b5 : 0 ≤ y.toInt * (x.toInt / y.toInt) := Int.mul_nonneg (by omega) b4
  have hm : ((x / y) * y).toInt = y.toInt * (x.toInt / y.toInt) := by
    rw [Jvm.Kit.i32_mul (by rw [hd, Int.mul_comm]; omega) (by rw [hd, Int.mul_comm]; omega), hd, Int.mul_comm]
  unfold own_rem
  rw [Jvm.Kit.i32_sub (by rw [hm]; omega) (by rw [hm]; omega), hm]; omega
/-! own: a run from a frame to what 'Post' says -/
section OwnRun
variable {p : Program} {l : Launch} {e : Env} {R : Room} {s : State} {m : MethodId} {args : Array Value} {below : List Frame} {meth : Method} {c : Code} {T T' : State} {locs : List Loc} {cells slots : Nat} {g g' : JFrame} {Post : State → Prop} {n0 : Nat} {P : Heap → Prop} {C S : Nat} {Z : State} {h : Heap} {a : Addr} {k : ClassId} {n j : Int32} {vs : List Value} {d v : Value} {E : State → Outcome → State → List Loc → Nat → Nat → Prop}
def own_Run (p : Program) (e : Env) (below : List Frame) (T : State) (g : JFrame) (Post : State → Prop) : Prop := ∃ t, Steps p.tables e below (T.setTop g) t ∧ Post t
theorem own_step (st : ∀ t, Steps p.tables e below (T'.setTop g') t → Steps p.tables e below (T.setTop g) t) (h : own_Run p e below T' g' Post) : own_Run p e below T g Post := h.imp fun t k => ⟨st t k.1, k.2⟩
theorem own_tr (st : Steps p.tables e below (T.setTop g) (T'.setTop g')) (h : own_Run p e below T' g' Post) : own_Run p e below T g Post := h.imp fun t k => ⟨st.trans k.1, k.2⟩
theorem own_here (h : Post (T.setTop g)) : own_Run p e below T g Post := ⟨_, Steps.refl _, h⟩
theorem own_entry {Q : State → Prop} (q : g = g') (h : own_Run p e below T g' Q) : own_Run p e below T g Q := q ▸ h
def own_Q (n0 : Nat) (P : Heap → Prop) (w : Option Value) : Option Value → Heap → List Loc → Prop := fun v h L => v = w ∧ Fr n0 L ∧ P h
def own_Ret (E : State → Outcome → State → List Loc → Nat → Nat → Prop) (U : State) (below : List Frame) (C S : Nat) (Q : Option Value → Heap → List Loc → Prop) : State → Prop := fun t => t.status = .running ∧ ∃ o, Ended t below o ∧ ∃ v L, o = .returned v ∧ Q v t.heap L ∧ E U o t L C S
theorem own_fin {Q : Option Value → Heap → List Loc → Prop} (h : own_Run p e below T g (own_Ret E s below C S Q)) : ∃ s₂ o, Steps p.tables e below (T.setTop g) s₂ ∧ s₂.status = .running ∧ Ended s₂ below o ∧ ∃ v L, o = .returned v ∧ Q v s₂.heap L ∧ E s o s₂ L C S := by
  obtain ⟨t, st, hr, o, he, r⟩ := h; exact ⟨t, o, st, hr, he, r⟩
theorem own_vi {x y : Int32} (q : x = y) (h : own_Run p e below T g (own_Ret E s below C S (own_Q n0 P (some (.int y))))) : own_Run p e below T g (own_Ret E s below C S (own_Q n0 P (some (.int x)))) := q ▸ h
theorem own_vj {x y : Int64} (q : x = y) (h : own_Run p e below T g (own_Ret E s below C S (own_Q n0 P (some (.long y))))) : own_Run p e below T g (own_Ret E s below C S (own_Q n0 P (some (.long x)))) := q ▸ h
theorem own_leave {w : Option Value} (X : Stand p l e R s m args below meth c T locs cells slots) (hv : meth.sig.returnType = none → w = none) (hlk : meth.locks = false) (hC : cells ≤ C) (hS : slots ≤ S) (N : Fr n0 locs) (hP : P T.heap)
    (st : ∀ fs, (∀ (f : JFrame) (acts : List Action), f.method = m → f.locked = none → f.entered = [] → (doReturn e (T.setTop f) acts w).1 = T.setFrames fs) → Steps p.tables e below (T.setTop g) (T.setFrames fs)) : own_Run p e below T g (own_Ret FrameEnd s below C S (own_Q n0 P w)) := by
  obtain ⟨fs, hr, hrun, hended, hW, hsame⟩ := X.leave (v := w) hv hlk
  exact ⟨_, st fs hr, hrun, _, hended, _, _, rfl, ⟨rfl, N, hP⟩, ⟨_, rfl⟩, hW, hsame.mono hC hS⟩
theorem own_retZ (X : Stand p l e R s m args below meth c T locs cells slots) (hx : p.tables.exec = Jvm.exec) (hlk : meth.locks = false) {pc : Nat} {Ls : Array Slot} {z : Int32} {rest : List Value} (hret : meth.sig.returnType = some .boolean) (hd : decode c.code pc = .ok (.ireturn, 1)) (hC : cells ≤ C) (hS : slots ≤ S) (N : Fr n0 locs) (hP : P T.heap) :
    own_Run p e below T (mkF m pc Ls (.int z :: rest)) (own_Ret FrameEnd s below C S (own_Q n0 P (some (.int (nar .boolean z))))) :=
  own_leave X (fun q => by rw [hret] at q; cases q) hlk hC hS N hP fun fs hr => retN X hx (t := .boolean) hret (by simp) hd hr
theorem own_retI (X : Stand p l e R s m args below meth c T locs cells slots) (hx : p.tables.exec = Jvm.exec) (hlk : meth.locks = false) {pc : Nat} {Ls : Array Slot} {z : Int32} {rest : List Value} (hret : meth.sig.returnType = some .int) (hd : decode c.code pc = .ok (.ireturn, 1)) (hC : cells ≤ C) (hS : slots ≤ S) (N : Fr n0 locs) (hP : P T.heap) :
    own_Run p e below T (mkF m pc Ls (.int z :: rest)) (own_Ret FrameEnd s below C S (own_Q n0 P (some (.int z)))) :=
  own_leave X (fun q => by rw [hret] at q; cases q) hlk hC hS N hP fun fs hr => retI X hx hret hd hr
theorem own_retJ (X : Stand p l e R s m args below meth c T locs cells slots) (hx : p.tables.exec = Jvm.exec) (hlk : meth.locks = false) {pc : Nat} {Ls : Array Slot} {z : Int64} (hret : meth.sig.returnType = some .long) (hd : decode c.code pc = .ok (.lreturn, 1)) (hC : cells ≤ C) (hS : slots ≤ S) (N : Fr n0 locs) (hP : P T.heap) :
    own_Run p e below T (mkF m pc Ls [.long z]) (own_Ret FrameEnd s below C S (own_Q n0 P (some (.long z)))) :=
  own_leave X (fun q => by rw [hret] at q; cases q) hlk hC hS N hP fun fs hr => X.lreturnOut hx hret hd hr
theorem own_retD (X : Stand p l e R s m args below meth c T locs cells slots) (hx : p.tables.exec = Jvm.exec) (hlk : meth.locks = false) {pc : Nat} {Ls : Array Slot} {z : UInt64} {rest : List Value} (hret : meth.sig.returnType = some .double) (hd : decode c.code pc = .ok (.dreturn, 1)) (hC : cells ≤ C) (hS : slots ≤ S) (N : Fr n0 locs) (hP : P T.heap) :
    own_Run p e below T (mkF m pc Ls (.double z :: rest)) (own_Ret FrameEnd s below C S (own_Q n0 P (some (.double z)))) :=
  own_leave X (fun q => by rw [hret] at q; cases q) hlk hC hS N hP fun fs hr => retOut X hx (i := .dreturn) hret rfl (Or.inr (Or.inr (Or.inl ⟨rfl, rfl, z, rfl⟩))) hd hr
theorem own_retV (X : Stand p l e R s m args below meth c T locs cells slots) (hx : p.tables.exec = Jvm.exec) (hlk : meth.locks = false) {pc : Nat} {Ls : Array Slot} (hret : meth.sig.returnType = none) (hd : decode c.code pc = .ok (.return_, 1)) (hC : cells ≤ C) (hS : slots ≤ S) (N : Fr n0 locs) (hP : P T.heap) :
    own_Run p e below T (mkF m pc Ls []) (own_Ret FrameEnd s below C S (own_Q n0 P none)) :=
  own_leave X (fun _ => rfl) hlk hC hS N hP fun fs hr => X.returnOut hx hret hd hr
theorem own_retA (X : Stand p l e R s m args below meth c T locs cells slots) (hx : p.tables.exec = Jvm.exec) (hlk : meth.locks = false) {pc : Nat} {Ls : Array Slot} {w : Value} {t : FieldType} (hret : meth.sig.returnType = some t) (ht : t.isReference = true) (hw : w.isRef = true) (hd : decode c.code pc = .ok (.areturn, 1)) (hC : cells ≤ C) (hS : slots ≤ S) (N : Fr n0 locs) (hP : P T.heap) :
    own_Run p e below T (mkF m pc Ls [w]) (own_Ret FrameEnd s below C S (own_Q n0 P (some w))) :=
  own_leave X (fun q => by rw [hret] at q; cases q) hlk hC hS N hP fun fs hr => X.areturnOut hx hw hret ht hd hr
/-! own: the same where the walk may have loaded a String constant (the tables may hold a new pair) -/
theorem own_mixW {U t : State} {o : Outcome} {L : List Loc} {k n k' n' : Nat} (h : ReturnedEndW U o t L k n) (hk : k ≤ k') (hn : n ≤ n') : ReturnedEndW U o t L k' n' := ⟨h.1, h.2.1, h.2.2.1, h.2.2.2.mono hk hn⟩
theorem own_leaveW {vm₁ : Vm} {n : Nat} {w : Option Value} (X : Stand p l e R (s.setVm vm₁) m args below meth c T locs cells slots) (hS : s.Since vm₁ n) (hn : n ≤ T.heap.size) (hv : meth.sig.returnType = none → w = none) (hlk : meth.locks = false) (hC : cells ≤ C) (hSl : slots ≤ S) (N : Fr n0 locs) (hP : P T.heap)
    (st : ∀ fs, (∀ (f : JFrame) (acts : List Action), f.method = m → f.locked = none → f.entered = [] → (doReturn e (T.setTop f) acts w).1 = T.setFrames fs) → Steps p.tables e below (T.setTop g) (T.setFrames fs)) : own_Run p e below T g (own_Ret ReturnedEndW s below C S (own_Q n0 P w)) := by
  obtain ⟨fs, hr, hrun, hended, hW⟩ := X.leaveW hS hn (v := w) hv hlk
  exact ⟨_, st fs hr, hrun, _, hended, _, _, rfl, ⟨rfl, N, hP⟩, own_mixW hW hC hSl⟩
theorem own_retZW {vm₁ : Vm} {n : Nat} (X : Stand p l e R (s.setVm vm₁) m args below meth c T locs cells slots) (hx : p.tables.exec = Jvm.exec) (hlk : meth.locks = false) {pc : Nat} {Ls : Array Slot} {z : Int32} {rest : List Value} (hret : meth.sig.returnType = some .boolean) (hd : decode c.code pc = .ok (.ireturn, 1)) (hC : cells ≤ C) (hSl : slots ≤ S) (N : Fr n0 locs) (hP : P T.heap) (hS : s.Since vm₁ n) (hn : n ≤ T.heap.size) :
    own_Run p e below T (mkF m pc Ls (.int z :: rest)) (own_Ret ReturnedEndW s below C S (own_Q n0 P (some (.int (nar .boolean z))))) :=
  own_leaveW X hS hn (fun q => by rw [hret] at q; cases q) hlk hC hSl N hP fun fs hr => retN X hx (t := .boolean) hret (by simp) hd hr
theorem own_retVW {vm₁ : Vm} {n : Nat} (X : Stand p l e R (s.setVm vm₁) m args below meth c T locs cells slots) (hx : p.tables.exec = Jvm.exec) (hlk : meth.locks = false) {pc : Nat} {Ls : Array Slot} (hret : meth.sig.returnType = none) (hd : decode c.code pc = .ok (.return_, 1)) (hC : cells ≤ C) (hSl : slots ≤ S) (N : Fr n0 locs) (hP : P T.heap) (hS : s.Since vm₁ n) (hn : n ≤ T.heap.size) :
    own_Run p e below T (mkF m pc Ls []) (own_Ret ReturnedEndW s below C S (own_Q n0 P none)) :=
  own_leaveW X hS hn (fun _ => rfl) hlk hC hSl N hP fun fs hr => X.returnOut hx hret hd hr
/-- no static's home -/
def own_Pl (h : Heap) (a : Addr) : Prop := ∃ c : Cell, h[a]? = some c ∧ c.vm.isStatics = false
theorem own_plV {ty : FieldType} (F : Arv Z h a k ty n vs d) : own_Pl h a := by obtain ⟨c, A, -⟩ := F; exact ⟨c, A.1, A.plain⟩
theorem own_plE {Cn : String} (F : Exa Z h a Cn) : own_Pl h a := by obtain ⟨c, kk, h1, -, -, h4, -⟩ := F; exact ⟨c, h1, h4⟩
theorem own_keepS {h' : Heap} {ws : List Addr} {Cn fn dn : String} (F : Sta Z h Cn fn dn v) (K : Keep h h' ws) (A : ∀ a ∈ ws, own_Pl h a) : Sta Z h' Cn fn dn v := by
  obtain ⟨cf, i, kk, f, st, cell, h1, h2, h3, h4, h5, h6, h7⟩ := F
  refine ⟨cf, i, kk, f, st, cell, h1, h2, h3, h4, K.2.1 st cell h5 (fun hm => ?_), h6, h7⟩
  obtain ⟨c, q1, q2⟩ := A st hm
  cases h5.symm.trans q1; rw [q2] at h6; cases h6
/-! own: an array's component, by its Arv -/
theorem own_ldI (X : Stand p l e R s m args below meth c T locs cells slots) (hx : p.tables.exec = Jvm.exec) (hZ : Z.Warmed39 s.vm) (eT : T.heap = h) (F : Arv Z h a k .int n vs d) (q : ¬ j < 0 ∧ j < n) (u : vs.getD j.toNatClampNeg d = v) (hg : g.method = m) {rest : List Value} (hs : g.stack = .int j :: .ref a :: rest) (hd : decode c.code g.pc = .ok (.iaload, 1)) :
    ∀ t, Steps p.tables e below (T.setTop { g with pc := g.pc + 1, stack := v :: rest }) t → Steps p.tables e below (T.setTop g) t := by
  obtain ⟨cl, Ar, -, Sz, -, Hs, -⟩ := F
  exact fun t kt => X.iaload hx (by rw [eT]; exact Ar.1) (State.isArrayOf_alike hZ.alike Ar.2.1) Ar.2.2 (inb_of Sz q) (Hs.at (inb_of Sz q) u) hg hs hd t kt
theorem own_ldJ (X : Stand p l e R s m args below meth c T locs cells slots) (hx : p.tables.exec = Jvm.exec) (hZ : Z.Warmed39 s.vm) (eT : T.heap = h) (F : Arv Z h a k .long n vs d) (q : ¬ j < 0 ∧ j < n) (u : vs.getD j.toNatClampNeg d = v) (hg : g.method = m) {rest : List Value} (hs : g.stack = .int j :: .ref a :: rest) (hd : decode c.code g.pc = .ok (.laload, 1)) :
    ∀ t, Steps p.tables e below (T.setTop { g with pc := g.pc + 1, stack := v :: rest }) t → Steps p.tables e below (T.setTop g) t := by
  obtain ⟨cl, Ar, -, Sz, -, Hs, -⟩ := F
  exact fun t kt => X.laload hx (by rw [eT]; exact Ar.1) (State.isArrayOf_alike hZ.alike Ar.2.1) Ar.2.2 (inb_of Sz q) (Hs.at (inb_of Sz q) u) hg hs hd t kt
theorem own_ldB (X : Stand p l e R s m args below meth c T locs cells slots) (hx : p.tables.exec = Jvm.exec) (hZ : Z.Warmed39 s.vm) (eT : T.heap = h) (F : Arv Z h a k .byte n vs d) (q : ¬ j < 0 ∧ j < n) (u : vs.getD j.toNatClampNeg d = v) (hg : g.method = m) {rest : List Value} (hs : g.stack = .int j :: .ref a :: rest) (hd : decode c.code g.pc = .ok (.baload, 1)) :
    ∀ t, Steps p.tables e below (T.setTop { g with pc := g.pc + 1, stack := v :: rest }) t → Steps p.tables e below (T.setTop g) t := by
  obtain ⟨cl, Ar, -, Sz, -, Hs, -⟩ := F
  exact fun t kt => X.baloadBytes hx (by rw [eT]; exact Ar.1) (State.isArrayOf_alike hZ.alike Ar.2.1) Ar.2.2 (inb_of Sz q) (Hs.at (inb_of Sz q) u) hg hs hd t kt
theorem own_len (X : Stand p l e R s m args below meth c T locs cells slots) (hx : p.tables.exec = Jvm.exec) (hZ : Z.Warmed39 s.vm) (eT : T.heap = h) {ty : FieldType} (F : Arv Z h a k ty n vs d) (hg : g.method = m) {rest : List Value} (hs : g.stack = .ref a :: rest) (hd : decode c.code g.pc = .ok (.arraylength, 1)) :
    ∀ t, Steps p.tables e below (T.setTop { g with pc := g.pc + 1, stack := .int n :: rest }) t → Steps p.tables e below (T.setTop g) t := by
  obtain ⟨cl, Ar, -, Sz, Ng, -, -⟩ := F
  intro t kt
  refine X.arraylength hx (by rw [eT]; exact Ar.1) (State.isArrayOf_alike hZ.alike Ar.2.1) hg hs hd t ?_
  rw [len_of Sz Ng]; exact kt
theorem own_stI (X : Stand p l e R s m args below meth c T locs cells slots) (hx : p.tables.exec = Jvm.exec) (hZ : Z.Warmed39 s.vm) (eT : T.heap = h) (F : Arv Z h a k .int n vs d) (N : Fr n0 locs) (ge : n0 ≤ a) {x : Int32} (q : ¬ j < 0 ∧ j < n) (i : Nat) (hi : j.toNatClampNeg = i) (hl : i < vs.length) (hg : g.method = m) {rest : List Value} (hs : g.stack = .int x :: .int j :: .ref a :: rest) (hd : decode c.code g.pc = .ok (.iastore, 1)) :
    ∃ T' h' L, Stand p l e R s m args below meth c T' L cells slots ∧ T'.heap = h' ∧ Fr n0 L ∧ Wr h h' a j.toNatClampNeg (.int x) ∧ Arv Z h' a k .int n (vs.set i (.int x)) d ∧ ∀ t, Steps p.tables e below (T'.setTop { g with pc := g.pc + 1, stack := rest }) t → Steps p.tables e below (T.setTop g) t := by
  obtain ⟨cl, Ar, q1, Sz, Ng, Hs, Gs⟩ := F
  obtain ⟨T', h', X', e', W, st⟩ := stI X hx hZ eT Ar (j := j) (x := x) (inb_of Sz q) hg hs hd
  exact ⟨T', h', _, X', e', Fr.snoc X' N ge, W, Arv.set Ar q1 Sz Ng Hs Gs rfl W i hi hl, st⟩
theorem own_stJ (X : Stand p l e R s m args below meth c T locs cells slots) (hx : p.tables.exec = Jvm.exec) (hZ : Z.Warmed39 s.vm) (eT : T.heap = h) (F : Arv Z h a k .long n vs d) (N : Fr n0 locs) (ge : n0 ≤ a) {x : Int64} (q : ¬ j < 0 ∧ j < n) (i : Nat) (hi : j.toNatClampNeg = i) (hl : i < vs.length) (hg : g.method = m) {rest : List Value} (hs : g.stack = .long x :: .int j :: .ref a :: rest) (hd : decode c.code g.pc = .ok (.lastore, 1)) :
    ∃ T' h' L, Stand p l e R s m args below meth c T' L cells slots ∧ T'.heap = h' ∧ Fr n0 L ∧ Wr h h' a j.toNatClampNeg (.long x) ∧ Arv Z h' a k .long n (vs.set i (.long x)) d ∧ ∀ t, Steps p.tables e below (T'.setTop { g with pc := g.pc + 1, stack := rest }) t → Steps p.tables e below (T.setTop g) t := by
  obtain ⟨cl, Ar, q1, Sz, Ng, Hs, Gs⟩ := F
  obtain ⟨T', h', X', e', W, st⟩ := stJ X hx hZ eT Ar (j := j) (x := x) (inb_of Sz q) hg hs hd
  exact ⟨T', h', _, X', e', Fr.snoc X' N ge, W, Arv.set Ar q1 Sz Ng Hs Gs rfl W i hi hl, st⟩
theorem own_stB (X : Stand p l e R s m args below meth c T locs cells slots) (hx : p.tables.exec = Jvm.exec) (hZ : Z.Warmed39 s.vm) (eT : T.heap = h) (F : Arv Z h a k .byte n vs d) (N : Fr n0 locs) (ge : n0 ≤ a) {x : Int32} (q : ¬ j < 0 ∧ j < n) (i : Nat) (hi : j.toNatClampNeg = i) (hl : i < vs.length) (hg : g.method = m) {rest : List Value} (hs : g.stack = .int x :: .int j :: .ref a :: rest) (hd : decode c.code g.pc = .ok (.bastore, 1)) :
    ∃ T' h' L, Stand p l e R s m args below meth c T' L cells slots ∧ T'.heap = h' ∧ Fr n0 L ∧ Wr h h' a j.toNatClampNeg (.int (nar .byte x)) ∧ Arv Z h' a k .byte n (vs.set i (.int (nar .byte x))) d ∧ ∀ t, Steps p.tables e below (T'.setTop { g with pc := g.pc + 1, stack := rest }) t → Steps p.tables e below (T.setTop g) t := by
  obtain ⟨cl, Ar, q1, Sz, Ng, Hs, Gs⟩ := F
  obtain ⟨T', h', X', e', W, st⟩ := stB X hx hZ eT Ar (j := j) (x := x) (inb_of Sz q) hg hs hd
  exact ⟨T', h', _, X', e', Fr.snoc X' N ge, W, Arv.set Ar q1 Sz Ng Hs Gs (fits_nar_byte _) W i hi hl, st⟩
theorem own_ldR {Cn : String} (X : Stand p l e R s m args below meth c T locs cells slots) (hx : p.tables.exec = Jvm.exec) (hZ : Z.Warmed39 s.vm) (eT : T.heap = h) (F : Arv Z h a k (.object Cn) n vs d) (q : ¬ j < 0 ∧ j < n) (u : vs.getD j.toNatClampNeg d = v) (hg : g.method = m) {rest : List Value} (hs : g.stack = .int j :: .ref a :: rest) (hd : decode c.code g.pc = .ok (.aaload, 1)) :
    ∀ t, Steps p.tables e below (T.setTop { g with pc := g.pc + 1, stack := v :: rest }) t → Steps p.tables e below (T.setTop g) t := by
  obtain ⟨cl, Ar, -, Sz, -, Hs, -⟩ := F
  exact fun t kt => X.aaload hx (by rw [eT]; exact Ar.1) (State.isArrayOf_alike hZ.alike Ar.2.1) rfl Ar.2.2 (inb_of Sz q) (Hs.at (inb_of Sz q) u) hg hs hd t kt
theorem own_stR {Cn : String} {y : Addr} (X : Stand p l e R s m args below meth c T locs cells slots) (hx : p.tables.exec = Jvm.exec) (hZ : Z.Warmed39 s.vm) (eT : T.heap = h) (F : Arv Z h a k (.object Cn) n vs d) (O : Ovr Z k Cn) (I : Ins Z h y Cn true) (N : Fr n0 locs) (ge : n0 ≤ a) (q : ¬ j < 0 ∧ j < n) (i : Nat) (hi : j.toNatClampNeg = i) (hl : i < vs.length) (hg : g.method = m) {rest : List Value} (hs : g.stack = .ref y :: .int j :: .ref a :: rest) (hd : decode c.code g.pc = .ok (.aastore, 1)) :
    ∃ T' h' L, Stand p l e R s m args below meth c T' L cells slots ∧ T'.heap = h' ∧ Fr n0 L ∧ Wr h h' a j.toNatClampNeg (.ref y) ∧ Arv Z h' a k (.object Cn) n (vs.set i (.ref y)) d ∧ ∀ t, Steps p.tables e below (T'.setTop { g with pc := g.pc + 1, stack := rest }) t → Steps p.tables e below (T.setTop g) t := by
  obtain ⟨cl, Ar, q1, Sz, Ng, Hs, Gs⟩ := F
  obtain ⟨T', h', X', e', W, st⟩ := stR X hx hZ eT Ar (j := j) (v := .ref y) (inb_of Sz q) rfl (Sto.ofV Ar q1 O I) hg hs hd
  exact ⟨T', h', _, X', e', Fr.snoc X' N ge, W, Arv.set Ar q1 Sz Ng Hs Gs rfl W i hi hl, st⟩
end OwnRun
theorem own_pn0 : plainName "com/example/emscher/emscher/io/XmlDocuments$Place" = true := by first | (simp [plainName, overriddenIn]; done) | decide +kernel
theorem own_d1_0 : decode prog_46_method_1_code 0 = .ok (.aload_n 0, 1) := by decide +kernel
theorem own_d1_1 : decode prog_46_method_1_code 1 = .ok (.invokespecial 3, 3) := by decide +kernel
theorem own_d1_4 : decode prog_46_method_1_code 4 = .ok (.aload_n 0, 1) := by decide +kernel
theorem own_d1_5 : decode prog_46_method_1_code 5 = .ok (.iload_n 1, 1) := by decide +kernel
theorem own_d1_6 : decode prog_46_method_1_code 6 = .ok (.putfield 9, 3) := by decide +kernel
theorem own_d1_9 : decode prog_46_method_1_code 9 = .ok (.aload_n 0, 1) := by decide +kernel
theorem own_d1_10 : decode prog_46_method_1_code 10 = .ok (.iload_n 2, 1) := by decide +kernel
theorem own_d1_11 : decode prog_46_method_1_code 11 = .ok (.putfield 15, 3) := by decide +kernel
theorem own_d1_14 : decode prog_46_method_1_code 14 = .ok (.return_, 1) := by decide +kernel
theorem own_ef1 (m : MethodId) (a0 : Addr) (p1 : Int32) (p2 : Int32) : entryFrame m #[(.ref a0), (.int p1), (.int p2)] 3 = (mkF m 0 #[.val (.ref a0), .val (.int p1), .val (.int p2)] []) := by first | (simp [entryFrame, mkF, argsToLocals, Value.category]; done) | rfl
set_option maxRecDepth 65536 in
set_option maxHeartbeats 40000000 in
theorem rm1 (l : Launch) (Z : State) (a0 : Array Value) (hw : ∀ d ∈ tables_1, d.before a0 Z = true) (ws : List Jvm.Cond) (a0 : Addr) (p1 : Int32) (p2 : Int32) (h0 : Heap) (n0 : Nat) (Z0 : n0 ≤ h0.size) (g0 : n0 ≤ a0) (Fl : Fld Z h0 a0 "com/example/emscher/emscher/io/XmlDocuments$Place" "line" "I" (.int (0 : Int32))) (Fc : Fld Z h0 a0 "com/example/emscher/emscher/io/XmlDocuments$Place" "column" "I" (.int (0 : Int32))) (E0 : Exa Z h0 a0 "com/example/emscher/emscher/io/XmlDocuments$Place") :
    MetFree l (⟨"com/example/emscher/emscher/io/XmlDocuments$Place", "<init>", "(II)V"⟩ : MethodName) (head1 (Jvm.Cond.code (⟨"com/example/emscher/emscher/io/XmlDocuments$Place", "<init>", "(II)V"⟩ : MethodName) prog_46_method_1_code 3 none :: ws) ({ frames := 1, cells := 0, slots := 0, locals := 12 } : Room)) (fun a U => a = #[(.ref a0), (.int p1), (.int p2)] ∧ Z.Warmed39 U.vm ∧ U.heap = h0) (fun _ _ _ _ _ => True) (fun _ U o U' => ∃ v L, o = .returned v ∧ own_Q n0 (fun h => Keep h0 h [a0] ∧ Exa Z h a0 "com/example/emscher/emscher/io/XmlDocuments$Place" ∧ Fld Z h a0 "com/example/emscher/emscher/io/XmlDocuments$Place" "line" "I" (.int p1) ∧ Fld Z h a0 "com/example/emscher/emscher/io/XmlDocuments$Place" "column" "I" (.int p2)) none v U'.heap L ∧ FrameEnd U o U' L ({ frames := 1, cells := 0, slots := 0, locals := 12 } : Room).cells ({ frames := 1, cells := 0, slots := 0, locals := 12 } : Room).slots) := by
  refine MetFree.of_bodySF (plainFor_of_name own_pn0) hisR ?_
  intro p e s m args below meth c s₁ Bd hml0 hP hK
  obtain ⟨rfl, hZ, hh⟩ := hP
  have hx := Bd.exec
  have hby := Bd.bytes
  have hml : c.maxLocals = 3 := hml0
  have hown : s.vm.findClass "com/example/emscher/emscher/io/XmlDocuments$Place" = some m.cls := findClass_of_methodNamed Bd.named
  have hnm := (name_of_methodNamed Bd.named Bd.method).1
  have hret := Bd.returns
  have hlk : meth.locks = false := BodyLoose.notSynchronized Bd
  have X0 : Stand p l e ({ frames := 1, cells := 0, slots := 0, locals := 12 } : Room) s m #[(.ref a0), (.int p1), (.int p2)] below meth c s₁ [] 0 0 := Stand.of_body Bd
  have e0 : s₁.heap = h0 := by rw [← hh, Bd.state]; rfl
  have N0 := Fr.nil n0
  clear Bd hh hK
  refine own_fin ?_
  refine own_entry (own_ef1 m a0 p1 p2) ?_
  show own_Run p e below s₁ (mkF m 0 #[.val (.ref a0), .val (.int p1), .val (.int p2)] []) _
  refine own_step (fun t k => XS.aloadN X0.here hx rfl (hb hby own_d1_0) rfl rfl k) ?_
  show own_Run p e below s₁ (mkF m 1 #[.val (.ref a0), .val (.int p1), .val (.int p2)] [(.ref a0)]) _
  obtain ⟨T10, X10, e10, st10⟩ := initO X0 hx hZ hown (hw _ (List.mem_of_getElem? (i := 6) rfl)) (hw _ (List.mem_of_getElem? (i := 7) rfl)) (hw _ (List.mem_of_getElem? (i := 8) rfl)) e0 (g := (mkF m 1 #[.val (.ref a0), .val (.int p1), .val (.int p2)] [(.ref a0)])) rfl (by rw [hml]; rfl) rfl (hb hby own_d1_1) (by decide) (W := 0) (by show 2 * 0 + _ ≤ _; exact Nat.le_of_eq rfl) (by decide)
  refine own_step st10 ?_
  show own_Run p e below T10 (mkF m 4 #[.val (.ref a0), .val (.int p1), .val (.int p2)] []) _
  refine own_step (fun t k => XS.aloadN X10.here hx rfl (hb hby own_d1_4) rfl rfl k) ?_
  show own_Run p e below T10 (mkF m 5 #[.val (.ref a0), .val (.int p1), .val (.int p2)] [(.ref a0)]) _
  refine own_step (fun t k => XS.iloadN X10.here hx rfl (hb hby own_d1_5) rfl  k) ?_
  show own_Run p e below T10 (mkF m 6 #[.val (.ref a0), .val (.int p1), .val (.int p2)] [(.int p1), (.ref a0)]) _
  obtain ⟨T11, h11, X11, e11, W11, st11⟩ := putF X10 hx hZ hown (host := "") (Or.inl (hw _ (List.mem_of_getElem? (i := 9) rfl))) Via.refl e10 Fl E0 (Or.inr ⟨(hw _ (List.mem_of_getElem? (i := 10) rfl)), rfl, hnm⟩) (hw _ (List.mem_of_getElem? (i := 1) rfl)) (ty := .int) (by decide) rfl rfl (g := (mkF m 6 #[.val (.ref a0), .val (.int p1), .val (.int p2)] [(.int p1), (.ref a0)])) rfl rfl (hb hby own_d1_6)
  have f12 := Fl.same W11
  have f13 := Fc.other W11 (Or.inr (slot_ne (Or.inr (hw _ (List.mem_of_getElem? (i := 12) rfl))) (Or.inr (hw _ (List.mem_of_getElem? (i := 10) rfl))) (by decide) (t := .int) (t' := .int) (by decide) (by decide)))
  have f14 := E0.wr W11
  have N11 := Fr.snoc X11 N0 g0
  have Zn11 : n0 ≤ h11.size := Nat.le_trans Z0 (Keep.of_wr W11).1
  have K11 : Keep h0 h11 [a0] := (Keep.refl h0 [a0]).wr W11 (Or.inl (List.mem_of_getElem? (i := 0) rfl))
  refine own_step st11 ?_
  show own_Run p e below T11 (mkF m 9 #[.val (.ref a0), .val (.int p1), .val (.int p2)] []) _
  refine own_step (fun t k => XS.aloadN X11.here hx rfl (hb hby own_d1_9) rfl rfl k) ?_
  show own_Run p e below T11 (mkF m 10 #[.val (.ref a0), .val (.int p1), .val (.int p2)] [(.ref a0)]) _
  refine own_step (fun t k => XS.iloadN X11.here hx rfl (hb hby own_d1_10) rfl  k) ?_
  show own_Run p e below T11 (mkF m 11 #[.val (.ref a0), .val (.int p1), .val (.int p2)] [(.int p2), (.ref a0)]) _
  obtain ⟨T15, h15, X15, e15, W15, st15⟩ := putF X11 hx hZ hown (host := "") (Or.inl (hw _ (List.mem_of_getElem? (i := 11) rfl))) Via.refl e11 f13 f14 (Or.inr ⟨(hw _ (List.mem_of_getElem? (i := 12) rfl)), rfl, hnm⟩) (hw _ (List.mem_of_getElem? (i := 1) rfl)) (ty := .int) (by decide) rfl rfl (g := (mkF m 11 #[.val (.ref a0), .val (.int p1), .val (.int p2)] [(.int p2), (.ref a0)])) rfl rfl (hb hby own_d1_11)
  have f16 := f12.other W15 (Or.inr (slot_ne (Or.inr (hw _ (List.mem_of_getElem? (i := 10) rfl))) (Or.inr (hw _ (List.mem_of_getElem? (i := 12) rfl))) (by decide) (t := .int) (t' := .int) (by decide) (by decide)))
  have f17 := f13.same W15
  have f18 := f14.wr W15
  have N15 := Fr.snoc X15 N11 g0
  have Zn15 : n0 ≤ h15.size := Nat.le_trans Zn11 (Keep.of_wr W15).1
  have K15 : Keep h0 h15 [a0] := K11.wr W15 (Or.inl (List.mem_of_getElem? (i := 0) rfl))
  refine own_step st15 ?_
  show own_Run p e below T15 (mkF m 14 #[.val (.ref a0), .val (.int p1), .val (.int p2)] []) _
  exact own_retV X15 hx hlk hret (hb hby own_d1_14) (by decide) (by decide) N15 (by rw [e15]; exact ⟨K15, f18, f16, f17⟩)
theorem own_d3_0 : decode prog_46_method_3_code 0 = .ok (.aload_n 0, 1) := by decide +kernel
theorem own_d3_1 : decode prog_46_method_3_code 1 = .ok (.getfield 9, 3) := by decide +kernel
theorem own_d3_4 : decode prog_46_method_3_code 4 = .ok (.aload_n 1, 1) := by decide +kernel
theorem own_d3_5 : decode prog_46_method_3_code 5 = .ok (.getfield 9, 3) := by decide +kernel
theorem own_d3_8 : decode prog_46_method_3_code 8 = .ok (.if_icmp .gt 25, 3) := by decide +kernel
theorem own_d3_11 : decode prog_46_method_3_code 11 = .ok (.aload_n 0, 1) := by decide +kernel
theorem own_d3_12 : decode prog_46_method_3_code 12 = .ok (.getfield 9, 3) := by decide +kernel
theorem own_d3_15 : decode prog_46_method_3_code 15 = .ok (.aload_n 1, 1) := by decide +kernel
theorem own_d3_16 : decode prog_46_method_3_code 16 = .ok (.getfield 9, 3) := by decide +kernel
theorem own_d3_19 : decode prog_46_method_3_code 19 = .ok (.if_icmp .ne 18, 3) := by decide +kernel
theorem own_d3_22 : decode prog_46_method_3_code 22 = .ok (.aload_n 0, 1) := by decide +kernel
theorem own_d3_23 : decode prog_46_method_3_code 23 = .ok (.getfield 15, 3) := by decide +kernel
theorem own_d3_26 : decode prog_46_method_3_code 26 = .ok (.aload_n 1, 1) := by decide +kernel
theorem own_d3_27 : decode prog_46_method_3_code 27 = .ok (.getfield 15, 3) := by decide +kernel
theorem own_d3_30 : decode prog_46_method_3_code 30 = .ok (.if_icmp .le 7, 3) := by decide +kernel
theorem own_d3_33 : decode prog_46_method_3_code 33 = .ok (.iconst 1, 1) := by decide +kernel
theorem own_d3_34 : decode prog_46_method_3_code 34 = .ok (.goto 4, 3) := by decide +kernel
theorem own_d3_37 : decode prog_46_method_3_code 37 = .ok (.iconst 0, 1) := by decide +kernel
theorem own_d3_38 : decode prog_46_method_3_code 38 = .ok (.ireturn, 1) := by decide +kernel
def own_f3_j38_S0 (x1 : Int32) (x0 : Int32) (y1 : Int32) (y0 : Int32) : Int32 := (if x1 < x0 then (1 : Int32) else (if x0 = x1 then (if y1 < y0 then (1 : Int32) else (0 : Int32)) else (0 : Int32)))
def own_r3 (x0 : Int32) (y0 : Int32) (x1 : Int32) (y1 : Int32) : Int32 := (nar .boolean (own_f3_j38_S0 x1 x0 y1 y0))
theorem own_ef3 (m : MethodId) (a0 : Addr) (a1 : Addr) : entryFrame m #[(.ref a0), (.ref a1)] 2 = (mkF m 0 #[.val (.ref a0), .val (.ref a1)] []) := by first | (simp [entryFrame, mkF, argsToLocals, Value.category]; done) | rfl
set_option maxRecDepth 65536 in
set_option maxHeartbeats 40000000 in
theorem rm3 (l : Launch) (Z : State) (a0 : Array Value) (hw : ∀ d ∈ tables_1, d.before a0 Z = true) (ws : List Jvm.Cond) (a0 : Addr) (a1 : Addr) (x0 : Int32) (y0 : Int32) (x1 : Int32) (y1 : Int32) (h0 : Heap) (n0 : Nat) (Z0 : n0 ≤ h0.size) (F1 : Fld Z h0 a0 "com/example/emscher/emscher/io/XmlDocuments$Place" "line" "I" (.int x0)) (F2 : Fld Z h0 a0 "com/example/emscher/emscher/io/XmlDocuments$Place" "column" "I" (.int y0)) (F3 : Fld Z h0 a1 "com/example/emscher/emscher/io/XmlDocuments$Place" "line" "I" (.int x1)) (F4 : Fld Z h0 a1 "com/example/emscher/emscher/io/XmlDocuments$Place" "column" "I" (.int y1)) :
    MetFree l (⟨"com/example/emscher/emscher/io/XmlDocuments$Place", "isAfter", "(Lcom/example/emscher/emscher/io/XmlDocuments$Place;)Z"⟩ : MethodName) (head1 (Jvm.Cond.code (⟨"com/example/emscher/emscher/io/XmlDocuments$Place", "isAfter", "(Lcom/example/emscher/emscher/io/XmlDocuments$Place;)Z"⟩ : MethodName) prog_46_method_3_code 2 (some .boolean) :: ws) ({ frames := 0, cells := 0, slots := 0, locals := 0 } : Room)) (fun a U => a = #[(.ref a0), (.ref a1)] ∧ Z.Warmed39 U.vm ∧ U.heap = h0) (fun _ _ _ _ _ => True) (fun _ U o U' => ∃ v L, o = .returned v ∧ own_Q n0 (fun h => h = h0) (some (.int (own_r3 x0 y0 x1 y1))) v U'.heap L ∧ FrameEnd U o U' L ({ frames := 0, cells := 0, slots := 0, locals := 0 } : Room).cells ({ frames := 0, cells := 0, slots := 0, locals := 0 } : Room).slots) := by
  refine MetFree.of_bodySF (plainFor_of_name own_pn0) hisR ?_
  intro p e s m args below meth c s₁ Bd hml0 hP hK
  obtain ⟨rfl, hZ, hh⟩ := hP
  have hx := Bd.exec
  have hby := Bd.bytes
  have hml : c.maxLocals = 2 := hml0
  have hown : s.vm.findClass "com/example/emscher/emscher/io/XmlDocuments$Place" = some m.cls := findClass_of_methodNamed Bd.named
  have hnm := (name_of_methodNamed Bd.named Bd.method).1
  have hret := Bd.returns
  have hlk : meth.locks = false := BodyLoose.notSynchronized Bd
  have X0 : Stand p l e ({ frames := 0, cells := 0, slots := 0, locals := 0 } : Room) s m #[(.ref a0), (.ref a1)] below meth c s₁ [] 0 0 := Stand.of_body Bd
  have e0 : s₁.heap = h0 := by rw [← hh, Bd.state]; rfl
  have N0 := Fr.nil n0
  clear Bd hh hK
  refine own_fin ?_
  refine own_entry (own_ef3 m a0 a1) ?_
  show own_Run p e below s₁ _ (own_Ret _ s below _ _ (own_Q n0 _ (some (.int (nar .boolean (own_f3_j38_S0 x1 x0 y1 y0))))))
  show own_Run p e below s₁ (mkF m 0 #[.val (.ref a0), .val (.ref a1)] []) _
  refine own_step (fun t k => XS.aloadN X0.here hx rfl (hb hby own_d3_0) rfl rfl k) ?_
  show own_Run p e below s₁ (mkF m 1 #[.val (.ref a0), .val (.ref a1)] [(.ref a0)]) _
  obtain ⟨T11, X11, e11, st11⟩ := getF X0 hx hZ hown (host := "") (Or.inl (hw _ (List.mem_of_getElem? (i := 9) rfl))) Via.refl e0 F1 (g := (mkF m 1 #[.val (.ref a0), .val (.ref a1)] [(.ref a0)])) rfl rfl (hb hby own_d3_1)
  refine own_step st11 ?_
  show own_Run p e below T11 (mkF m 4 #[.val (.ref a0), .val (.ref a1)] [(.int x0)]) _
  refine own_step (fun t k => XS.aloadN X11.here hx rfl (hb hby own_d3_4) rfl rfl k) ?_
  show own_Run p e below T11 (mkF m 5 #[.val (.ref a0), .val (.ref a1)] [(.ref a1), (.int x0)]) _
  obtain ⟨T12, X12, e12, st12⟩ := getF X11 hx hZ hown (host := "") (Or.inl (hw _ (List.mem_of_getElem? (i := 9) rfl))) Via.refl e11 F3 (g := (mkF m 5 #[.val (.ref a0), .val (.ref a1)] [(.ref a1), (.int x0)])) rfl rfl (hb hby own_d3_5)
  refine own_step st12 ?_
  show own_Run p e below T12 (mkF m 8 #[.val (.ref a0), .val (.ref a1)] [(.int x1), (.int x0)]) _
  obtain ⟨_, st13, T13, L13, rfl, X13, e13, N13⟩ : own_Run p e below T12 (mkF m 8 #[.val (.ref a0), .val (.ref a1)] [(.int x1), (.int x0)]) (fun t => ∃ (T' : State) (L' : List Loc) , t = T'.setTop (mkF m 38 #[.val (.ref a0), .val (.ref a1)] [(.int (own_f3_j38_S0 x1 x0 y1 y0))]) ∧ Stand p l e ({ frames := 0, cells := 0, slots := 0, locals := 0 } : Room) s m #[(.ref a0), (.ref a1)] below meth c T' L' 0 0 ∧ T'.heap = h0 ∧ Fr n0 L') := by
    by_cases hc14 : x1 < x0
    · refine own_step (fun t k => XS.icmpYes X12.here hx rfl (pc0 := 8) (pc' := 33) rfl (hb hby own_d3_8) rfl (tlt hc14).2.2.1 (by decide) (by decide) k) ?_
      show own_Run p e below T12 (mkF m 33 #[.val (.ref a0), .val (.ref a1)] []) _
      refine own_step (fun t k => XS.iconst X12.here hx rfl (hb hby own_d3_33) k) ?_
      show own_Run p e below T12 (mkF m 34 #[.val (.ref a0), .val (.ref a1)] [(.int (1 : Int32))]) _
      refine own_step (fun t k => XS.goto X12.here hx rfl (pc0 := 34) (pc' := 38) rfl (hb hby own_d3_34) (by decide) (by decide) k) ?_
      show own_Run p e below T12 (mkF m 38 #[.val (.ref a0), .val (.ref a1)] [(.int (1 : Int32))]) _
      have hj0 : (own_f3_j38_S0 x1 x0 y1 y0) = (1 : Int32) := (if_pos hc14)
      exact own_here ⟨T12, _, (by rw [hj0]), X12, e12, N0⟩
    · refine own_step (fun t k => XS.icmpNo X12.here hx rfl (hb hby own_d3_8) rfl (flt hc14).2.2.1 k) ?_
      show own_Run p e below T12 (mkF m 11 #[.val (.ref a0), .val (.ref a1)] []) _
      refine own_step (fun t k => XS.aloadN X12.here hx rfl (hb hby own_d3_11) rfl rfl k) ?_
      show own_Run p e below T12 (mkF m 12 #[.val (.ref a0), .val (.ref a1)] [(.ref a0)]) _
      obtain ⟨T15, X15, e15, st15⟩ := getF X12 hx hZ hown (host := "") (Or.inl (hw _ (List.mem_of_getElem? (i := 9) rfl))) Via.refl e12 F1 (g := (mkF m 12 #[.val (.ref a0), .val (.ref a1)] [(.ref a0)])) rfl rfl (hb hby own_d3_12)
      refine own_step st15 ?_
      show own_Run p e below T15 (mkF m 15 #[.val (.ref a0), .val (.ref a1)] [(.int x0)]) _
      refine own_step (fun t k => XS.aloadN X15.here hx rfl (hb hby own_d3_15) rfl rfl k) ?_
      show own_Run p e below T15 (mkF m 16 #[.val (.ref a0), .val (.ref a1)] [(.ref a1), (.int x0)]) _
      obtain ⟨T16, X16, e16, st16⟩ := getF X15 hx hZ hown (host := "") (Or.inl (hw _ (List.mem_of_getElem? (i := 9) rfl))) Via.refl e15 F3 (g := (mkF m 16 #[.val (.ref a0), .val (.ref a1)] [(.ref a1), (.int x0)])) rfl rfl (hb hby own_d3_16)
      refine own_step st16 ?_
      show own_Run p e below T16 (mkF m 19 #[.val (.ref a0), .val (.ref a1)] [(.int x1), (.int x0)]) _
      by_cases hc17 : x0 = x1
      · refine own_step (fun t k => XS.icmpNo X16.here hx rfl (hb hby own_d3_19) rfl (teq hc17).2 k) ?_
        show own_Run p e below T16 (mkF m 22 #[.val (.ref a0), .val (.ref a1)] []) _
        refine own_step (fun t k => XS.aloadN X16.here hx rfl (hb hby own_d3_22) rfl rfl k) ?_
        show own_Run p e below T16 (mkF m 23 #[.val (.ref a0), .val (.ref a1)] [(.ref a0)]) _
        obtain ⟨T18, X18, e18, st18⟩ := getF X16 hx hZ hown (host := "") (Or.inl (hw _ (List.mem_of_getElem? (i := 11) rfl))) Via.refl e16 F2 (g := (mkF m 23 #[.val (.ref a0), .val (.ref a1)] [(.ref a0)])) rfl rfl (hb hby own_d3_23)
        refine own_step st18 ?_
        show own_Run p e below T18 (mkF m 26 #[.val (.ref a0), .val (.ref a1)] [(.int y0)]) _
        refine own_step (fun t k => XS.aloadN X18.here hx rfl (hb hby own_d3_26) rfl rfl k) ?_
        show own_Run p e below T18 (mkF m 27 #[.val (.ref a0), .val (.ref a1)] [(.ref a1), (.int y0)]) _
        obtain ⟨T19, X19, e19, st19⟩ := getF X18 hx hZ hown (host := "") (Or.inl (hw _ (List.mem_of_getElem? (i := 11) rfl))) Via.refl e18 F4 (g := (mkF m 27 #[.val (.ref a0), .val (.ref a1)] [(.ref a1), (.int y0)])) rfl rfl (hb hby own_d3_27)
        refine own_step st19 ?_
        show own_Run p e below T19 (mkF m 30 #[.val (.ref a0), .val (.ref a1)] [(.int y1), (.int y0)]) _
        by_cases hc20 : y1 < y0
        · refine own_step (fun t k => XS.icmpNo X19.here hx rfl (hb hby own_d3_30) rfl (tlt hc20).2.2.2 k) ?_
          show own_Run p e below T19 (mkF m 33 #[.val (.ref a0), .val (.ref a1)] []) _
          refine own_step (fun t k => XS.iconst X19.here hx rfl (hb hby own_d3_33) k) ?_
          show own_Run p e below T19 (mkF m 34 #[.val (.ref a0), .val (.ref a1)] [(.int (1 : Int32))]) _
          refine own_step (fun t k => XS.goto X19.here hx rfl (pc0 := 34) (pc' := 38) rfl (hb hby own_d3_34) (by decide) (by decide) k) ?_
          show own_Run p e below T19 (mkF m 38 #[.val (.ref a0), .val (.ref a1)] [(.int (1 : Int32))]) _
          have hj0 : (own_f3_j38_S0 x1 x0 y1 y0) = (1 : Int32) := ((if_neg hc14).trans ((if_pos hc17).trans (if_pos hc20)))
          exact own_here ⟨T19, _, (by rw [hj0]), X19, e19, N0⟩
        · refine own_step (fun t k => XS.icmpYes X19.here hx rfl (pc0 := 30) (pc' := 37) rfl (hb hby own_d3_30) rfl (flt hc20).2.2.2 (by decide) (by decide) k) ?_
          show own_Run p e below T19 (mkF m 37 #[.val (.ref a0), .val (.ref a1)] []) _
          refine own_step (fun t k => XS.iconst X19.here hx rfl (hb hby own_d3_37) k) ?_
          show own_Run p e below T19 (mkF m 38 #[.val (.ref a0), .val (.ref a1)] [(.int (0 : Int32))]) _
          have hj0 : (own_f3_j38_S0 x1 x0 y1 y0) = (0 : Int32) := ((if_neg hc14).trans ((if_pos hc17).trans (if_neg hc20)))
          exact own_here ⟨T19, _, (by rw [hj0]), X19, e19, N0⟩
      · refine own_step (fun t k => XS.icmpYes X16.here hx rfl (pc0 := 19) (pc' := 37) rfl (hb hby own_d3_19) rfl (feq hc17).2 (by decide) (by decide) k) ?_
        show own_Run p e below T16 (mkF m 37 #[.val (.ref a0), .val (.ref a1)] []) _
        refine own_step (fun t k => XS.iconst X16.here hx rfl (hb hby own_d3_37) k) ?_
        show own_Run p e below T16 (mkF m 38 #[.val (.ref a0), .val (.ref a1)] [(.int (0 : Int32))]) _
        have hj0 : (own_f3_j38_S0 x1 x0 y1 y0) = (0 : Int32) := ((if_neg hc14).trans (if_neg hc17))
        exact own_here ⟨T16, _, (by rw [hj0]), X16, e16, N0⟩
  refine own_tr st13 ?_
  show own_Run p e below T13 (mkF m 38 #[.val (.ref a0), .val (.ref a1)] [(.int (own_f3_j38_S0 x1 x0 y1 y0))]) _
  exact own_retZ X13 hx hlk hret (hb hby own_d3_38) (by decide) (by decide) N13 e13
theorem own_pn1 : plainName "com/example/emscher/emscher/io/PlaceIsAfterPinLaw" = true := by first | (simp [plainName, overriddenIn]; done) | decide +kernel
theorem own_d4_0 : decode method_2_code 0 = .ok (.iload_n 0, 1) := by decide +kernel
theorem own_d4_1 : decode method_2_code 1 = .ok (.i2l, 1) := by decide +kernel
theorem own_d4_2 : decode method_2_code 2 = .ok (.ldc2_w 7, 3) := by decide +kernel
theorem own_d4_5 : decode method_2_code 5 = .ok (.lmul, 1) := by decide +kernel
theorem own_d4_6 : decode method_2_code 6 = .ok (.iload_n 1, 1) := by decide +kernel
theorem own_d4_7 : decode method_2_code 7 = .ok (.i2l, 1) := by decide +kernel
theorem own_d4_8 : decode method_2_code 8 = .ok (.ldc2_w 9, 3) := by decide +kernel
theorem own_d4_11 : decode method_2_code 11 = .ok (.ladd, 1) := by decide +kernel
theorem own_d4_12 : decode method_2_code 12 = .ok (.ladd, 1) := by decide +kernel
theorem own_d4_13 : decode method_2_code 13 = .ok (.lreturn, 1) := by decide +kernel
def own_r4 (p0 : Int32) (p1 : Int32) : Int64 := (((p0).toInt64 * (4294967296 : Int64)) + ((p1).toInt64 + (2147483648 : Int64)))
theorem own_ef4 (m : MethodId) (p0 : Int32) (p1 : Int32) : entryFrame m #[(.int p0), (.int p1)] 2 = (mkF m 0 #[.val (.int p0), .val (.int p1)] []) := by first | (simp [entryFrame, mkF, argsToLocals, Value.category]; done) | rfl
set_option maxRecDepth 65536 in
set_option maxHeartbeats 40000000 in
theorem rm4 (l : Launch) (Z : State) (a0 : Array Value) (hw : ∀ d ∈ tables_1, d.before a0 Z = true) (ws : List Jvm.Cond) (p0 : Int32) (p1 : Int32) (h0 : Heap) (n0 : Nat) (Z0 : n0 ≤ h0.size) :
    MetFree l (⟨"com/example/emscher/emscher/io/PlaceIsAfterPinLaw", "key", "(II)J"⟩ : MethodName) (head1 (Jvm.Cond.code (⟨"com/example/emscher/emscher/io/PlaceIsAfterPinLaw", "key", "(II)J"⟩ : MethodName) method_2_code 2 (some .long) :: ws) ({ frames := 0, cells := 0, slots := 0, locals := 0 } : Room)) (fun a U => a = #[(.int p0), (.int p1)] ∧ Z.Warmed39 U.vm ∧ U.heap = h0) (fun _ _ _ _ _ => True) (fun _ U o U' => ∃ v L, o = .returned v ∧ own_Q n0 (fun h => h = h0) (some (.long (own_r4 p0 p1))) v U'.heap L ∧ FrameEnd U o U' L ({ frames := 0, cells := 0, slots := 0, locals := 0 } : Room).cells ({ frames := 0, cells := 0, slots := 0, locals := 0 } : Room).slots) := by
  refine MetFree.of_bodySF (plainFor_of_name own_pn1) hisR ?_
  intro p e s m args below meth c s₁ Bd hml0 hP hK
  obtain ⟨rfl, hZ, hh⟩ := hP
  have hx := Bd.exec
  have hby := Bd.bytes
  have hml : c.maxLocals = 2 := hml0
  have hown : s.vm.findClass "com/example/emscher/emscher/io/PlaceIsAfterPinLaw" = some m.cls := findClass_of_methodNamed Bd.named
  have hnm := (name_of_methodNamed Bd.named Bd.method).1
  have hret := Bd.returns
  have hlk : meth.locks = false := BodyLoose.notSynchronized Bd
  have X0 : Stand p l e ({ frames := 0, cells := 0, slots := 0, locals := 0 } : Room) s m #[(.int p0), (.int p1)] below meth c s₁ [] 0 0 := Stand.of_body Bd
  have e0 : s₁.heap = h0 := by rw [← hh, Bd.state]; rfl
  have N0 := Fr.nil n0
  clear Bd hh hK
  refine own_fin ?_
  refine own_entry (own_ef4 m p0 p1) ?_
  show own_Run p e below s₁ _ (own_Ret _ s below _ _ (own_Q n0 _ (some (.long (((p0).toInt64 * (4294967296 : Int64)) + ((p1).toInt64 + (2147483648 : Int64)))))))
  show own_Run p e below s₁ (mkF m 0 #[.val (.int p0), .val (.int p1)] []) _
  refine own_step (fun t k => XS.iloadN X0.here hx rfl (hb hby own_d4_0) rfl  k) ?_
  show own_Run p e below s₁ (mkF m 1 #[.val (.int p0), .val (.int p1)] [(.int p0)]) _
  refine own_step (fun t k => XS.i2l X0.here hx rfl (hb hby own_d4_1) rfl k) ?_
  show own_Run p e below s₁ (mkF m 2 #[.val (.int p0), .val (.int p1)] [(.long (p0).toInt64)]) _
  refine own_step (fun t k => X0.ldc2Long hx hown (mvT hZ (hw _ (List.mem_of_getElem? (i := 22) rfl))) (g := (mkF m 2 #[.val (.int p0), .val (.int p1)] [(.long (p0).toInt64)])) rfl (hb hby own_d4_2) t k) ?_
  show own_Run p e below s₁ (mkF m 5 #[.val (.int p0), .val (.int p1)] [(.long (4294967296 : Int64)), (.long (p0).toInt64)]) _
  refine own_step (fun t k => XS.lmul X0.here hx rfl (hb hby own_d4_5) rfl k) ?_
  show own_Run p e below s₁ (mkF m 6 #[.val (.int p0), .val (.int p1)] [(.long ((p0).toInt64 * (4294967296 : Int64)))]) _
  refine own_step (fun t k => XS.iloadN X0.here hx rfl (hb hby own_d4_6) rfl  k) ?_
  show own_Run p e below s₁ (mkF m 7 #[.val (.int p0), .val (.int p1)] [(.int p1), (.long ((p0).toInt64 * (4294967296 : Int64)))]) _
  refine own_step (fun t k => XS.i2l X0.here hx rfl (hb hby own_d4_7) rfl k) ?_
  show own_Run p e below s₁ (mkF m 8 #[.val (.int p0), .val (.int p1)] [(.long (p1).toInt64), (.long ((p0).toInt64 * (4294967296 : Int64)))]) _
  refine own_step (fun t k => X0.ldc2Long hx hown (mvT hZ (hw _ (List.mem_of_getElem? (i := 23) rfl))) (g := (mkF m 8 #[.val (.int p0), .val (.int p1)] [(.long (p1).toInt64), (.long ((p0).toInt64 * (4294967296 : Int64)))])) rfl (hb hby own_d4_8) t k) ?_
  show own_Run p e below s₁ (mkF m 11 #[.val (.int p0), .val (.int p1)] [(.long (2147483648 : Int64)), (.long (p1).toInt64), (.long ((p0).toInt64 * (4294967296 : Int64)))]) _
  refine own_step (fun t k => XS.ladd X0.here hx rfl (hb hby own_d4_11) rfl k) ?_
  show own_Run p e below s₁ (mkF m 12 #[.val (.int p0), .val (.int p1)] [(.long ((p1).toInt64 + (2147483648 : Int64))), (.long ((p0).toInt64 * (4294967296 : Int64)))]) _
  refine own_step (fun t k => XS.ladd X0.here hx rfl (hb hby own_d4_12) rfl k) ?_
  show own_Run p e below s₁ (mkF m 13 #[.val (.int p0), .val (.int p1)] [(.long (((p0).toInt64 * (4294967296 : Int64)) + ((p1).toInt64 + (2147483648 : Int64))))]) _
  exact own_retJ X0 hx hlk hret (hb hby own_d4_13) (by decide) (by decide) N0 e0
theorem own_pd38 : parseMethodDescriptor "(II)V" = some ⟨[.int, .int], none⟩ := by decide +kernel
theorem own_pd39 : parseMethodDescriptor "(Lcom/example/emscher/emscher/io/XmlDocuments$Place;)Z" = some ⟨[(.object "com/example/emscher/emscher/io/XmlDocuments$Place")], some .boolean⟩ := by decide +kernel
theorem own_pd40 : parseMethodDescriptor "(II)J" = some ⟨[.int, .int], some .long⟩ := by decide +kernel
def own_f0_j12_S0 (p4 : Int32) (p2 : Int32) (p0 : Int32) : Int32 := (if (p4 &&& (1 : Int32)) = (0 : Int32) then p2 else p0)
def own_f0_12 (p4 : Int32) (p2 : Int32) (p0 : Int32) : Int32 := (own_f0_j12_S0 p4 p2 p0)
def own_f0_j26_S0 (p4 : Int32) (p3 : Int32) (p1 : Int32) : Int32 := (if (p4 &&& (2 : Int32)) = (0 : Int32) then p3 else p1)
def own_f0_26 (p4 : Int32) (p3 : Int32) (p1 : Int32) : Int32 := (own_f0_j26_S0 p4 p3 p1)
def own_f0_59 (p0 : Int32) (p1 : Int32) (p4 : Int32) (p2 : Int32) (p3 : Int32) : Int32 := (own_r3 p0 p1 (own_f0_12 p4 p2 p0) (own_f0_26 p4 p3 p1))
def own_f0_68 (p4 : Int32) (p2 : Int32) (p0 : Int32) (p3 : Int32) (p1 : Int32) : Int32 := (own_r3 (own_f0_12 p4 p2 p0) (own_f0_26 p4 p3 p1) p0 p1)
def own_f0_84 (p4 : Int32) (p2 : Int32) (p0 : Int32) (p3 : Int32) (p1 : Int32) : Int64 := (own_r4 (own_f0_12 p4 p2 p0) (own_f0_26 p4 p3 p1))
def own_f0_j101_S0 (p0 : Int32) (p1 : Int32) (p4 : Int32) (p2 : Int32) (p3 : Int32) : Int32 := (if (0 : Int32) < (lcmpW (own_r4 p0 p1) (own_f0_84 p4 p2 p0 p3 p1)) then (1 : Int32) else (0 : Int32))
def own_f0_j119_S0 (p4 : Int32) (p2 : Int32) (p0 : Int32) (p3 : Int32) (p1 : Int32) : Int32 := (if (0 : Int32) < (lcmpW (own_f0_84 p4 p2 p0 p3 p1) (own_r4 p0 p1)) then (1 : Int32) else (0 : Int32))
def own_f0_j127_S0 (p0 : Int32) (p1 : Int32) (p4 : Int32) (p2 : Int32) (p3 : Int32) : Int32 := (if (own_f0_59 p0 p1 p4 p2 p3) = (own_f0_j101_S0 p0 p1 p4 p2 p3) then (if (own_f0_68 p4 p2 p0 p3 p1) = (own_f0_j119_S0 p4 p2 p0 p3 p1) then (1 : Int32) else (0 : Int32)) else (0 : Int32))
def own_r0 (p0 : Int32) (p1 : Int32) (p2 : Int32) (p3 : Int32) (p4 : Int32) : Int32 := (nar .boolean (own_f0_j127_S0 p0 p1 p4 p2 p3))
theorem own_ef0 (m : MethodId) (p0 : Int32) (p1 : Int32) (p2 : Int32) (p3 : Int32) (p4 : Int32) : entryFrame m #[(.int p0), (.int p1), (.int p2), (.int p3), (.int p4)] maxLocals = (mkF m 0 #[.val (.int p0), .val (.int p1), .val (.int p2), .val (.int p3), .val (.int p4), .unset, .unset, .unset, .unset, .unset, .unset, .unset, .unset, .unset, .unset] []) := by first | (simp [entryFrame, mkF, argsToLocals, Value.category, maxLocals]; done) | rfl
set_option maxRecDepth 65536 in
set_option maxHeartbeats 40000000 in
theorem rm0 (l : Launch) (Z : State) (a0 : Array Value) (hw : ∀ d ∈ tables_1, d.before a0 Z = true) (ws : List Jvm.Cond) (p0 : Int32) (p1 : Int32) (p2 : Int32) (p3 : Int32) (p4 : Int32) (h0 : Heap) (n0 : Nat) (Z0 : n0 ≤ h0.size) :
    MetFree l x (head1 (Jvm.Cond.code x code maxLocals ret :: ws) room_1) (fun a U => a = #[(.int p0), (.int p1), (.int p2), (.int p3), (.int p4)] ∧ Z.Warmed39 U.vm ∧ U.heap = h0) (fun _ _ _ _ _ => True) (fun _ U o U' => ∃ v L, o = .returned v ∧ own_Q n0 (fun _ => True) (some (.int (own_r0 p0 p1 p2 p3 p4))) v U'.heap L ∧ FrameEnd U o U' L room_1.cells room_1.slots) := by
  refine MetFree.of_bodySF (plainFor_of_name own_pn1) hisR ?_
  intro p e s m args below meth c s₁ Bd hml0 hP hK
  obtain ⟨rfl, hZ, hh⟩ := hP
  have hx := Bd.exec
  have hby := Bd.bytes
  have hml : c.maxLocals = 15 := hml0
  have hown : s.vm.findClass "com/example/emscher/emscher/io/PlaceIsAfterPinLaw" = some m.cls := findClass_of_methodNamed Bd.named
  have hnm := (name_of_methodNamed Bd.named Bd.method).1
  have hret := Bd.returns
  have hlk : meth.locks = false := BodyLoose.notSynchronized Bd
  have X0 : Stand p l e room_1 s m #[(.int p0), (.int p1), (.int p2), (.int p3), (.int p4)] below meth c s₁ [] 0 0 := Stand.of_body Bd
  have e0 : s₁.heap = h0 := by rw [← hh, Bd.state]; rfl
  have N0 := Fr.nil n0
  clear Bd hh hK
  refine own_fin ?_
  refine own_entry (own_ef0 m p0 p1 p2 p3 p4) ?_
  show own_Run p e below s₁ _ (own_Ret _ s below _ _ (own_Q n0 _ (some (.int (nar .boolean (own_f0_j127_S0 p0 p1 p4 p2 p3))))))
  show own_Run p e below s₁ (mkF m 0 #[.val (.int p0), .val (.int p1), .val (.int p2), .val (.int p3), .val (.int p4), .unset, .unset, .unset, .unset, .unset, .unset, .unset, .unset, .unset, .unset] []) _
  refine own_step (fun t k => XS.iload X0.here hx rfl (hb hby at_0) rfl  k) ?_
  show own_Run p e below s₁ (mkF m 2 #[.val (.int p0), .val (.int p1), .val (.int p2), .val (.int p3), .val (.int p4), .unset, .unset, .unset, .unset, .unset, .unset, .unset, .unset, .unset, .unset] [(.int p4)]) _
  refine own_step (fun t k => XS.iconst X0.here hx rfl (hb hby at_2) k) ?_
  show own_Run p e below s₁ (mkF m 3 #[.val (.int p0), .val (.int p1), .val (.int p2), .val (.int p3), .val (.int p4), .unset, .unset, .unset, .unset, .unset, .unset, .unset, .unset, .unset, .unset] [(.int (1 : Int32)), (.int p4)]) _
  refine own_step (fun t k => XS.iand X0.here hx rfl (hb hby at_3) rfl k) ?_
  show own_Run p e below s₁ (mkF m 4 #[.val (.int p0), .val (.int p1), .val (.int p2), .val (.int p3), .val (.int p4), .unset, .unset, .unset, .unset, .unset, .unset, .unset, .unset, .unset, .unset] [(.int (p4 &&& (1 : Int32)))]) _
  obtain ⟨_, st31, rfl⟩ : own_Run p e below s₁ (mkF m 4 #[.val (.int p0), .val (.int p1), .val (.int p2), .val (.int p3), .val (.int p4), .unset, .unset, .unset, .unset, .unset, .unset, .unset, .unset, .unset, .unset] [(.int (p4 &&& (1 : Int32)))]) (fun t => t = s₁.setTop (mkF m 12 #[.val (.int p0), .val (.int p1), .val (.int p2), .val (.int p3), .val (.int p4), .unset, .unset, .unset, .unset, .unset, .unset, .unset, .unset, .unset, .unset] [(.int (own_f0_j12_S0 p4 p2 p0))])) := by
    by_cases hc32 : (p4 &&& (1 : Int32)) = (0 : Int32)
    · refine own_step (fun t k => XS.ifYes X0.here hx rfl (pc0 := 4) (pc' := 11) rfl (hb hby at_4) rfl ((if0 _ _).trans (teq hc32).1) (by decide) (by decide) k) ?_
      show own_Run p e below s₁ (mkF m 11 #[.val (.int p0), .val (.int p1), .val (.int p2), .val (.int p3), .val (.int p4), .unset, .unset, .unset, .unset, .unset, .unset, .unset, .unset, .unset, .unset] []) _
      refine own_step (fun t k => XS.iloadN X0.here hx rfl (hb hby at_11) rfl  k) ?_
      show own_Run p e below s₁ (mkF m 12 #[.val (.int p0), .val (.int p1), .val (.int p2), .val (.int p3), .val (.int p4), .unset, .unset, .unset, .unset, .unset, .unset, .unset, .unset, .unset, .unset] [(.int p2)]) _
      have hj0 : (own_f0_j12_S0 p4 p2 p0) = p2 := (if_pos hc32)
      exact own_here (by rw [hj0])
    · refine own_step (fun t k => XS.ifNo X0.here hx rfl (hb hby at_4) rfl ((if0 _ _).trans (feq hc32).1) k) ?_
      show own_Run p e below s₁ (mkF m 7 #[.val (.int p0), .val (.int p1), .val (.int p2), .val (.int p3), .val (.int p4), .unset, .unset, .unset, .unset, .unset, .unset, .unset, .unset, .unset, .unset] []) _
      refine own_step (fun t k => XS.iloadN X0.here hx rfl (hb hby at_7) rfl  k) ?_
      show own_Run p e below s₁ (mkF m 8 #[.val (.int p0), .val (.int p1), .val (.int p2), .val (.int p3), .val (.int p4), .unset, .unset, .unset, .unset, .unset, .unset, .unset, .unset, .unset, .unset] [(.int p0)]) _
      refine own_step (fun t k => XS.goto X0.here hx rfl (pc0 := 8) (pc' := 12) rfl (hb hby at_8) (by decide) (by decide) k) ?_
      show own_Run p e below s₁ (mkF m 12 #[.val (.int p0), .val (.int p1), .val (.int p2), .val (.int p3), .val (.int p4), .unset, .unset, .unset, .unset, .unset, .unset, .unset, .unset, .unset, .unset] [(.int p0)]) _
      have hj0 : (own_f0_j12_S0 p4 p2 p0) = p0 := (if_neg hc32)
      exact own_here (by rw [hj0])
  refine own_tr st31 ?_
  show own_Run p e below s₁ (mkF m 12 #[.val (.int p0), .val (.int p1), .val (.int p2), .val (.int p3), .val (.int p4), .unset, .unset, .unset, .unset, .unset, .unset, .unset, .unset, .unset, .unset] [(.int (own_f0_j12_S0 p4 p2 p0))]) _
  refine own_step (fun t k => XS.istore X0.here hx rfl (hb hby at_12) rfl (l' := #[.val (.int p0), .val (.int p1), .val (.int p2), .val (.int p3), .val (.int p4), .val (.int (own_f0_12 p4 p2 p0)), .unset, .unset, .unset, .unset, .unset, .unset, .unset, .unset, .unset]) rfl k) ?_
  show own_Run p e below s₁ (mkF m 14 #[.val (.int p0), .val (.int p1), .val (.int p2), .val (.int p3), .val (.int p4), .val (.int (own_f0_12 p4 p2 p0)), .unset, .unset, .unset, .unset, .unset, .unset, .unset, .unset, .unset] []) _
  refine own_step (fun t k => XS.iload X0.here hx rfl (hb hby at_14) rfl  k) ?_
  show own_Run p e below s₁ (mkF m 16 #[.val (.int p0), .val (.int p1), .val (.int p2), .val (.int p3), .val (.int p4), .val (.int (own_f0_12 p4 p2 p0)), .unset, .unset, .unset, .unset, .unset, .unset, .unset, .unset, .unset] [(.int p4)]) _
  refine own_step (fun t k => XS.iconst X0.here hx rfl (hb hby at_16) k) ?_
  show own_Run p e below s₁ (mkF m 17 #[.val (.int p0), .val (.int p1), .val (.int p2), .val (.int p3), .val (.int p4), .val (.int (own_f0_12 p4 p2 p0)), .unset, .unset, .unset, .unset, .unset, .unset, .unset, .unset, .unset] [(.int (2 : Int32)), (.int p4)]) _
  refine own_step (fun t k => XS.iand X0.here hx rfl (hb hby at_17) rfl k) ?_
  show own_Run p e below s₁ (mkF m 18 #[.val (.int p0), .val (.int p1), .val (.int p2), .val (.int p3), .val (.int p4), .val (.int (own_f0_12 p4 p2 p0)), .unset, .unset, .unset, .unset, .unset, .unset, .unset, .unset, .unset] [(.int (p4 &&& (2 : Int32)))]) _
  obtain ⟨_, st33, rfl⟩ : own_Run p e below s₁ (mkF m 18 #[.val (.int p0), .val (.int p1), .val (.int p2), .val (.int p3), .val (.int p4), .val (.int (own_f0_12 p4 p2 p0)), .unset, .unset, .unset, .unset, .unset, .unset, .unset, .unset, .unset] [(.int (p4 &&& (2 : Int32)))]) (fun t => t = s₁.setTop (mkF m 26 #[.val (.int p0), .val (.int p1), .val (.int p2), .val (.int p3), .val (.int p4), .val (.int (own_f0_12 p4 p2 p0)), .unset, .unset, .unset, .unset, .unset, .unset, .unset, .unset, .unset] [(.int (own_f0_j26_S0 p4 p3 p1))])) := by
    by_cases hc34 : (p4 &&& (2 : Int32)) = (0 : Int32)
    · refine own_step (fun t k => XS.ifYes X0.here hx rfl (pc0 := 18) (pc' := 25) rfl (hb hby at_18) rfl ((if0 _ _).trans (teq hc34).1) (by decide) (by decide) k) ?_
      show own_Run p e below s₁ (mkF m 25 #[.val (.int p0), .val (.int p1), .val (.int p2), .val (.int p3), .val (.int p4), .val (.int (own_f0_12 p4 p2 p0)), .unset, .unset, .unset, .unset, .unset, .unset, .unset, .unset, .unset] []) _
      refine own_step (fun t k => XS.iloadN X0.here hx rfl (hb hby at_25) rfl  k) ?_
      show own_Run p e below s₁ (mkF m 26 #[.val (.int p0), .val (.int p1), .val (.int p2), .val (.int p3), .val (.int p4), .val (.int (own_f0_12 p4 p2 p0)), .unset, .unset, .unset, .unset, .unset, .unset, .unset, .unset, .unset] [(.int p3)]) _
      have hj0 : (own_f0_j26_S0 p4 p3 p1) = p3 := (if_pos hc34)
      exact own_here (by rw [hj0])
    · refine own_step (fun t k => XS.ifNo X0.here hx rfl (hb hby at_18) rfl ((if0 _ _).trans (feq hc34).1) k) ?_
      show own_Run p e below s₁ (mkF m 21 #[.val (.int p0), .val (.int p1), .val (.int p2), .val (.int p3), .val (.int p4), .val (.int (own_f0_12 p4 p2 p0)), .unset, .unset, .unset, .unset, .unset, .unset, .unset, .unset, .unset] []) _
      refine own_step (fun t k => XS.iloadN X0.here hx rfl (hb hby at_21) rfl  k) ?_
      show own_Run p e below s₁ (mkF m 22 #[.val (.int p0), .val (.int p1), .val (.int p2), .val (.int p3), .val (.int p4), .val (.int (own_f0_12 p4 p2 p0)), .unset, .unset, .unset, .unset, .unset, .unset, .unset, .unset, .unset] [(.int p1)]) _
      refine own_step (fun t k => XS.goto X0.here hx rfl (pc0 := 22) (pc' := 26) rfl (hb hby at_22) (by decide) (by decide) k) ?_
      show own_Run p e below s₁ (mkF m 26 #[.val (.int p0), .val (.int p1), .val (.int p2), .val (.int p3), .val (.int p4), .val (.int (own_f0_12 p4 p2 p0)), .unset, .unset, .unset, .unset, .unset, .unset, .unset, .unset, .unset] [(.int p1)]) _
      have hj0 : (own_f0_j26_S0 p4 p3 p1) = p1 := (if_neg hc34)
      exact own_here (by rw [hj0])
  refine own_tr st33 ?_
  show own_Run p e below s₁ (mkF m 26 #[.val (.int p0), .val (.int p1), .val (.int p2), .val (.int p3), .val (.int p4), .val (.int (own_f0_12 p4 p2 p0)), .unset, .unset, .unset, .unset, .unset, .unset, .unset, .unset, .unset] [(.int (own_f0_j26_S0 p4 p3 p1))]) _
  refine own_step (fun t k => XS.istore X0.here hx rfl (hb hby at_26) rfl (l' := #[.val (.int p0), .val (.int p1), .val (.int p2), .val (.int p3), .val (.int p4), .val (.int (own_f0_12 p4 p2 p0)), .val (.int (own_f0_26 p4 p3 p1)), .unset, .unset, .unset, .unset, .unset, .unset, .unset, .unset]) rfl k) ?_
  show own_Run p e below s₁ (mkF m 28 #[.val (.int p0), .val (.int p1), .val (.int p2), .val (.int p3), .val (.int p4), .val (.int (own_f0_12 p4 p2 p0)), .val (.int (own_f0_26 p4 p3 p1)), .unset, .unset, .unset, .unset, .unset, .unset, .unset, .unset] []) _
  obtain ⟨T35, h35, X35, e35, E35, A35, D35, -, st35⟩ := newO X0 hx hZ hown (hw _ (List.mem_of_getElem? (i := 0) rfl)) (hw _ (List.mem_of_getElem? (i := 1) rfl)) (hw _ (List.mem_of_getElem? (i := 2) rfl)) e0 (g := (mkF m 28 #[.val (.int p0), .val (.int p1), .val (.int p2), .val (.int p3), .val (.int p4), .val (.int (own_f0_12 p4 p2 p0)), .val (.int (own_f0_26 p4 p3 p1)), .unset, .unset, .unset, .unset, .unset, .unset, .unset, .unset] [])) rfl (hb hby at_28) (by decide) (by decide)
  obtain ⟨b35, g35⟩ : ∃ z, z = h0.size := ⟨_, rfl⟩
  rw [← g35] at A35 D35 st35
  have geb35 : n0 ≤ b35 := Nat.le_trans Z0 (Nat.le_of_eq g35.symm)
  have Zn35 : n0 ≤ h35.size := Nat.le_trans Z0 E35.1
  have Fn36 : Fld Z h35 b35 "com/example/emscher/emscher/io/XmlDocuments$Place" "line" "I" (.int (0 : Int32)) := D35 (Or.inr (hw _ (List.mem_of_getElem? (i := 10) rfl))) (ty := .int) (by decide)
  have Fn37 : Fld Z h35 b35 "com/example/emscher/emscher/io/XmlDocuments$Place" "column" "I" (.int (0 : Int32)) := D35 (Or.inr (hw _ (List.mem_of_getElem? (i := 12) rfl))) (ty := .int) (by decide)
  refine own_step st35 ?_
  show own_Run p e below T35 (mkF m 31 #[.val (.int p0), .val (.int p1), .val (.int p2), .val (.int p3), .val (.int p4), .val (.int (own_f0_12 p4 p2 p0)), .val (.int (own_f0_26 p4 p3 p1)), .unset, .unset, .unset, .unset, .unset, .unset, .unset, .unset] [(.ref b35)]) _
  refine own_step (fun t k => XS.dup X35.here hx rfl (hb hby at_31) rfl rfl k) ?_
  show own_Run p e below T35 (mkF m 32 #[.val (.int p0), .val (.int p1), .val (.int p2), .val (.int p3), .val (.int p4), .val (.int (own_f0_12 p4 p2 p0)), .val (.int (own_f0_26 p4 p3 p1)), .unset, .unset, .unset, .unset, .unset, .unset, .unset, .unset] [(.ref b35), (.ref b35)]) _
  refine own_step (fun t k => XS.iloadN X35.here hx rfl (hb hby at_32) rfl  k) ?_
  show own_Run p e below T35 (mkF m 33 #[.val (.int p0), .val (.int p1), .val (.int p2), .val (.int p3), .val (.int p4), .val (.int (own_f0_12 p4 p2 p0)), .val (.int (own_f0_26 p4 p3 p1)), .unset, .unset, .unset, .unset, .unset, .unset, .unset, .unset] [(.int p0), (.ref b35), (.ref b35)]) _
  refine own_step (fun t k => XS.iloadN X35.here hx rfl (hb hby at_33) rfl  k) ?_
  show own_Run p e below T35 (mkF m 34 #[.val (.int p0), .val (.int p1), .val (.int p2), .val (.int p3), .val (.int p4), .val (.int (own_f0_12 p4 p2 p0)), .val (.int (own_f0_26 p4 p3 p1)), .unset, .unset, .unset, .unset, .unset, .unset, .unset, .unset] [(.int p1), (.int p0), (.ref b35), (.ref b35)]) _
  obtain ⟨_, _, ⟨T38, L38, kq38, nq38⟩, -, X38, ⟨Lc38, hQ38, lq38, yq38, zq38⟩, st38⟩ := X35.specialBack hx (y := (⟨"com/example/emscher/emscher/io/XmlDocuments$Place", "<init>", "(II)V"⟩ : MethodName)) rfl hown (mvT hZ (hw _ (List.mem_of_getElem? (i := 3) rfl))) (mvT hZ (hw _ (List.mem_of_getElem? (i := 4) rfl))) (mvT hZ (hw _ (List.mem_of_getElem? (i := 5) rfl))) (by decide) (backOf (W := 1) (rm1 l Z a0 hw [] b35 p0 p1 h35 n0 Zn35 geb35 Fn36 Fn37 A35) hZ (hw _ (List.mem_of_getElem? (i := 5) rfl)) (hw _ (List.mem_of_getElem? (i := 2) rfl)) (by decide) (by decide)) (g := (mkF m 34 #[.val (.int p0), .val (.int p1), .val (.int p2), .val (.int p3), .val (.int p4), .val (.int (own_f0_12 p4 p2 p0)), .val (.int (own_f0_26 p4 p3 p1)), .unset, .unset, .unset, .unset, .unset, .unset, .unset, .unset] [(.int p1), (.int p0), (.ref b35), (.ref b35)])) rfl (by rw [hml]; rfl) (Steps.refl _) (a := b35) (argsL := [(.int p0), (.int p1)]) (rest := [(.ref b35)]) (lenOf own_pd38 rfl) rfl (by show 2 * 0 + _ ≤ _; exact Nat.le_of_eq rfl) (hb hby at_34) (fun _ _ => ⟨rfl, e35, (by decide : 1 + 0 ≤ _), (by decide : 2 + 0 ≤ _)⟩)
  dsimp only [Pt.U, Pt.locs, Pt.cells, Pt.slots] at X38 lq38 yq38 zq38 st38 hQ38
  subst lq38 yq38 zq38
  obtain ⟨rfl, N38q, K38, P38_0, P38_1, P38_2⟩ := hQ38
  have N38 := Fr.app N0 N38q
  have Zn38 : n0 ≤ T38.heap.size := Nat.le_trans Zn35 K38.1
  have P38_0x : Exa Z T38.heap b35 "com/example/emscher/emscher/io/XmlDocuments$Place" := P38_0
  have P38_1x : Fld Z T38.heap b35 "com/example/emscher/emscher/io/XmlDocuments$Place" "line" "I" (.int p0) := P38_1
  have P38_2x : Fld Z T38.heap b35 "com/example/emscher/emscher/io/XmlDocuments$Place" "column" "I" (.int p1) := P38_2
  refine own_tr st38 ?_
  show own_Run p e below T38 (mkF m 37 #[.val (.int p0), .val (.int p1), .val (.int p2), .val (.int p3), .val (.int p4), .val (.int (own_f0_12 p4 p2 p0)), .val (.int (own_f0_26 p4 p3 p1)), .unset, .unset, .unset, .unset, .unset, .unset, .unset, .unset] [(.ref b35)]) _
  refine own_step (fun t k => XS.astore X38.here hx rfl (hb hby at_37) rfl rfl (l' := #[.val (.int p0), .val (.int p1), .val (.int p2), .val (.int p3), .val (.int p4), .val (.int (own_f0_12 p4 p2 p0)), .val (.int (own_f0_26 p4 p3 p1)), .val (.ref b35), .unset, .unset, .unset, .unset, .unset, .unset, .unset]) rfl k) ?_
  show own_Run p e below T38 (mkF m 39 #[.val (.int p0), .val (.int p1), .val (.int p2), .val (.int p3), .val (.int p4), .val (.int (own_f0_12 p4 p2 p0)), .val (.int (own_f0_26 p4 p3 p1)), .val (.ref b35), .unset, .unset, .unset, .unset, .unset, .unset, .unset] []) _
  obtain ⟨T39, h39, X39, e39, E39, A39, D39, -, st39⟩ := newO X38 hx hZ hown (hw _ (List.mem_of_getElem? (i := 0) rfl)) (hw _ (List.mem_of_getElem? (i := 1) rfl)) (hw _ (List.mem_of_getElem? (i := 2) rfl)) rfl (g := (mkF m 39 #[.val (.int p0), .val (.int p1), .val (.int p2), .val (.int p3), .val (.int p4), .val (.int (own_f0_12 p4 p2 p0)), .val (.int (own_f0_26 p4 p3 p1)), .val (.ref b35), .unset, .unset, .unset, .unset, .unset, .unset, .unset] [])) rfl (hb hby at_39) (by decide) (by decide)
  obtain ⟨b39, g39⟩ : ∃ z, z = T38.heap.size := ⟨_, rfl⟩
  rw [← g39] at A39 D39 st39
  have ne40 : b35 ≠ b39 := Nat.ne_of_lt (Nat.lt_of_lt_of_le P38_0x.lt (Nat.le_of_eq g39.symm))
  have f41 := Exa.ext E39 P38_0x
  have f42 := Fld.ext E39 P38_1x
  have f43 := Fld.ext E39 P38_2x
  have geb39 : n0 ≤ b39 := Nat.le_trans Zn38 (Nat.le_of_eq g39.symm)
  have Zn39 : n0 ≤ h39.size := Nat.le_trans Zn38 E39.1
  have Fn44 : Fld Z h39 b39 "com/example/emscher/emscher/io/XmlDocuments$Place" "line" "I" (.int (0 : Int32)) := D39 (Or.inr (hw _ (List.mem_of_getElem? (i := 10) rfl))) (ty := .int) (by decide)
  have Fn45 : Fld Z h39 b39 "com/example/emscher/emscher/io/XmlDocuments$Place" "column" "I" (.int (0 : Int32)) := D39 (Or.inr (hw _ (List.mem_of_getElem? (i := 12) rfl))) (ty := .int) (by decide)
  refine own_step st39 ?_
  show own_Run p e below T39 (mkF m 42 #[.val (.int p0), .val (.int p1), .val (.int p2), .val (.int p3), .val (.int p4), .val (.int (own_f0_12 p4 p2 p0)), .val (.int (own_f0_26 p4 p3 p1)), .val (.ref b35), .unset, .unset, .unset, .unset, .unset, .unset, .unset] [(.ref b39)]) _
  refine own_step (fun t k => XS.dup X39.here hx rfl (hb hby at_42) rfl rfl k) ?_
  show own_Run p e below T39 (mkF m 43 #[.val (.int p0), .val (.int p1), .val (.int p2), .val (.int p3), .val (.int p4), .val (.int (own_f0_12 p4 p2 p0)), .val (.int (own_f0_26 p4 p3 p1)), .val (.ref b35), .unset, .unset, .unset, .unset, .unset, .unset, .unset] [(.ref b39), (.ref b39)]) _
  refine own_step (fun t k => XS.iload X39.here hx rfl (hb hby at_43) rfl  k) ?_
  show own_Run p e below T39 (mkF m 45 #[.val (.int p0), .val (.int p1), .val (.int p2), .val (.int p3), .val (.int p4), .val (.int (own_f0_12 p4 p2 p0)), .val (.int (own_f0_26 p4 p3 p1)), .val (.ref b35), .unset, .unset, .unset, .unset, .unset, .unset, .unset] [(.int (own_f0_12 p4 p2 p0)), (.ref b39), (.ref b39)]) _
  refine own_step (fun t k => XS.iload X39.here hx rfl (hb hby at_45) rfl  k) ?_
  show own_Run p e below T39 (mkF m 47 #[.val (.int p0), .val (.int p1), .val (.int p2), .val (.int p3), .val (.int p4), .val (.int (own_f0_12 p4 p2 p0)), .val (.int (own_f0_26 p4 p3 p1)), .val (.ref b35), .unset, .unset, .unset, .unset, .unset, .unset, .unset] [(.int (own_f0_26 p4 p3 p1)), (.int (own_f0_12 p4 p2 p0)), (.ref b39), (.ref b39)]) _
  obtain ⟨_, _, ⟨T46, L46, kq46, nq46⟩, -, X46, ⟨Lc46, hQ46, lq46, yq46, zq46⟩, st46⟩ := X39.specialBack hx (y := (⟨"com/example/emscher/emscher/io/XmlDocuments$Place", "<init>", "(II)V"⟩ : MethodName)) rfl hown (mvT hZ (hw _ (List.mem_of_getElem? (i := 3) rfl))) (mvT hZ (hw _ (List.mem_of_getElem? (i := 4) rfl))) (mvT hZ (hw _ (List.mem_of_getElem? (i := 5) rfl))) (by decide) (backOf (W := 1) (rm1 l Z a0 hw [] b39 (own_f0_12 p4 p2 p0) (own_f0_26 p4 p3 p1) h39 n0 Zn39 geb39 Fn44 Fn45 A39) hZ (hw _ (List.mem_of_getElem? (i := 5) rfl)) (hw _ (List.mem_of_getElem? (i := 2) rfl)) (by decide) (by decide)) (g := (mkF m 47 #[.val (.int p0), .val (.int p1), .val (.int p2), .val (.int p3), .val (.int p4), .val (.int (own_f0_12 p4 p2 p0)), .val (.int (own_f0_26 p4 p3 p1)), .val (.ref b35), .unset, .unset, .unset, .unset, .unset, .unset, .unset] [(.int (own_f0_26 p4 p3 p1)), (.int (own_f0_12 p4 p2 p0)), (.ref b39), (.ref b39)])) rfl (by rw [hml]; rfl) (Steps.refl _) (a := b39) (argsL := [(.int (own_f0_12 p4 p2 p0)), (.int (own_f0_26 p4 p3 p1))]) (rest := [(.ref b39)]) (lenOf own_pd38 rfl) rfl (by show 2 * 0 + _ ≤ _; exact Nat.le_of_eq rfl) (hb hby at_47) (fun _ _ => ⟨rfl, e39, (by decide : 2 + 0 ≤ _), (by decide : 4 + 0 ≤ _)⟩)
  dsimp only [Pt.U, Pt.locs, Pt.cells, Pt.slots] at X46 lq46 yq46 zq46 st46 hQ46
  subst lq46 yq46 zq46
  obtain ⟨rfl, N46q, K46, P46_0, P46_1, P46_2⟩ := hQ46
  have N46 := Fr.app N38 N46q
  have Zn46 : n0 ≤ T46.heap.size := Nat.le_trans Zn39 K46.1
  have P46_0x : Exa Z T46.heap b39 "com/example/emscher/emscher/io/XmlDocuments$Place" := P46_0
  have P46_1x : Fld Z T46.heap b39 "com/example/emscher/emscher/io/XmlDocuments$Place" "line" "I" (.int (own_f0_12 p4 p2 p0)) := P46_1
  have P46_2x : Fld Z T46.heap b39 "com/example/emscher/emscher/io/XmlDocuments$Place" "column" "I" (.int (own_f0_26 p4 p3 p1)) := P46_2
  have f47 := f41.keep K46
  have f48 := f42.keep K46 (ninS ne40 nin0)
  have f49 := f43.keep K46 (ninS ne40 nin0)
  refine own_tr st46 ?_
  show own_Run p e below T46 (mkF m 50 #[.val (.int p0), .val (.int p1), .val (.int p2), .val (.int p3), .val (.int p4), .val (.int (own_f0_12 p4 p2 p0)), .val (.int (own_f0_26 p4 p3 p1)), .val (.ref b35), .unset, .unset, .unset, .unset, .unset, .unset, .unset] [(.ref b39)]) _
  refine own_step (fun t k => XS.astore X46.here hx rfl (hb hby at_50) rfl rfl (l' := #[.val (.int p0), .val (.int p1), .val (.int p2), .val (.int p3), .val (.int p4), .val (.int (own_f0_12 p4 p2 p0)), .val (.int (own_f0_26 p4 p3 p1)), .val (.ref b35), .val (.ref b39), .unset, .unset, .unset, .unset, .unset, .unset]) rfl k) ?_
  show own_Run p e below T46 (mkF m 52 #[.val (.int p0), .val (.int p1), .val (.int p2), .val (.int p3), .val (.int p4), .val (.int (own_f0_12 p4 p2 p0)), .val (.int (own_f0_26 p4 p3 p1)), .val (.ref b35), .val (.ref b39), .unset, .unset, .unset, .unset, .unset, .unset] []) _
  refine own_step (fun t k => XS.aload X46.here hx rfl (hb hby at_52) rfl rfl k) ?_
  show own_Run p e below T46 (mkF m 54 #[.val (.int p0), .val (.int p1), .val (.int p2), .val (.int p3), .val (.int p4), .val (.int (own_f0_12 p4 p2 p0)), .val (.int (own_f0_26 p4 p3 p1)), .val (.ref b35), .val (.ref b39), .unset, .unset, .unset, .unset, .unset, .unset] [(.ref b35)]) _
  refine own_step (fun t k => XS.aload X46.here hx rfl (hb hby at_54) rfl rfl k) ?_
  show own_Run p e below T46 (mkF m 56 #[.val (.int p0), .val (.int p1), .val (.int p2), .val (.int p3), .val (.int p4), .val (.int (own_f0_12 p4 p2 p0)), .val (.int (own_f0_26 p4 p3 p1)), .val (.ref b35), .val (.ref b39), .unset, .unset, .unset, .unset, .unset, .unset] [(.ref b39), (.ref b35)]) _
  obtain ⟨cq50, kq50, q50a, q50b, q50c⟩ := isOf hZ rfl f47
  obtain ⟨_, _, ⟨T50, L50, kq50, nq50⟩, -, X50, ⟨Lc50, hQ50, lq50, yq50, zq50⟩, st50⟩ := X46.virtualBack hx (y := (⟨"com/example/emscher/emscher/io/XmlDocuments$Place", "isAfter", "(Lcom/example/emscher/emscher/io/XmlDocuments$Place;)Z"⟩ : MethodName)) (z := (⟨"com/example/emscher/emscher/io/XmlDocuments$Place", "isAfter", "(Lcom/example/emscher/emscher/io/XmlDocuments$Place;)Z"⟩ : MethodName)) hown (mvT hZ (hw _ (List.mem_of_getElem? (i := 13) rfl))) (mvT hZ (hw _ (List.mem_of_getElem? (i := 14) rfl))) (notFace_of_selects (args := #[]) (mvT hZ (hw _ (List.mem_of_getElem? (i := 16) rfl)))) (mvT hZ (hw _ (List.mem_of_getElem? (i := 16) rfl))) (mvT hZ (hw _ (List.mem_of_getElem? (i := 15) rfl))) (by decide) (backOf (W := 0) (rm3 l Z a0 hw [] b35 b39 p0 p1 (own_f0_12 p4 p2 p0) (own_f0_26 p4 p3 p1) T46.heap n0 Zn46 f48 f49 P46_1x P46_2x) hZ (hw _ (List.mem_of_getElem? (i := 17) rfl)) (hw _ (List.mem_of_getElem? (i := 2) rfl)) (by decide) (by decide)) q50a q50c (g := (mkF m 56 #[.val (.int p0), .val (.int p1), .val (.int p2), .val (.int p3), .val (.int p4), .val (.int (own_f0_12 p4 p2 p0)), .val (.int (own_f0_26 p4 p3 p1)), .val (.ref b35), .val (.ref b39), .unset, .unset, .unset, .unset, .unset, .unset] [(.ref b39), (.ref b35)])) rfl (by rw [hml]; rfl) (Steps.refl _) (argsL := [(.ref b39)]) (rest := []) (lenOf own_pd39 rfl) rfl (by show 2 * 0 + _ ≤ _; exact Nat.le_of_eq rfl) (hb hby at_56) (fun _ _ => ⟨rfl, rfl, (by decide : 2 + 0 ≤ _), (by decide : 4 + 0 ≤ _)⟩)
  dsimp only [Pt.U, Pt.locs, Pt.cells, Pt.slots] at X50 lq50 yq50 zq50 st50 hQ50
  subst lq50 yq50 zq50
  obtain ⟨rfl, N50q, e50⟩ := hQ50
  have N50 := Fr.app N46 N50q
  refine own_tr st50 ?_
  show own_Run p e below T50 (mkF m 59 #[.val (.int p0), .val (.int p1), .val (.int p2), .val (.int p3), .val (.int p4), .val (.int (own_f0_12 p4 p2 p0)), .val (.int (own_f0_26 p4 p3 p1)), .val (.ref b35), .val (.ref b39), .unset, .unset, .unset, .unset, .unset, .unset] [(.int (own_r3 p0 p1 (own_f0_12 p4 p2 p0) (own_f0_26 p4 p3 p1)))]) _
  refine own_step (fun t k => XS.istore X50.here hx rfl (hb hby at_59) rfl (l' := #[.val (.int p0), .val (.int p1), .val (.int p2), .val (.int p3), .val (.int p4), .val (.int (own_f0_12 p4 p2 p0)), .val (.int (own_f0_26 p4 p3 p1)), .val (.ref b35), .val (.ref b39), .val (.int (own_f0_59 p0 p1 p4 p2 p3)), .unset, .unset, .unset, .unset, .unset]) rfl k) ?_
  show own_Run p e below T50 (mkF m 61 #[.val (.int p0), .val (.int p1), .val (.int p2), .val (.int p3), .val (.int p4), .val (.int (own_f0_12 p4 p2 p0)), .val (.int (own_f0_26 p4 p3 p1)), .val (.ref b35), .val (.ref b39), .val (.int (own_f0_59 p0 p1 p4 p2 p3)), .unset, .unset, .unset, .unset, .unset] []) _
  refine own_step (fun t k => XS.aload X50.here hx rfl (hb hby at_61) rfl rfl k) ?_
  show own_Run p e below T50 (mkF m 63 #[.val (.int p0), .val (.int p1), .val (.int p2), .val (.int p3), .val (.int p4), .val (.int (own_f0_12 p4 p2 p0)), .val (.int (own_f0_26 p4 p3 p1)), .val (.ref b35), .val (.ref b39), .val (.int (own_f0_59 p0 p1 p4 p2 p3)), .unset, .unset, .unset, .unset, .unset] [(.ref b39)]) _
  refine own_step (fun t k => XS.aload X50.here hx rfl (hb hby at_63) rfl rfl k) ?_
  show own_Run p e below T50 (mkF m 65 #[.val (.int p0), .val (.int p1), .val (.int p2), .val (.int p3), .val (.int p4), .val (.int (own_f0_12 p4 p2 p0)), .val (.int (own_f0_26 p4 p3 p1)), .val (.ref b35), .val (.ref b39), .val (.int (own_f0_59 p0 p1 p4 p2 p3)), .unset, .unset, .unset, .unset, .unset] [(.ref b35), (.ref b39)]) _
  obtain ⟨cq51, kq51, q51a, q51b, q51c⟩ := isOf hZ e50 P46_0x
  obtain ⟨_, _, ⟨T51, L51, kq51, nq51⟩, -, X51, ⟨Lc51, hQ51, lq51, yq51, zq51⟩, st51⟩ := X50.virtualBack hx (y := (⟨"com/example/emscher/emscher/io/XmlDocuments$Place", "isAfter", "(Lcom/example/emscher/emscher/io/XmlDocuments$Place;)Z"⟩ : MethodName)) (z := (⟨"com/example/emscher/emscher/io/XmlDocuments$Place", "isAfter", "(Lcom/example/emscher/emscher/io/XmlDocuments$Place;)Z"⟩ : MethodName)) hown (mvT hZ (hw _ (List.mem_of_getElem? (i := 13) rfl))) (mvT hZ (hw _ (List.mem_of_getElem? (i := 14) rfl))) (notFace_of_selects (args := #[]) (mvT hZ (hw _ (List.mem_of_getElem? (i := 16) rfl)))) (mvT hZ (hw _ (List.mem_of_getElem? (i := 16) rfl))) (mvT hZ (hw _ (List.mem_of_getElem? (i := 15) rfl))) (by decide) (backOf (W := 0) (rm3 l Z a0 hw [] b39 b35 (own_f0_12 p4 p2 p0) (own_f0_26 p4 p3 p1) p0 p1 T46.heap n0 Zn46 P46_1x P46_2x f48 f49) hZ (hw _ (List.mem_of_getElem? (i := 17) rfl)) (hw _ (List.mem_of_getElem? (i := 2) rfl)) (by decide) (by decide)) q51a q51c (g := (mkF m 65 #[.val (.int p0), .val (.int p1), .val (.int p2), .val (.int p3), .val (.int p4), .val (.int (own_f0_12 p4 p2 p0)), .val (.int (own_f0_26 p4 p3 p1)), .val (.ref b35), .val (.ref b39), .val (.int (own_f0_59 p0 p1 p4 p2 p3)), .unset, .unset, .unset, .unset, .unset] [(.ref b35), (.ref b39)])) rfl (by rw [hml]; rfl) (Steps.refl _) (argsL := [(.ref b35)]) (rest := []) (lenOf own_pd39 rfl) rfl (by show 2 * 0 + _ ≤ _; exact Nat.le_of_eq rfl) (hb hby at_65) (fun _ _ => ⟨rfl, e50, (by decide : 2 + 0 ≤ _), (by decide : 4 + 0 ≤ _)⟩)
  dsimp only [Pt.U, Pt.locs, Pt.cells, Pt.slots] at X51 lq51 yq51 zq51 st51 hQ51
  subst lq51 yq51 zq51
  obtain ⟨rfl, N51q, e51⟩ := hQ51
  have N51 := Fr.app N50 N51q
  refine own_tr st51 ?_
  show own_Run p e below T51 (mkF m 68 #[.val (.int p0), .val (.int p1), .val (.int p2), .val (.int p3), .val (.int p4), .val (.int (own_f0_12 p4 p2 p0)), .val (.int (own_f0_26 p4 p3 p1)), .val (.ref b35), .val (.ref b39), .val (.int (own_f0_59 p0 p1 p4 p2 p3)), .unset, .unset, .unset, .unset, .unset] [(.int (own_r3 (own_f0_12 p4 p2 p0) (own_f0_26 p4 p3 p1) p0 p1))]) _
  refine own_step (fun t k => XS.istore X51.here hx rfl (hb hby at_68) rfl (l' := #[.val (.int p0), .val (.int p1), .val (.int p2), .val (.int p3), .val (.int p4), .val (.int (own_f0_12 p4 p2 p0)), .val (.int (own_f0_26 p4 p3 p1)), .val (.ref b35), .val (.ref b39), .val (.int (own_f0_59 p0 p1 p4 p2 p3)), .val (.int (own_f0_68 p4 p2 p0 p3 p1)), .unset, .unset, .unset, .unset]) rfl k) ?_
  show own_Run p e below T51 (mkF m 70 #[.val (.int p0), .val (.int p1), .val (.int p2), .val (.int p3), .val (.int p4), .val (.int (own_f0_12 p4 p2 p0)), .val (.int (own_f0_26 p4 p3 p1)), .val (.ref b35), .val (.ref b39), .val (.int (own_f0_59 p0 p1 p4 p2 p3)), .val (.int (own_f0_68 p4 p2 p0 p3 p1)), .unset, .unset, .unset, .unset] []) _
  refine own_step (fun t k => XS.iloadN X51.here hx rfl (hb hby at_70) rfl  k) ?_
  show own_Run p e below T51 (mkF m 71 #[.val (.int p0), .val (.int p1), .val (.int p2), .val (.int p3), .val (.int p4), .val (.int (own_f0_12 p4 p2 p0)), .val (.int (own_f0_26 p4 p3 p1)), .val (.ref b35), .val (.ref b39), .val (.int (own_f0_59 p0 p1 p4 p2 p3)), .val (.int (own_f0_68 p4 p2 p0 p3 p1)), .unset, .unset, .unset, .unset] [(.int p0)]) _
  refine own_step (fun t k => XS.iloadN X51.here hx rfl (hb hby at_71) rfl  k) ?_
  show own_Run p e below T51 (mkF m 72 #[.val (.int p0), .val (.int p1), .val (.int p2), .val (.int p3), .val (.int p4), .val (.int (own_f0_12 p4 p2 p0)), .val (.int (own_f0_26 p4 p3 p1)), .val (.ref b35), .val (.ref b39), .val (.int (own_f0_59 p0 p1 p4 p2 p3)), .val (.int (own_f0_68 p4 p2 p0 p3 p1)), .unset, .unset, .unset, .unset] [(.int p1), (.int p0)]) _
  obtain ⟨_, _, ⟨T52, L52, kq52, nq52⟩, -, X52, ⟨Lc52, hQ52, lq52, yq52, zq52⟩, st52⟩ := Jvm.LawKit.callS X51 hx (y := (⟨"com/example/emscher/emscher/io/PlaceIsAfterPinLaw", "key", "(II)J"⟩ : MethodName)) hown (mvT hZ (hw _ (List.mem_of_getElem? (i := 18) rfl))) (mvT hZ (hw _ (List.mem_of_getElem? (i := 19) rfl))) (mvT hZ (hw _ (List.mem_of_getElem? (i := 20) rfl))) (mvT hZ (hw _ (List.mem_of_getElem? (i := 21) rfl))) (by decide) (backOf (W := 0) (rm4 l Z a0 hw [] p0 p1 T46.heap n0 Zn46 ) hZ (hw _ (List.mem_of_getElem? (i := 21) rfl)) (hw _ (List.mem_of_getElem? (i := 20) rfl)) (by decide) (by decide)) (g := (mkF m 72 #[.val (.int p0), .val (.int p1), .val (.int p2), .val (.int p3), .val (.int p4), .val (.int (own_f0_12 p4 p2 p0)), .val (.int (own_f0_26 p4 p3 p1)), .val (.ref b35), .val (.ref b39), .val (.int (own_f0_59 p0 p1 p4 p2 p3)), .val (.int (own_f0_68 p4 p2 p0 p3 p1)), .unset, .unset, .unset, .unset] [(.int p1), (.int p0)])) rfl (by rw [hml]; rfl) (argsL := [(.int p0), (.int p1)]) (rest := []) (lenOf own_pd40 rfl) rfl (by show 2 * 0 + _ ≤ _; exact Nat.le_of_eq rfl) (hb hby at_72) (fun _ _ => ⟨rfl, e51, (by decide : 2 + 0 ≤ _), (by decide : 4 + 0 ≤ _)⟩)
  dsimp only [Pt.U, Pt.locs, Pt.cells, Pt.slots] at X52 lq52 yq52 zq52 st52 hQ52
  subst lq52 yq52 zq52
  obtain ⟨rfl, N52q, e52⟩ := hQ52
  have N52 := Fr.app N51 N52q
  refine own_step st52 ?_
  show own_Run p e below T52 (mkF m 75 #[.val (.int p0), .val (.int p1), .val (.int p2), .val (.int p3), .val (.int p4), .val (.int (own_f0_12 p4 p2 p0)), .val (.int (own_f0_26 p4 p3 p1)), .val (.ref b35), .val (.ref b39), .val (.int (own_f0_59 p0 p1 p4 p2 p3)), .val (.int (own_f0_68 p4 p2 p0 p3 p1)), .unset, .unset, .unset, .unset] [(.long (own_r4 p0 p1))]) _
  refine own_step (fun t k => XS.lstore X52.here hx rfl (hb hby at_75) rfl (l' := #[.val (.int p0), .val (.int p1), .val (.int p2), .val (.int p3), .val (.int p4), .val (.int (own_f0_12 p4 p2 p0)), .val (.int (own_f0_26 p4 p3 p1)), .val (.ref b35), .val (.ref b39), .val (.int (own_f0_59 p0 p1 p4 p2 p3)), .val (.int (own_f0_68 p4 p2 p0 p3 p1)), .val (.long (own_r4 p0 p1)), .second, .unset, .unset]) rfl k) ?_
  show own_Run p e below T52 (mkF m 77 #[.val (.int p0), .val (.int p1), .val (.int p2), .val (.int p3), .val (.int p4), .val (.int (own_f0_12 p4 p2 p0)), .val (.int (own_f0_26 p4 p3 p1)), .val (.ref b35), .val (.ref b39), .val (.int (own_f0_59 p0 p1 p4 p2 p3)), .val (.int (own_f0_68 p4 p2 p0 p3 p1)), .val (.long (own_r4 p0 p1)), .second, .unset, .unset] []) _
  refine own_step (fun t k => XS.iload X52.here hx rfl (hb hby at_77) rfl  k) ?_
  show own_Run p e below T52 (mkF m 79 #[.val (.int p0), .val (.int p1), .val (.int p2), .val (.int p3), .val (.int p4), .val (.int (own_f0_12 p4 p2 p0)), .val (.int (own_f0_26 p4 p3 p1)), .val (.ref b35), .val (.ref b39), .val (.int (own_f0_59 p0 p1 p4 p2 p3)), .val (.int (own_f0_68 p4 p2 p0 p3 p1)), .val (.long (own_r4 p0 p1)), .second, .unset, .unset] [(.int (own_f0_12 p4 p2 p0))]) _
  refine own_step (fun t k => XS.iload X52.here hx rfl (hb hby at_79) rfl  k) ?_
  show own_Run p e below T52 (mkF m 81 #[.val (.int p0), .val (.int p1), .val (.int p2), .val (.int p3), .val (.int p4), .val (.int (own_f0_12 p4 p2 p0)), .val (.int (own_f0_26 p4 p3 p1)), .val (.ref b35), .val (.ref b39), .val (.int (own_f0_59 p0 p1 p4 p2 p3)), .val (.int (own_f0_68 p4 p2 p0 p3 p1)), .val (.long (own_r4 p0 p1)), .second, .unset, .unset] [(.int (own_f0_26 p4 p3 p1)), (.int (own_f0_12 p4 p2 p0))]) _
  obtain ⟨_, _, ⟨T53, L53, kq53, nq53⟩, -, X53, ⟨Lc53, hQ53, lq53, yq53, zq53⟩, st53⟩ := Jvm.LawKit.callS X52 hx (y := (⟨"com/example/emscher/emscher/io/PlaceIsAfterPinLaw", "key", "(II)J"⟩ : MethodName)) hown (mvT hZ (hw _ (List.mem_of_getElem? (i := 18) rfl))) (mvT hZ (hw _ (List.mem_of_getElem? (i := 19) rfl))) (mvT hZ (hw _ (List.mem_of_getElem? (i := 20) rfl))) (mvT hZ (hw _ (List.mem_of_getElem? (i := 21) rfl))) (by decide) (backOf (W := 0) (rm4 l Z a0 hw [] (own_f0_12 p4 p2 p0) (own_f0_26 p4 p3 p1) T46.heap n0 Zn46 ) hZ (hw _ (List.mem_of_getElem? (i := 21) rfl)) (hw _ (List.mem_of_getElem? (i := 20) rfl)) (by decide) (by decide)) (g := (mkF m 81 #[.val (.int p0), .val (.int p1), .val (.int p2), .val (.int p3), .val (.int p4), .val (.int (own_f0_12 p4 p2 p0)), .val (.int (own_f0_26 p4 p3 p1)), .val (.ref b35), .val (.ref b39), .val (.int (own_f0_59 p0 p1 p4 p2 p3)), .val (.int (own_f0_68 p4 p2 p0 p3 p1)), .val (.long (own_r4 p0 p1)), .second, .unset, .unset] [(.int (own_f0_26 p4 p3 p1)), (.int (own_f0_12 p4 p2 p0))])) rfl (by rw [hml]; rfl) (argsL := [(.int (own_f0_12 p4 p2 p0)), (.int (own_f0_26 p4 p3 p1))]) (rest := []) (lenOf own_pd40 rfl) rfl (by show 2 * 0 + _ ≤ _; exact Nat.le_of_eq rfl) (hb hby at_81) (fun _ _ => ⟨rfl, e52, (by decide : 2 + 0 ≤ _), (by decide : 4 + 0 ≤ _)⟩)
  dsimp only [Pt.U, Pt.locs, Pt.cells, Pt.slots] at X53 lq53 yq53 zq53 st53 hQ53
  subst lq53 yq53 zq53
  obtain ⟨rfl, N53q, e53⟩ := hQ53
  have N53 := Fr.app N52 N53q
  refine own_step st53 ?_
  show own_Run p e below T53 (mkF m 84 #[.val (.int p0), .val (.int p1), .val (.int p2), .val (.int p3), .val (.int p4), .val (.int (own_f0_12 p4 p2 p0)), .val (.int (own_f0_26 p4 p3 p1)), .val (.ref b35), .val (.ref b39), .val (.int (own_f0_59 p0 p1 p4 p2 p3)), .val (.int (own_f0_68 p4 p2 p0 p3 p1)), .val (.long (own_r4 p0 p1)), .second, .unset, .unset] [(.long (own_r4 (own_f0_12 p4 p2 p0) (own_f0_26 p4 p3 p1)))]) _
  refine own_step (fun t k => XS.lstore X53.here hx rfl (hb hby at_84) rfl (l' := #[.val (.int p0), .val (.int p1), .val (.int p2), .val (.int p3), .val (.int p4), .val (.int (own_f0_12 p4 p2 p0)), .val (.int (own_f0_26 p4 p3 p1)), .val (.ref b35), .val (.ref b39), .val (.int (own_f0_59 p0 p1 p4 p2 p3)), .val (.int (own_f0_68 p4 p2 p0 p3 p1)), .val (.long (own_r4 p0 p1)), .second, .val (.long (own_f0_84 p4 p2 p0 p3 p1)), .second]) rfl k) ?_
  show own_Run p e below T53 (mkF m 86 #[.val (.int p0), .val (.int p1), .val (.int p2), .val (.int p3), .val (.int p4), .val (.int (own_f0_12 p4 p2 p0)), .val (.int (own_f0_26 p4 p3 p1)), .val (.ref b35), .val (.ref b39), .val (.int (own_f0_59 p0 p1 p4 p2 p3)), .val (.int (own_f0_68 p4 p2 p0 p3 p1)), .val (.long (own_r4 p0 p1)), .second, .val (.long (own_f0_84 p4 p2 p0 p3 p1)), .second] []) _
  refine own_step (fun t k => XS.iload X53.here hx rfl (hb hby at_86) rfl  k) ?_
  show own_Run p e below T53 (mkF m 88 #[.val (.int p0), .val (.int p1), .val (.int p2), .val (.int p3), .val (.int p4), .val (.int (own_f0_12 p4 p2 p0)), .val (.int (own_f0_26 p4 p3 p1)), .val (.ref b35), .val (.ref b39), .val (.int (own_f0_59 p0 p1 p4 p2 p3)), .val (.int (own_f0_68 p4 p2 p0 p3 p1)), .val (.long (own_r4 p0 p1)), .second, .val (.long (own_f0_84 p4 p2 p0 p3 p1)), .second] [(.int (own_f0_59 p0 p1 p4 p2 p3))]) _
  refine own_step (fun t k => XS.lload X53.here hx rfl (hb hby at_88) rfl  k) ?_
  show own_Run p e below T53 (mkF m 90 #[.val (.int p0), .val (.int p1), .val (.int p2), .val (.int p3), .val (.int p4), .val (.int (own_f0_12 p4 p2 p0)), .val (.int (own_f0_26 p4 p3 p1)), .val (.ref b35), .val (.ref b39), .val (.int (own_f0_59 p0 p1 p4 p2 p3)), .val (.int (own_f0_68 p4 p2 p0 p3 p1)), .val (.long (own_r4 p0 p1)), .second, .val (.long (own_f0_84 p4 p2 p0 p3 p1)), .second] [(.long (own_r4 p0 p1)), (.int (own_f0_59 p0 p1 p4 p2 p3))]) _
  refine own_step (fun t k => XS.lload X53.here hx rfl (hb hby at_90) rfl  k) ?_
  show own_Run p e below T53 (mkF m 92 #[.val (.int p0), .val (.int p1), .val (.int p2), .val (.int p3), .val (.int p4), .val (.int (own_f0_12 p4 p2 p0)), .val (.int (own_f0_26 p4 p3 p1)), .val (.ref b35), .val (.ref b39), .val (.int (own_f0_59 p0 p1 p4 p2 p3)), .val (.int (own_f0_68 p4 p2 p0 p3 p1)), .val (.long (own_r4 p0 p1)), .second, .val (.long (own_f0_84 p4 p2 p0 p3 p1)), .second] [(.long (own_f0_84 p4 p2 p0 p3 p1)), (.long (own_r4 p0 p1)), (.int (own_f0_59 p0 p1 p4 p2 p3))]) _
  refine own_step (fun t k => XS.lcmp X53.here hx rfl (hb hby at_92) rfl k) ?_
  show own_Run p e below T53 (mkF m 93 #[.val (.int p0), .val (.int p1), .val (.int p2), .val (.int p3), .val (.int p4), .val (.int (own_f0_12 p4 p2 p0)), .val (.int (own_f0_26 p4 p3 p1)), .val (.ref b35), .val (.ref b39), .val (.int (own_f0_59 p0 p1 p4 p2 p3)), .val (.int (own_f0_68 p4 p2 p0 p3 p1)), .val (.long (own_r4 p0 p1)), .second, .val (.long (own_f0_84 p4 p2 p0 p3 p1)), .second] [(.int (lcmpW (own_r4 p0 p1) (own_f0_84 p4 p2 p0 p3 p1))), (.int (own_f0_59 p0 p1 p4 p2 p3))]) _
  obtain ⟨_, st54, rfl⟩ : own_Run p e below T53 (mkF m 93 #[.val (.int p0), .val (.int p1), .val (.int p2), .val (.int p3), .val (.int p4), .val (.int (own_f0_12 p4 p2 p0)), .val (.int (own_f0_26 p4 p3 p1)), .val (.ref b35), .val (.ref b39), .val (.int (own_f0_59 p0 p1 p4 p2 p3)), .val (.int (own_f0_68 p4 p2 p0 p3 p1)), .val (.long (own_r4 p0 p1)), .second, .val (.long (own_f0_84 p4 p2 p0 p3 p1)), .second] [(.int (lcmpW (own_r4 p0 p1) (own_f0_84 p4 p2 p0 p3 p1))), (.int (own_f0_59 p0 p1 p4 p2 p3))]) (fun t => t = T53.setTop (mkF m 101 #[.val (.int p0), .val (.int p1), .val (.int p2), .val (.int p3), .val (.int p4), .val (.int (own_f0_12 p4 p2 p0)), .val (.int (own_f0_26 p4 p3 p1)), .val (.ref b35), .val (.ref b39), .val (.int (own_f0_59 p0 p1 p4 p2 p3)), .val (.int (own_f0_68 p4 p2 p0 p3 p1)), .val (.long (own_r4 p0 p1)), .second, .val (.long (own_f0_84 p4 p2 p0 p3 p1)), .second] [(.int (own_f0_j101_S0 p0 p1 p4 p2 p3)), (.int (own_f0_59 p0 p1 p4 p2 p3))])) := by
    by_cases hc55 : (0 : Int32) < (lcmpW (own_r4 p0 p1) (own_f0_84 p4 p2 p0 p3 p1))
    · refine own_step (fun t k => XS.ifNo X53.here hx rfl (hb hby at_93) rfl ((if0 _ _).trans (tlt hc55).2.2.2) k) ?_
      show own_Run p e below T53 (mkF m 96 #[.val (.int p0), .val (.int p1), .val (.int p2), .val (.int p3), .val (.int p4), .val (.int (own_f0_12 p4 p2 p0)), .val (.int (own_f0_26 p4 p3 p1)), .val (.ref b35), .val (.ref b39), .val (.int (own_f0_59 p0 p1 p4 p2 p3)), .val (.int (own_f0_68 p4 p2 p0 p3 p1)), .val (.long (own_r4 p0 p1)), .second, .val (.long (own_f0_84 p4 p2 p0 p3 p1)), .second] [(.int (own_f0_59 p0 p1 p4 p2 p3))]) _
      refine own_step (fun t k => XS.iconst X53.here hx rfl (hb hby at_96) k) ?_
      show own_Run p e below T53 (mkF m 97 #[.val (.int p0), .val (.int p1), .val (.int p2), .val (.int p3), .val (.int p4), .val (.int (own_f0_12 p4 p2 p0)), .val (.int (own_f0_26 p4 p3 p1)), .val (.ref b35), .val (.ref b39), .val (.int (own_f0_59 p0 p1 p4 p2 p3)), .val (.int (own_f0_68 p4 p2 p0 p3 p1)), .val (.long (own_r4 p0 p1)), .second, .val (.long (own_f0_84 p4 p2 p0 p3 p1)), .second] [(.int (1 : Int32)), (.int (own_f0_59 p0 p1 p4 p2 p3))]) _
      refine own_step (fun t k => XS.goto X53.here hx rfl (pc0 := 97) (pc' := 101) rfl (hb hby at_97) (by decide) (by decide) k) ?_
      show own_Run p e below T53 (mkF m 101 #[.val (.int p0), .val (.int p1), .val (.int p2), .val (.int p3), .val (.int p4), .val (.int (own_f0_12 p4 p2 p0)), .val (.int (own_f0_26 p4 p3 p1)), .val (.ref b35), .val (.ref b39), .val (.int (own_f0_59 p0 p1 p4 p2 p3)), .val (.int (own_f0_68 p4 p2 p0 p3 p1)), .val (.long (own_r4 p0 p1)), .second, .val (.long (own_f0_84 p4 p2 p0 p3 p1)), .second] [(.int (1 : Int32)), (.int (own_f0_59 p0 p1 p4 p2 p3))]) _
      have hj0 : (own_f0_j101_S0 p0 p1 p4 p2 p3) = (1 : Int32) := (if_pos hc55)
      exact own_here (by rw [hj0])
    · refine own_step (fun t k => XS.ifYes X53.here hx rfl (pc0 := 93) (pc' := 100) rfl (hb hby at_93) rfl ((if0 _ _).trans (flt hc55).2.2.2) (by decide) (by decide) k) ?_
      show own_Run p e below T53 (mkF m 100 #[.val (.int p0), .val (.int p1), .val (.int p2), .val (.int p3), .val (.int p4), .val (.int (own_f0_12 p4 p2 p0)), .val (.int (own_f0_26 p4 p3 p1)), .val (.ref b35), .val (.ref b39), .val (.int (own_f0_59 p0 p1 p4 p2 p3)), .val (.int (own_f0_68 p4 p2 p0 p3 p1)), .val (.long (own_r4 p0 p1)), .second, .val (.long (own_f0_84 p4 p2 p0 p3 p1)), .second] [(.int (own_f0_59 p0 p1 p4 p2 p3))]) _
      refine own_step (fun t k => XS.iconst X53.here hx rfl (hb hby at_100) k) ?_
      show own_Run p e below T53 (mkF m 101 #[.val (.int p0), .val (.int p1), .val (.int p2), .val (.int p3), .val (.int p4), .val (.int (own_f0_12 p4 p2 p0)), .val (.int (own_f0_26 p4 p3 p1)), .val (.ref b35), .val (.ref b39), .val (.int (own_f0_59 p0 p1 p4 p2 p3)), .val (.int (own_f0_68 p4 p2 p0 p3 p1)), .val (.long (own_r4 p0 p1)), .second, .val (.long (own_f0_84 p4 p2 p0 p3 p1)), .second] [(.int (0 : Int32)), (.int (own_f0_59 p0 p1 p4 p2 p3))]) _
      have hj0 : (own_f0_j101_S0 p0 p1 p4 p2 p3) = (0 : Int32) := (if_neg hc55)
      exact own_here (by rw [hj0])
  refine own_tr st54 ?_
  show own_Run p e below T53 (mkF m 101 #[.val (.int p0), .val (.int p1), .val (.int p2), .val (.int p3), .val (.int p4), .val (.int (own_f0_12 p4 p2 p0)), .val (.int (own_f0_26 p4 p3 p1)), .val (.ref b35), .val (.ref b39), .val (.int (own_f0_59 p0 p1 p4 p2 p3)), .val (.int (own_f0_68 p4 p2 p0 p3 p1)), .val (.long (own_r4 p0 p1)), .second, .val (.long (own_f0_84 p4 p2 p0 p3 p1)), .second] [(.int (own_f0_j101_S0 p0 p1 p4 p2 p3)), (.int (own_f0_59 p0 p1 p4 p2 p3))]) _
  obtain ⟨_, st56, rfl⟩ : own_Run p e below T53 (mkF m 101 #[.val (.int p0), .val (.int p1), .val (.int p2), .val (.int p3), .val (.int p4), .val (.int (own_f0_12 p4 p2 p0)), .val (.int (own_f0_26 p4 p3 p1)), .val (.ref b35), .val (.ref b39), .val (.int (own_f0_59 p0 p1 p4 p2 p3)), .val (.int (own_f0_68 p4 p2 p0 p3 p1)), .val (.long (own_r4 p0 p1)), .second, .val (.long (own_f0_84 p4 p2 p0 p3 p1)), .second] [(.int (own_f0_j101_S0 p0 p1 p4 p2 p3)), (.int (own_f0_59 p0 p1 p4 p2 p3))]) (fun t => t = T53.setTop (mkF m 127 #[.val (.int p0), .val (.int p1), .val (.int p2), .val (.int p3), .val (.int p4), .val (.int (own_f0_12 p4 p2 p0)), .val (.int (own_f0_26 p4 p3 p1)), .val (.ref b35), .val (.ref b39), .val (.int (own_f0_59 p0 p1 p4 p2 p3)), .val (.int (own_f0_68 p4 p2 p0 p3 p1)), .val (.long (own_r4 p0 p1)), .second, .val (.long (own_f0_84 p4 p2 p0 p3 p1)), .second] [(.int (own_f0_j127_S0 p0 p1 p4 p2 p3))])) := by
    by_cases hc57 : (own_f0_59 p0 p1 p4 p2 p3) = (own_f0_j101_S0 p0 p1 p4 p2 p3)
    · refine own_step (fun t k => XS.icmpNo X53.here hx rfl (hb hby at_101) rfl (teq hc57).2 k) ?_
      show own_Run p e below T53 (mkF m 104 #[.val (.int p0), .val (.int p1), .val (.int p2), .val (.int p3), .val (.int p4), .val (.int (own_f0_12 p4 p2 p0)), .val (.int (own_f0_26 p4 p3 p1)), .val (.ref b35), .val (.ref b39), .val (.int (own_f0_59 p0 p1 p4 p2 p3)), .val (.int (own_f0_68 p4 p2 p0 p3 p1)), .val (.long (own_r4 p0 p1)), .second, .val (.long (own_f0_84 p4 p2 p0 p3 p1)), .second] []) _
      refine own_step (fun t k => XS.iload X53.here hx rfl (hb hby at_104) rfl  k) ?_
      show own_Run p e below T53 (mkF m 106 #[.val (.int p0), .val (.int p1), .val (.int p2), .val (.int p3), .val (.int p4), .val (.int (own_f0_12 p4 p2 p0)), .val (.int (own_f0_26 p4 p3 p1)), .val (.ref b35), .val (.ref b39), .val (.int (own_f0_59 p0 p1 p4 p2 p3)), .val (.int (own_f0_68 p4 p2 p0 p3 p1)), .val (.long (own_r4 p0 p1)), .second, .val (.long (own_f0_84 p4 p2 p0 p3 p1)), .second] [(.int (own_f0_68 p4 p2 p0 p3 p1))]) _
      refine own_step (fun t k => XS.lload X53.here hx rfl (hb hby at_106) rfl  k) ?_
      show own_Run p e below T53 (mkF m 108 #[.val (.int p0), .val (.int p1), .val (.int p2), .val (.int p3), .val (.int p4), .val (.int (own_f0_12 p4 p2 p0)), .val (.int (own_f0_26 p4 p3 p1)), .val (.ref b35), .val (.ref b39), .val (.int (own_f0_59 p0 p1 p4 p2 p3)), .val (.int (own_f0_68 p4 p2 p0 p3 p1)), .val (.long (own_r4 p0 p1)), .second, .val (.long (own_f0_84 p4 p2 p0 p3 p1)), .second] [(.long (own_f0_84 p4 p2 p0 p3 p1)), (.int (own_f0_68 p4 p2 p0 p3 p1))]) _
      refine own_step (fun t k => XS.lload X53.here hx rfl (hb hby at_108) rfl  k) ?_
      show own_Run p e below T53 (mkF m 110 #[.val (.int p0), .val (.int p1), .val (.int p2), .val (.int p3), .val (.int p4), .val (.int (own_f0_12 p4 p2 p0)), .val (.int (own_f0_26 p4 p3 p1)), .val (.ref b35), .val (.ref b39), .val (.int (own_f0_59 p0 p1 p4 p2 p3)), .val (.int (own_f0_68 p4 p2 p0 p3 p1)), .val (.long (own_r4 p0 p1)), .second, .val (.long (own_f0_84 p4 p2 p0 p3 p1)), .second] [(.long (own_r4 p0 p1)), (.long (own_f0_84 p4 p2 p0 p3 p1)), (.int (own_f0_68 p4 p2 p0 p3 p1))]) _
      refine own_step (fun t k => XS.lcmp X53.here hx rfl (hb hby at_110) rfl k) ?_
      show own_Run p e below T53 (mkF m 111 #[.val (.int p0), .val (.int p1), .val (.int p2), .val (.int p3), .val (.int p4), .val (.int (own_f0_12 p4 p2 p0)), .val (.int (own_f0_26 p4 p3 p1)), .val (.ref b35), .val (.ref b39), .val (.int (own_f0_59 p0 p1 p4 p2 p3)), .val (.int (own_f0_68 p4 p2 p0 p3 p1)), .val (.long (own_r4 p0 p1)), .second, .val (.long (own_f0_84 p4 p2 p0 p3 p1)), .second] [(.int (lcmpW (own_f0_84 p4 p2 p0 p3 p1) (own_r4 p0 p1))), (.int (own_f0_68 p4 p2 p0 p3 p1))]) _
      obtain ⟨_, st58, rfl⟩ : own_Run p e below T53 (mkF m 111 #[.val (.int p0), .val (.int p1), .val (.int p2), .val (.int p3), .val (.int p4), .val (.int (own_f0_12 p4 p2 p0)), .val (.int (own_f0_26 p4 p3 p1)), .val (.ref b35), .val (.ref b39), .val (.int (own_f0_59 p0 p1 p4 p2 p3)), .val (.int (own_f0_68 p4 p2 p0 p3 p1)), .val (.long (own_r4 p0 p1)), .second, .val (.long (own_f0_84 p4 p2 p0 p3 p1)), .second] [(.int (lcmpW (own_f0_84 p4 p2 p0 p3 p1) (own_r4 p0 p1))), (.int (own_f0_68 p4 p2 p0 p3 p1))]) (fun t => t = T53.setTop (mkF m 119 #[.val (.int p0), .val (.int p1), .val (.int p2), .val (.int p3), .val (.int p4), .val (.int (own_f0_12 p4 p2 p0)), .val (.int (own_f0_26 p4 p3 p1)), .val (.ref b35), .val (.ref b39), .val (.int (own_f0_59 p0 p1 p4 p2 p3)), .val (.int (own_f0_68 p4 p2 p0 p3 p1)), .val (.long (own_r4 p0 p1)), .second, .val (.long (own_f0_84 p4 p2 p0 p3 p1)), .second] [(.int (own_f0_j119_S0 p4 p2 p0 p3 p1)), (.int (own_f0_68 p4 p2 p0 p3 p1))])) := by
        by_cases hc59 : (0 : Int32) < (lcmpW (own_f0_84 p4 p2 p0 p3 p1) (own_r4 p0 p1))
        · refine own_step (fun t k => XS.ifNo X53.here hx rfl (hb hby at_111) rfl ((if0 _ _).trans (tlt hc59).2.2.2) k) ?_
          show own_Run p e below T53 (mkF m 114 #[.val (.int p0), .val (.int p1), .val (.int p2), .val (.int p3), .val (.int p4), .val (.int (own_f0_12 p4 p2 p0)), .val (.int (own_f0_26 p4 p3 p1)), .val (.ref b35), .val (.ref b39), .val (.int (own_f0_59 p0 p1 p4 p2 p3)), .val (.int (own_f0_68 p4 p2 p0 p3 p1)), .val (.long (own_r4 p0 p1)), .second, .val (.long (own_f0_84 p4 p2 p0 p3 p1)), .second] [(.int (own_f0_68 p4 p2 p0 p3 p1))]) _
          refine own_step (fun t k => XS.iconst X53.here hx rfl (hb hby at_114) k) ?_
          show own_Run p e below T53 (mkF m 115 #[.val (.int p0), .val (.int p1), .val (.int p2), .val (.int p3), .val (.int p4), .val (.int (own_f0_12 p4 p2 p0)), .val (.int (own_f0_26 p4 p3 p1)), .val (.ref b35), .val (.ref b39), .val (.int (own_f0_59 p0 p1 p4 p2 p3)), .val (.int (own_f0_68 p4 p2 p0 p3 p1)), .val (.long (own_r4 p0 p1)), .second, .val (.long (own_f0_84 p4 p2 p0 p3 p1)), .second] [(.int (1 : Int32)), (.int (own_f0_68 p4 p2 p0 p3 p1))]) _
          refine own_step (fun t k => XS.goto X53.here hx rfl (pc0 := 115) (pc' := 119) rfl (hb hby at_115) (by decide) (by decide) k) ?_
          show own_Run p e below T53 (mkF m 119 #[.val (.int p0), .val (.int p1), .val (.int p2), .val (.int p3), .val (.int p4), .val (.int (own_f0_12 p4 p2 p0)), .val (.int (own_f0_26 p4 p3 p1)), .val (.ref b35), .val (.ref b39), .val (.int (own_f0_59 p0 p1 p4 p2 p3)), .val (.int (own_f0_68 p4 p2 p0 p3 p1)), .val (.long (own_r4 p0 p1)), .second, .val (.long (own_f0_84 p4 p2 p0 p3 p1)), .second] [(.int (1 : Int32)), (.int (own_f0_68 p4 p2 p0 p3 p1))]) _
          have hj0 : (own_f0_j119_S0 p4 p2 p0 p3 p1) = (1 : Int32) := (if_pos hc59)
          exact own_here (by rw [hj0])
        · refine own_step (fun t k => XS.ifYes X53.here hx rfl (pc0 := 111) (pc' := 118) rfl (hb hby at_111) rfl ((if0 _ _).trans (flt hc59).2.2.2) (by decide) (by decide) k) ?_
          show own_Run p e below T53 (mkF m 118 #[.val (.int p0), .val (.int p1), .val (.int p2), .val (.int p3), .val (.int p4), .val (.int (own_f0_12 p4 p2 p0)), .val (.int (own_f0_26 p4 p3 p1)), .val (.ref b35), .val (.ref b39), .val (.int (own_f0_59 p0 p1 p4 p2 p3)), .val (.int (own_f0_68 p4 p2 p0 p3 p1)), .val (.long (own_r4 p0 p1)), .second, .val (.long (own_f0_84 p4 p2 p0 p3 p1)), .second] [(.int (own_f0_68 p4 p2 p0 p3 p1))]) _
          refine own_step (fun t k => XS.iconst X53.here hx rfl (hb hby at_118) k) ?_
          show own_Run p e below T53 (mkF m 119 #[.val (.int p0), .val (.int p1), .val (.int p2), .val (.int p3), .val (.int p4), .val (.int (own_f0_12 p4 p2 p0)), .val (.int (own_f0_26 p4 p3 p1)), .val (.ref b35), .val (.ref b39), .val (.int (own_f0_59 p0 p1 p4 p2 p3)), .val (.int (own_f0_68 p4 p2 p0 p3 p1)), .val (.long (own_r4 p0 p1)), .second, .val (.long (own_f0_84 p4 p2 p0 p3 p1)), .second] [(.int (0 : Int32)), (.int (own_f0_68 p4 p2 p0 p3 p1))]) _
          have hj0 : (own_f0_j119_S0 p4 p2 p0 p3 p1) = (0 : Int32) := (if_neg hc59)
          exact own_here (by rw [hj0])
      refine own_tr st58 ?_
      show own_Run p e below T53 (mkF m 119 #[.val (.int p0), .val (.int p1), .val (.int p2), .val (.int p3), .val (.int p4), .val (.int (own_f0_12 p4 p2 p0)), .val (.int (own_f0_26 p4 p3 p1)), .val (.ref b35), .val (.ref b39), .val (.int (own_f0_59 p0 p1 p4 p2 p3)), .val (.int (own_f0_68 p4 p2 p0 p3 p1)), .val (.long (own_r4 p0 p1)), .second, .val (.long (own_f0_84 p4 p2 p0 p3 p1)), .second] [(.int (own_f0_j119_S0 p4 p2 p0 p3 p1)), (.int (own_f0_68 p4 p2 p0 p3 p1))]) _
      by_cases hc60 : (own_f0_68 p4 p2 p0 p3 p1) = (own_f0_j119_S0 p4 p2 p0 p3 p1)
      · refine own_step (fun t k => XS.icmpNo X53.here hx rfl (hb hby at_119) rfl (teq hc60).2 k) ?_
        show own_Run p e below T53 (mkF m 122 #[.val (.int p0), .val (.int p1), .val (.int p2), .val (.int p3), .val (.int p4), .val (.int (own_f0_12 p4 p2 p0)), .val (.int (own_f0_26 p4 p3 p1)), .val (.ref b35), .val (.ref b39), .val (.int (own_f0_59 p0 p1 p4 p2 p3)), .val (.int (own_f0_68 p4 p2 p0 p3 p1)), .val (.long (own_r4 p0 p1)), .second, .val (.long (own_f0_84 p4 p2 p0 p3 p1)), .second] []) _
        refine own_step (fun t k => XS.iconst X53.here hx rfl (hb hby at_122) k) ?_
        show own_Run p e below T53 (mkF m 123 #[.val (.int p0), .val (.int p1), .val (.int p2), .val (.int p3), .val (.int p4), .val (.int (own_f0_12 p4 p2 p0)), .val (.int (own_f0_26 p4 p3 p1)), .val (.ref b35), .val (.ref b39), .val (.int (own_f0_59 p0 p1 p4 p2 p3)), .val (.int (own_f0_68 p4 p2 p0 p3 p1)), .val (.long (own_r4 p0 p1)), .second, .val (.long (own_f0_84 p4 p2 p0 p3 p1)), .second] [(.int (1 : Int32))]) _
        refine own_step (fun t k => XS.goto X53.here hx rfl (pc0 := 123) (pc' := 127) rfl (hb hby at_123) (by decide) (by decide) k) ?_
        show own_Run p e below T53 (mkF m 127 #[.val (.int p0), .val (.int p1), .val (.int p2), .val (.int p3), .val (.int p4), .val (.int (own_f0_12 p4 p2 p0)), .val (.int (own_f0_26 p4 p3 p1)), .val (.ref b35), .val (.ref b39), .val (.int (own_f0_59 p0 p1 p4 p2 p3)), .val (.int (own_f0_68 p4 p2 p0 p3 p1)), .val (.long (own_r4 p0 p1)), .second, .val (.long (own_f0_84 p4 p2 p0 p3 p1)), .second] [(.int (1 : Int32))]) _
        have hj0 : (own_f0_j127_S0 p0 p1 p4 p2 p3) = (1 : Int32) := ((if_pos hc57).trans (if_pos hc60))
        exact own_here (by rw [hj0])
      · refine own_step (fun t k => XS.icmpYes X53.here hx rfl (pc0 := 119) (pc' := 126) rfl (hb hby at_119) rfl (feq hc60).2 (by decide) (by decide) k) ?_
        show own_Run p e below T53 (mkF m 126 #[.val (.int p0), .val (.int p1), .val (.int p2), .val (.int p3), .val (.int p4), .val (.int (own_f0_12 p4 p2 p0)), .val (.int (own_f0_26 p4 p3 p1)), .val (.ref b35), .val (.ref b39), .val (.int (own_f0_59 p0 p1 p4 p2 p3)), .val (.int (own_f0_68 p4 p2 p0 p3 p1)), .val (.long (own_r4 p0 p1)), .second, .val (.long (own_f0_84 p4 p2 p0 p3 p1)), .second] []) _
        refine own_step (fun t k => XS.iconst X53.here hx rfl (hb hby at_126) k) ?_
        show own_Run p e below T53 (mkF m 127 #[.val (.int p0), .val (.int p1), .val (.int p2), .val (.int p3), .val (.int p4), .val (.int (own_f0_12 p4 p2 p0)), .val (.int (own_f0_26 p4 p3 p1)), .val (.ref b35), .val (.ref b39), .val (.int (own_f0_59 p0 p1 p4 p2 p3)), .val (.int (own_f0_68 p4 p2 p0 p3 p1)), .val (.long (own_r4 p0 p1)), .second, .val (.long (own_f0_84 p4 p2 p0 p3 p1)), .second] [(.int (0 : Int32))]) _
        have hj0 : (own_f0_j127_S0 p0 p1 p4 p2 p3) = (0 : Int32) := ((if_pos hc57).trans (if_neg hc60))
        exact own_here (by rw [hj0])
    · refine own_step (fun t k => XS.icmpYes X53.here hx rfl (pc0 := 101) (pc' := 126) rfl (hb hby at_101) rfl (feq hc57).2 (by decide) (by decide) k) ?_
      show own_Run p e below T53 (mkF m 126 #[.val (.int p0), .val (.int p1), .val (.int p2), .val (.int p3), .val (.int p4), .val (.int (own_f0_12 p4 p2 p0)), .val (.int (own_f0_26 p4 p3 p1)), .val (.ref b35), .val (.ref b39), .val (.int (own_f0_59 p0 p1 p4 p2 p3)), .val (.int (own_f0_68 p4 p2 p0 p3 p1)), .val (.long (own_r4 p0 p1)), .second, .val (.long (own_f0_84 p4 p2 p0 p3 p1)), .second] []) _
      refine own_step (fun t k => XS.iconst X53.here hx rfl (hb hby at_126) k) ?_
      show own_Run p e below T53 (mkF m 127 #[.val (.int p0), .val (.int p1), .val (.int p2), .val (.int p3), .val (.int p4), .val (.int (own_f0_12 p4 p2 p0)), .val (.int (own_f0_26 p4 p3 p1)), .val (.ref b35), .val (.ref b39), .val (.int (own_f0_59 p0 p1 p4 p2 p3)), .val (.int (own_f0_68 p4 p2 p0 p3 p1)), .val (.long (own_r4 p0 p1)), .second, .val (.long (own_f0_84 p4 p2 p0 p3 p1)), .second] [(.int (0 : Int32))]) _
      have hj0 : (own_f0_j127_S0 p0 p1 p4 p2 p3) = (0 : Int32) := (if_neg hc57)
      exact own_here (by rw [hj0])
  refine own_tr st56 ?_
  show own_Run p e below T53 (mkF m 127 #[.val (.int p0), .val (.int p1), .val (.int p2), .val (.int p3), .val (.int p4), .val (.int (own_f0_12 p4 p2 p0)), .val (.int (own_f0_26 p4 p3 p1)), .val (.ref b35), .val (.ref b39), .val (.int (own_f0_59 p0 p1 p4 p2 p3)), .val (.int (own_f0_68 p4 p2 p0 p3 p1)), .val (.long (own_r4 p0 p1)), .second, .val (.long (own_f0_84 p4 p2 p0 p3 p1)), .second] [(.int (own_f0_j127_S0 p0 p1 p4 p2 p3))]) _
  exact own_retZ X53 hx hlk hret (hb hby at_127) (by decide) (by decide) N53 trivial
theorem own_key (a b : Int32) : (own_r4 a b).toInt = a.toInt * 4294967296 + (b.toInt + 2147483648) := by
  have h1 := Int32.toInt_lt a; have h2 := Int32.le_toInt a; have h3 := Int32.toInt_lt b; have h4 := Int32.le_toInt b
  have c1 : (4294967296 : Int64).toInt = 4294967296 := by decide
  have c2 : (2147483648 : Int64).toInt = 2147483648 := by decide
  have m1 : (a.toInt64 * 4294967296).toInt = a.toInt * 4294967296 := by
    rw [Jvm.Kit.i64_mul (by rw [Jvm.Kit.i64_of_i32, c1]; omega) (by rw [Jvm.Kit.i64_of_i32, c1]; omega), Jvm.Kit.i64_of_i32, c1]
  have m2 : (b.toInt64 + 2147483648).toInt = b.toInt + 2147483648 := by
    rw [Jvm.Kit.i64_add (by rw [Jvm.Kit.i64_of_i32, c2]; omega) (by rw [Jvm.Kit.i64_of_i32, c2]; omega), Jvm.Kit.i64_of_i32, c2]
  unfold own_r4
  rw [Jvm.Kit.i64_add (by rw [m1, m2]; omega) (by rw [m1, m2]; omega), m1, m2]
theorem own_after (a b c d : Int32) : own_r3 a b c d = (if (0 : Int32) < lcmpW (own_r4 a b) (own_r4 c d) then 1 else 0) := by
  have h3 := Int32.toInt_lt b; have h4 := Int32.le_toInt b; have h5 := Int32.toInt_lt d; have h6 := Int32.le_toInt d
  have q : (0 : Int32) < lcmpW (own_r4 a b) (own_r4 c d) ↔ (c < a ∨ (a = c ∧ d < b)) := by
    rw [lw_gt, Int64.lt_iff_toInt_lt, own_key, own_key, Int32.lt_iff_toInt_lt, Int32.lt_iff_toInt_lt, ← Int32.toInt_inj]; omega
  unfold own_r3 own_f3_j38_S0
  by_cases h1 : c < a
  · rw [if_pos h1, if_pos (q.mpr (Or.inl h1))]; rfl
  · rw [if_neg h1]
    by_cases h2 : a = c
    · rw [if_pos h2]
      by_cases h7 : d < b
      · rw [if_pos h7, if_pos (q.mpr (Or.inr ⟨h2, h7⟩))]; rfl
      · rw [if_neg h7, if_neg (fun z => (q.mp z).elim h1 (fun y => h7 y.2))]; rfl
    · rw [if_neg h2, if_neg (fun z => (q.mp z).elim h1 (fun y => h2 y.1))]; rfl
theorem own_plain (p0 p1 p2 p3 p4 : Int32) : own_r0 p0 p1 p2 p3 p4 = 1 := by
  have a : own_f0_59 p0 p1 p4 p2 p3 = own_f0_j101_S0 p0 p1 p4 p2 p3 := own_after _ _ _ _
  have b : own_f0_68 p4 p2 p0 p3 p1 = own_f0_j119_S0 p4 p2 p0 p3 p1 := own_after _ _ _ _
  unfold own_r0 own_f0_j127_S0; rw [if_pos a, if_pos b]; rfl

set_option maxRecDepth 65536 in
set_option maxHeartbeats 40000000 in
theorem own_comes {Post : Tables → Env → Array Value → State → Outcome → State → Prop} (hpost : ∀ tb e args s v u, (limb_1_1.after args s (.returned v) u = true ∧ limb_1_2.after args s (.returned v) u = true ∧ True) → FrameEnd s (.returned v) u (Jvm.fieldLocs frame_1_writes args s ++ Jvm.arrayLocs frame_1_arrays args s ++ Jvm.staticLocs frame_1_statics s) 16 128 → Post tb e args s (.returned v) u) :
    ArmFor flags0 classFile x code maxLocals ret World_1 tables_1 room_1 Calls_1 rest_1 Pre_1 Post := by
  intro l hfl _ _ p e ha hc hk s m args below hf hA hF happ hP
  obtain ⟨hcalls, hrest, hpre⟩ := hP
  obtain ⟨-, -, -, hnamed, -, -, -, hat⟩ := (Spec.applies_iff hf).mp happ
  obtain ⟨hg, hn⟩ := and_e (Cond.before_iff.mp (show (Jvm.Cond.and given_1 narrow_1).before args s = true from hpre))
  obtain ⟨gc, g0⟩ := and_e hg
  obtain ⟨v0, g1⟩ := and_e g0
  obtain ⟨v1, g2⟩ := and_e g1
  obtain ⟨v2, g3⟩ := and_e g2
  obtain ⟨v3, g4⟩ := and_e g3
  obtain ⟨w0, w1, w2, w3, w4, rfl⟩ : ∃ w0 w1 w2 w3 w4 : Value, args = #[w0, w1, w2, w3, w4] := by
    have hs : args.size = 5 := by simpa [Cond.value, given_1] using gc
    obtain ⟨L⟩ := args
    match L, hs with
    | [w0, w1, w2, w3, w4], _ => exact ⟨w0, w1, w2, w3, w4, rfl⟩
  have hw := fun d (hd : d ∈ tables_1) => atoms_spec (ws := Jvm.Cond.code x code maxLocals ret :: tables_1) hat d (List.mem_cons_of_mem _ hd)
  obtain ⟨i0, ei0⟩ := is_v v0
  obtain rfl : w0 = (.int i0) := Option.some.inj ei0
  obtain ⟨i1, ei1⟩ := is_v v1
  obtain rfl : w1 = (.int i1) := Option.some.inj ei1
  obtain ⟨i2, ei2⟩ := is_v v2
  obtain rfl : w2 = (.int i2) := Option.some.inj ei2
  obtain ⟨i3, ei3⟩ := is_v v3
  obtain rfl : w3 = (.int i3) := Option.some.inj ei3
  obtain ⟨i4, ei4⟩ := is_v g4
  obtain rfl : w4 = (.int i4) := Option.some.inj ei4
  obtain ⟨n, o, h1, h2, h3, _, L, rfl, ⟨rfl, N, -⟩, hq⟩ := rm0 l s _ hw tables_1 i0 i1 i2 i3 i4  s.heap s.heap.size (Nat.le_refl _)  p e ha hc hk s m _ below hf ((Spec.applies_iff_loose hf).mp happ).1 ⟨rfl, State.Warmed39.refl s, rfl⟩ trivial
  have hv : own_r0 i0 i1 i2 i3 i4 = 1 := own_plain i0 i1 i2 i3 i4
  refine ⟨n, _, h1, h2, h3, hpost _ _ _ _ _ _ ⟨Cond.after_iff.mpr rfl, Cond.after_iff.mpr (eq_i res_at (Term.int_eval (1)) (congrArg Value.int hv)), trivial⟩ ⟨hq.1, hq.2.1, (hq.2.2.sift fun y hy => Or.inr (N y hy)).mono (by decide) (by decide)⟩⟩
theorem main_1_1 : Claimed_1_1 := own_comes fun _ _ _ _ _ _ h hF => ⟨h.1, hF⟩
theorem main_1_2 : Claimed_1_2 := own_comes fun _ _ _ _ _ _ h hF => ⟨h.2.1, hF⟩
end Jvm.Pilot.@@N@@
namespace Jvm.Pilot.@@N@@
open Jvm Jvm.ClassFile Sem Op Lib Jvm.Free Jvm.Stand Jvm.Pilot.@@N@@.Jvm.D
/-! MADE BY PROGRAM (witnessworld.py) out of the Statement's table words and the real class files: 8 classes; the members and pool entries that the words name. The judged class is class 1, her method 2. -/
namespace start1
open Jvm.ClassFile
def u (s : String) : CpInfo := .utf8 (stringToUtf16 s)
/-- a pool by its gaps: so many unusable entries, then the entry; so many at the end -/
def gap : Nat → List CpInfo → List CpInfo
  | 0, r => r
  | n + 1, r => .unusable :: gap n r
def poolList (es : List (Nat × CpInfo)) (last : Nat) : List CpInfo := es.foldr (fun e r => gap e.1 (e.2 :: r)) (gap last [])
def pool (es : List (Nat × CpInfo)) (last : Nat) : Array CpInfo := ⟨poolList es last⟩
def fileOf (pool : Array CpInfo) (this : Nat) (attrs : Array Attribute := #[]) (ms : Array MethodInfo := #[]) (fl : Nat := 33) (sup : Nat := 0) (ifs : Array Nat := #[]) (fds : Array FieldInfo := #[]) : ClassFile where
  minorVersion := 0
  majorVersion := 65
  constantPool := pool
  accessFlags := fl
  thisClass := this
  superClass := sup
  interfaces := ifs
  fields := fds
  methods := ms
  attributes := attrs
def plain (name : String) (sup : Option ClassId) : Class where
  name := name
  kind := .ordinary
  loader := none
  accessFlags := 33
  super := sup
  interfaces := #[]
  cf := none
  fields := #[]
  methods := #[]
  instanceTypes := #[]
  staticTypes := #[]
  resolved := #[]
  callSites := []
  init := .initialized
  statics := none
  mirror := none

def pool0 : Array CpInfo := pool [(5, u "<init>"), (0, u "()V"), (1, .class_ 10), (1, u "java/lang/Object")] 113

def k0c0 : Code := { maxStack := 0, maxLocals := 1, code := object_method_1_code, exceptionTable := #[], attributes := #[] }
def k0m0 : Method := { name := "<init>", desc := "()V", sig := { parameters := [], returnType := none }, accessFlags := 1, code := some k0c0 }
/-- java/lang/Object -/
def k0 : Class := { plain "java/lang/Object" none with
  accessFlags := 33
  interfaces := #[]
  cf := some (fileOf pool0 8 #[] #[{ accessFlags := 1, nameIndex := 5, descriptorIndex := 6, attributes := #[] }] 33 0 #[] #[])
  fields := #[]
  methods := #[k0m0]
  instanceTypes := #[]
  staticTypes := #[]
  resolved := Array.replicate 124 none
  statics := none }

def pool1 : Array CpInfo := pool [(2, .class_ 4), (1, u "java/lang/Object"), (0, u "<init>"), (0, u "()V"), (0, .long 4294967296), (1, .long 2147483648), (1, .class_ 12), (0, u "com/example/emscher/emscher/io/XmlDocuments$Place"), (0, .methodref 11 14), (0, .nameAndType 5 15), (0, u "(II)V"), (0, .methodref 11 17), (0, .nameAndType 18 19), (0, u "isAfter"), (0, u "(Lcom/example/emscher/emscher/io/XmlDocuments$Place;)Z"), (0, .methodref 21 22), (0, .class_ 23), (0, .nameAndType 24 25), (0, u "com/example/emscher/emscher/io/PlaceIsAfterPinLaw"), (0, u "key"), (0, u "(II)J"), (2, u "law"), (0, u "(IIIII)Z")] 7

def k1m0 : Method := { name := "<init>", desc := "()V", sig := { parameters := [], returnType := none }, accessFlags := 2, code := none }
def k1c1 : Code := { maxStack := 6, maxLocals := 2, code := method_2_code, exceptionTable := #[], attributes := #[] }
def k1m1 : Method := { name := "key", desc := "(II)J", sig := { parameters := [.int, .int], returnType := some .long }, accessFlags := 10, code := some k1c1 }
def k1c2 : Code := { maxStack := 5, maxLocals := 15, code := code, exceptionTable := #[], attributes := #[] }
def k1m2 : Method := { name := "law", desc := "(IIIII)Z", sig := { parameters := [.int, .int, .int, .int, .int], returnType := some .boolean }, accessFlags := 9, code := some k1c2 }
/-- com/example/emscher/emscher/io/PlaceIsAfterPinLaw -/
def k1 : Class := { plain "com/example/emscher/emscher/io/PlaceIsAfterPinLaw" (some 0) with
  accessFlags := 49
  interfaces := #[]
  cf := some (fileOf pool1 21 #[] #[{ accessFlags := 2, nameIndex := 5, descriptorIndex := 6, attributes := #[] }, { accessFlags := 10, nameIndex := 24, descriptorIndex := 25, attributes := #[] }, { accessFlags := 9, nameIndex := 28, descriptorIndex := 29, attributes := #[] }] 49 2 #[] #[])
  fields := #[]
  methods := #[k1m0, k1m1, k1m2]
  instanceTypes := #[]
  staticTypes := #[]
  resolved := Array.replicate 37 none
  statics := none }

def pool2 : Array CpInfo := pool [(1, u "javax/xml/stream/Location"), (0, .class_ 1), (0, u "java/lang/Object"), (0, .class_ 3)] 3

/-- javax/xml/stream/Location -/
def k2 : Class := { plain "javax/xml/stream/Location" (some 0) with
  accessFlags := 1537
  interfaces := #[]
  cf := some (fileOf pool2 2 #[] #[] 1537 4 #[] #[])
  fields := #[]
  methods := #[]
  instanceTypes := #[]
  staticTypes := #[]
  resolved := Array.replicate 8 none
  statics := none }

def pool3 : Array CpInfo := pool [(1, .class_ 2), (0, u "com/example/emscher/emscher/io/XmlDocuments"), (0, .methodref 4 5), (0, .class_ 6), (0, .nameAndType 7 8), (0, u "java/lang/Object"), (0, u "<init>"), (0, u "()V"), (0, .fieldref 10 11), (0, .class_ 12), (0, .nameAndType 13 14), (0, u "com/example/emscher/emscher/io/XmlDocuments$Place"), (0, u "line"), (0, u "I"), (0, .fieldref 10 16), (0, .nameAndType 17 14), (0, u "column"), (2, u "(II)V"), (2, .class_ 24), (0, u "javax/xml/stream/Location"), (5, u "isAfter"), (0, u "(Lcom/example/emscher/emscher/io/XmlDocuments$Place;)Z")] 12

def k3c0 : Code := { maxStack := 2, maxLocals := 3, code := prog_46_method_1_code, exceptionTable := #[], attributes := #[] }
def k3m0 : Method := { name := "<init>", desc := "(II)V", sig := { parameters := [.int, .int], returnType := none }, accessFlags := 0, code := some k3c0 }
def k3c1 : Code := { maxStack := 2, maxLocals := 2, code := prog_46_method_3_code, exceptionTable := #[], attributes := #[] }
def k3m1 : Method := { name := "isAfter", desc := "(Lcom/example/emscher/emscher/io/XmlDocuments$Place;)Z", sig := { parameters := [(.object "com/example/emscher/emscher/io/XmlDocuments$Place")], returnType := some .boolean }, accessFlags := 0, code := some k3c1 }
/-- com/example/emscher/emscher/io/XmlDocuments$Place -/
def k3 : Class := { plain "com/example/emscher/emscher/io/XmlDocuments$Place" (some 0) with
  accessFlags := 32
  interfaces := #[2]
  cf := some (fileOf pool3 10 #[.nestHost 1] #[{ accessFlags := 0, nameIndex := 7, descriptorIndex := 20, attributes := #[] }, { accessFlags := 0, nameIndex := 30, descriptorIndex := 31, attributes := #[] }] 32 4 #[23] #[{ accessFlags := 18, nameIndex := 13, descriptorIndex := 14, attributes := #[] }, { accessFlags := 18, nameIndex := 17, descriptorIndex := 14, attributes := #[] }])
  fields := #[{ name := "line", type := .int, accessFlags := 18, slot := 0, constantValue := 0 }, { name := "column", type := .int, accessFlags := 18, slot := 1, constantValue := 0 }]
  methods := #[k3m0, k3m1]
  instanceTypes := #[.int, .int]
  staticTypes := #[]
  resolved := Array.replicate 44 none
  statics := none }

def pool4 : Array CpInfo := pool [(1, u "java/lang/Cloneable"), (0, .class_ 1), (0, u "java/lang/Object"), (0, .class_ 3)] 3

/-- java/lang/Cloneable -/
def k4 : Class := { plain "java/lang/Cloneable" (some 0) with
  accessFlags := 1537
  interfaces := #[]
  cf := some (fileOf pool4 2 #[] #[] 1537 4 #[] #[])
  fields := #[]
  methods := #[]
  instanceTypes := #[]
  staticTypes := #[]
  resolved := Array.replicate 8 none
  statics := none }

def pool5 : Array CpInfo := pool [(1, u "java/io/Serializable"), (0, .class_ 1), (0, u "java/lang/Object"), (0, .class_ 3)] 3

/-- java/io/Serializable -/
def k5 : Class := { plain "java/io/Serializable" (some 0) with
  accessFlags := 1537
  interfaces := #[]
  cf := some (fileOf pool5 2 #[] #[] 1537 4 #[] #[])
  fields := #[]
  methods := #[]
  instanceTypes := #[]
  staticTypes := #[]
  resolved := Array.replicate 8 none
  statics := none }

/-- the primitive byte -/
def k6 : Class := { plain "byte" none with kind := .primitive 'B', accessFlags := 0x411 }
/-- [B -/
def k7 : Class := { plain "[B" (some 0) with kind := .array 6 .byte, interfaces := #[4, 5], accessFlags := 1041 }

def heap : Heap := #[]
def classes : Array Class := #[k0, k1, k2, k3, k4, k5, k6, k7]
def interned : List (Array UInt16 × Addr) := []
def slotsUsed : Nat := 0
def theMethod : MethodId := ⟨1, 2⟩
def args0 : Array Value := #[.int 5, .int 1, .int 2, .int 3, .int 4]
def aboutOver (below : List Frame) : State where
  vm := { classes := classes, interned := interned.toArray }
  heap := heap
  slotsUsed := slotsUsed
  threads := #[{ frames := .invoking theMethod args0 :: below }]
def below0 : List Frame := [.native { method := ⟨0, 0⟩, args := #[] }]
def about1 : State := aboutOver below0
def p0 : Program := .bare "" "" ""
def e0 : Env := launch0.env 0 0 0
theorem w_frames : about1.frames = Frame.invoking theMethod args0 :: below0 := rfl
set_option maxRecDepth 65536 in
theorem w_args : argsFit about1.vm theMethod args0 = true := by decide +kernel
set_option maxRecDepth 65536 in
theorem w_heap : heapFits about1 = true := by decide +kernel
set_option maxRecDepth 65536 in
theorem w_runnable : about1.curStatus? = some .runnable := by decide +kernel
set_option maxRecDepth 65536 in
theorem w_alone : about1.alone = true := by decide +kernel
set_option maxRecDepth 65536 in
theorem w_named : about1.methodNamed? x = some theMethod := by decide +kernel
set_option maxRecDepth 65536 in
theorem w_hears : about1.hears theMethod below0 = true := by decide +kernel
set_option maxRecDepth 65536 in
theorem w_ripe : about1.ripe theMethod args0 below0 = true := by decide +kernel
theorem w_running : about1.status = .running := rfl
set_option maxRecDepth 65536 in
theorem w_room : about1.hasRoom e0.platform room_1 = true :=
  launch0.hasRoom_least _ room_1 (by decide +kernel) (by decide +kernel) (by decide +kernel) (by decide +kernel) (by decide +kernel) (by decide +kernel)
theorem allAtoms_all (ts : List Jvm.Cond) (a : Array Jvm.Value) (st : Jvm.State) : (allAtoms ts).before a st = ts.all (fun c => c.before a st) := by
  induction ts with
  | nil => rfl
  | cons c t ih =>
    show (Jvm.Cond.and c (allAtoms t)).before a st = _
    rw [Jvm.Cond.before_and, ih, List.all_cons]
def words1 : List Jvm.Cond := Jvm.Cond.code x code maxLocals ret :: tables_1
/-- a 'code' word, met by the world's own term for the bytes: nothing is compared byte by byte -/
theorem code_word {y : MethodName} {bytes : ByteArray} {mx : Nat} {rt : Option FieldType} {a : Array Value} {s : State} {m : MethodId} {meth : Method} {c : Code} (h1 : s.methodNamed? y = some m) (h2 : s.vm.method? m = some meth) (h3 : meth.code = some c) (h4 : c.code = bytes)
    (h5 : (c.maxLocals == mx && c.exceptionTable.isEmpty && decide (c.maxStack ≤ mostOperands) && decide (meth.sig.returnType = rt) && !meth.locks && decide (parseMethodDescriptor y.desc = some meth.sig)) = true) : (Jvm.Cond.code y bytes mx rt).before a s = true := by
  simp only [Bool.and_eq_true, beq_iff_eq, Bool.not_eq_true', decide_eq_true_eq] at h5
  obtain ⟨⟨⟨⟨⟨g1, g2⟩, g3⟩, g4⟩, g5⟩, g6⟩ := h5
  simp [Cond.before, Cond.holds, Cond.value, h1, h2, h3, h4, g1, g2, g3, g4, g5, g6]
def isCode : Jvm.Cond → Bool
  | .code _ _ _ _ => true
  | _ => false
theorem all_split {L : List Jvm.Cond} {P : Jvm.Cond → Bool} (h1 : L.all (fun c => isCode c || P c) = true) (h2 : ∀ c ∈ L.filter isCode, P c = true) : L.all P = true := by
  refine List.all_eq_true.mpr fun c hc => ?_
  have h := List.all_eq_true.mp h1 c hc
  rcases Bool.eq_false_or_eq_true (isCode c) with hi | hi
  · exact h2 c (List.mem_filter.mpr ⟨hc, hi⟩)
  · simpa [hi] using h
set_option maxRecDepth 65536 in
theorem w_c0 : (Jvm.Cond.code x code maxLocals ret).before args0 about1 = true := code_word (m := ⟨1, 2⟩) (meth := k1m2) (c := k1c2) (by decide +kernel) rfl rfl rfl (by decide +kernel)
set_option maxRecDepth 65536 in
theorem w_c1 : (Jvm.Cond.code ({ cls := "com/example/emscher/emscher/io/XmlDocuments$Place", name := "<init>", desc := "(II)V" } : Jvm.MethodName) prog_46_method_1_code (3 : Nat) (Option.none : Option Jvm.ClassFile.FieldType)).before args0 about1 = true := code_word (m := ⟨3, 0⟩) (meth := k3m0) (c := k3c0) (by decide +kernel) rfl rfl rfl (by decide +kernel)
set_option maxRecDepth 65536 in
theorem w_c2 : (Jvm.Cond.code ({ cls := "java/lang/Object", name := "<init>", desc := "()V" } : Jvm.MethodName) object_method_1_code (1 : Nat) (Option.none : Option Jvm.ClassFile.FieldType)).before args0 about1 = true := code_word (m := ⟨0, 0⟩) (meth := k0m0) (c := k0c0) (by decide +kernel) rfl rfl rfl (by decide +kernel)
set_option maxRecDepth 65536 in
theorem w_c3 : (Jvm.Cond.code ({ cls := "com/example/emscher/emscher/io/XmlDocuments$Place", name := "isAfter", desc := "(Lcom/example/emscher/emscher/io/XmlDocuments$Place;)Z" } : Jvm.MethodName) prog_46_method_3_code (2 : Nat) (Option.some Jvm.ClassFile.FieldType.boolean)).before args0 about1 = true := code_word (m := ⟨3, 1⟩) (meth := k3m1) (c := k3c1) (by decide +kernel) rfl rfl rfl (by decide +kernel)
set_option maxRecDepth 65536 in
theorem w_c4 : (Jvm.Cond.code ({ cls := "com/example/emscher/emscher/io/PlaceIsAfterPinLaw", name := "key", desc := "(II)J" } : Jvm.MethodName) method_2_code (2 : Nat) (Option.some Jvm.ClassFile.FieldType.long)).before args0 about1 = true := code_word (m := ⟨1, 1⟩) (meth := k1m1) (c := k1c1) (by decide +kernel) rfl rfl rfl (by decide +kernel)
def codes1 : List Jvm.Cond := [Jvm.Cond.code x code maxLocals ret, Jvm.Cond.code ({ cls := "com/example/emscher/emscher/io/XmlDocuments$Place", name := "<init>", desc := "(II)V" } : Jvm.MethodName) prog_46_method_1_code (3 : Nat) (Option.none : Option Jvm.ClassFile.FieldType), Jvm.Cond.code ({ cls := "java/lang/Object", name := "<init>", desc := "()V" } : Jvm.MethodName) object_method_1_code (1 : Nat) (Option.none : Option Jvm.ClassFile.FieldType), Jvm.Cond.code ({ cls := "com/example/emscher/emscher/io/XmlDocuments$Place", name := "isAfter", desc := "(Lcom/example/emscher/emscher/io/XmlDocuments$Place;)Z" } : Jvm.MethodName) prog_46_method_3_code (2 : Nat) (Option.some Jvm.ClassFile.FieldType.boolean), Jvm.Cond.code ({ cls := "com/example/emscher/emscher/io/PlaceIsAfterPinLaw", name := "key", desc := "(II)J" } : Jvm.MethodName) method_2_code (2 : Nat) (Option.some Jvm.ClassFile.FieldType.long)]
set_option maxRecDepth 65536 in
theorem codes_eq : words1.filter isCode = codes1 := rfl
theorem w_codes : ∀ c ∈ words1.filter isCode, c.before args0 about1 = true := by
  rw [codes_eq]
  intro c hc
  simp only [codes1, List.mem_cons, List.not_mem_nil, or_false] at hc
  rcases hc with rfl | rfl | rfl | rfl | rfl
  · exact w_c0
  · exact w_c1
  · exact w_c2
  · exact w_c3
  · exact w_c4
set_option maxRecDepth 65536 in
theorem w_t1 : (words1.take 24).all (fun c => isCode c || c.before args0 about1) = true := by decide +kernel
set_option maxRecDepth 65536 in
theorem w_t2 : (words1.drop 24).all (fun c => isCode c || c.before args0 about1) = true := by decide +kernel
theorem w_tables : (allAtoms (Jvm.Cond.code x code maxLocals ret :: tables_1)).before args0 about1 = true := by
  rw [allAtoms_all]
  show words1.all (fun c => c.before args0 about1) = true
  refine all_split ?_ w_codes
  rw [← List.take_append_drop 24 words1, List.all_append, w_t1, w_t2]
  rfl
set_option maxRecDepth 65536 in
theorem w_case : (Jvm.Cond.and given_1 narrow_1).before args0 about1 = true := by decide +kernel
theorem w_applies : (headSpec (Jvm.Cond.code x code maxLocals ret :: tables_1) room_1).applies x e0.platform about1 = true :=
  (Spec.applies_iff w_frames).mpr ⟨w_running, w_runnable, w_alone, w_named, w_hears, w_ripe, w_room, w_tables⟩
theorem atStart : AtStart classFile x code maxLocals ret World_1 tables_1 room_1 Calls_1 rest_1 Pre_1 launch0 p0 e0 about1 theMethod args0 below0 :=
  ⟨lists_1, trivial, launch0.admits_env _ _ _, launch0.least_env, fairChoices_fair.cas, fairChoices_fair.clock, w_frames, w_args, w_heap, w_applies, trivial, trivial, w_case⟩
end start1
theorem witness_1 : WitnessClaimed_1 := ⟨start1.p0, start1.e0, start1.about1, start1.theMethod, start1.args0, start1.below0, start1.atStart⟩
end Jvm.Pilot.@@N@@
