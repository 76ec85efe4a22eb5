import JvmDerived
import JvmDerived.Pilot.@@N@@Statement
import JvmDerived.Pilot.@@N@@Code
set_option linter.unusedVariables false
set_option linter.unusedSimpArgs false
@@BLOCK:NumsL.lean.txt@@
namespace Jvm.RoadKit
open Sem ClassFile Op Lib Jvm.Stand Jvm.Free Jvm.LawKit
section New
variable {p : Program} {l : Launch} {e : Env} {R : Room} {s : State} {m : MethodId} {args : Array Value} {below : List Frame} {meth : Method} {c : Code} {T : State} {locs : List Loc} {cells slots : Nat}
theorem retI (X : Stand p l e R s m args below meth c T locs cells slots) (hx : p.tables.exec = Jvm.exec) {pc : Nat} {Ls : Array Slot} {z : Int32} {rest : List Value} (hret : meth.sig.returnType = some .int) (hd : decode c.code pc = .ok (.ireturn, 1)) {fs : List Frame}
    (hl : ∀ (f : JFrame) (acts : List Action), f.method = m → f.locked = none → f.entered = [] → (doReturn e (T.setTop f) acts (some (.int z))).1 = T.setFrames fs) : Steps p.tables e below (T.setTop (mkF m pc Ls (.int z :: rest))) (T.setFrames fs) := by
  have hm' : T.vm.method? m = some meth := X.method'
  have hn : narrow .int (.int z) = .int z := rfl
  show Steps p.tables e below (T.setTop { method := m, pc := pc, locals := Ls, stack := _ :: rest, locked := none }) _
  jvm_step X.here [X.here.top, hx, hd, hm', hret, hn]
  first | (intro acts; rw [hl _ acts rfl rfl rfl]) | rw [hl _ _ rfl rfl rfl]
  exact Steps.refl _
end New
end Jvm.RoadKit
namespace Jvm.Pilot.@@N@@
open Jvm Jvm.ClassFile Sem Op Lib Jvm.Free Jvm.Stand Jvm.LawKit Jvm.RoadKit Bundle Jvm.Pilot.@@N@@.Jvm.D
/-! own: Java's shifts and remainders, written short -/
def own_shl (x y : Int32) : Int32 := x <<< (y &&& 31)
def own_shr (x y : Int32) : Int32 := x >>> (y &&& 31)
def own_ushr (x y : Int32) : Int32 := (x.toUInt32 >>> (y &&& 31).toUInt32).toInt32
def own_shlL (x : Int64) (y : Int32) : Int64 := x <<< (y &&& 0x3f).toInt64
def own_shrL (x : Int64) (y : Int32) : Int64 := x >>> (y &&& 0x3f).toInt64
def own_ushrL (x : Int64) (y : Int32) : Int64 := (x.toUInt64 >>> (y &&& 0x3f).toInt64.toUInt64).toInt64
def own_rem (x y : Int32) : Int32 := x - (x / y) * y
def own_remL (x y : Int64) : Int64 := x - (x / y) * y
theorem own_rem_nn {x y : Int32} (hx : 0 ≤ x.toInt) (hy : 0 < y.toInt) : (own_rem x y).toInt = x.toInt % y.toInt := by
  have hd : (x / y).toInt = x.toInt / y.toInt := by
    rw [Jvm.Kit.i32_div (by omega), Int.tdiv_eq_ediv_of_nonneg hx]
  have b1 := Int.emod_add_mul_ediv x.toInt y.toInt
  have b2 := Int.emod_nonneg x.toInt (by omega : y.toInt ≠ 0)
  have b3 := Int.emod_lt_of_pos x.toInt hy
  have b4 : 0 ≤ x.toInt / y.toInt := Int.ediv_nonneg hx (by omega)
  have hX := Int32.toInt_lt x
  have b5 : 0 ≤ y.toInt * (x.toInt / y.toInt) := Int.mul_nonneg (by omega) b4
  have hm : ((x / y) * y).toInt = y.toInt * (x.toInt / y.toInt) := by
    rw [Jvm.Kit.i32_mul (by rw [hd, Int.mul_comm]; omega) (by rw [hd, Int.mul_comm]; omega), hd, Int.mul_comm]
  unfold own_rem
  rw [Jvm.Kit.i32_sub (by rw [hm]; omega) (by rw [hm]; omega), hm]; omega
/-! own: a run from a frame to what 'Post' says -/
section OwnRun
variable {p : Program} {l : Launch} {e : Env} {R : Room} {s : State} {m : MethodId} {args : Array Value} {below : List Frame} {meth : Method} {c : Code} {T T' : State} {locs : List Loc} {cells slots : Nat} {g g' : JFrame} {Post : State → Prop} {n0 : Nat} {P : Heap → Prop} {C S : Nat} {Z : State} {h : Heap} {a : Addr} {k : ClassId} {n j : Int32} {vs : List Value} {d v : Value} {E : State → Outcome → State → List Loc → Nat → Nat → Prop}
def own_Run (p : Program) (e : Env) (below : List Frame) (T : State) (g : JFrame) (Post : State → Prop) : Prop := ∃ t, Steps p.tables e below (T.setTop g) t ∧ Post t
theorem own_step (st : ∀ t, Steps p.tables e below (T'.setTop g') t → Steps p.tables e below (T.setTop g) t) (h : own_Run p e below T' g' Post) : own_Run p e below T g Post := h.imp fun t k => ⟨st t k.1, k.2⟩
theorem own_tr (st : Steps p.tables e below (T.setTop g) (T'.setTop g')) (h : own_Run p e below T' g' Post) : own_Run p e below T g Post := h.imp fun t k => ⟨st.trans k.1, k.2⟩
theorem own_here (h : Post (T.setTop g)) : own_Run p e below T g Post := ⟨_, Steps.refl _, h⟩
theorem own_entry {Q : State → Prop} (q : g = g') (h : own_Run p e below T g' Q) : own_Run p e below T g Q := q ▸ h
def own_Q (n0 : Nat) (P : Heap → Prop) (w : Option Value) : Option Value → Heap → List Loc → Prop := fun v h L => v = w ∧ Fr n0 L ∧ P h
def own_Ret (E : State → Outcome → State → List Loc → Nat → Nat → Prop) (U : State) (below : List Frame) (C S : Nat) (Q : Option Value → Heap → List Loc → Prop) : State → Prop := fun t => t.status = .running ∧ ∃ o, Ended t below o ∧ ∃ v L, o = .returned v ∧ Q v t.heap L ∧ E U o t L C S
theorem own_fin {Q : Option Value → Heap → List Loc → Prop} (h : own_Run p e below T g (own_Ret E s below C S Q)) : ∃ s₂ o, Steps p.tables e below (T.setTop g) s₂ ∧ s₂.status = .running ∧ Ended s₂ below o ∧ ∃ v L, o = .returned v ∧ Q v s₂.heap L ∧ E s o s₂ L C S := by
  obtain ⟨t, st, hr, o, he, r⟩ := h; exact ⟨t, o, st, hr, he, r⟩
theorem own_vi {x y : Int32} (q : x = y) (h : own_Run p e below T g (own_Ret E s below C S (own_Q n0 P (some (.int y))))) : own_Run p e below T g (own_Ret E s below C S (own_Q n0 P (some (.int x)))) := q ▸ h
theorem own_vj {x y : Int64} (q : x = y) (h : own_Run p e below T g (own_Ret E s below C S (own_Q n0 P (some (.long y))))) : own_Run p e below T g (own_Ret E s below C S (own_Q n0 P (some (.long x)))) := q ▸ h
theorem own_leave {w : Option Value} (X : Stand p l e R s m args below meth c T locs cells slots) (hv : meth.sig.returnType = none → w = none) (hlk : meth.locks = false) (hC : cells ≤ C) (hS : slots ≤ S) (N : Fr n0 locs) (hP : P T.heap)
    (st : ∀ fs, (∀ (f : JFrame) (acts : List Action), f.method = m → f.locked = none → f.entered = [] → (doReturn e (T.setTop f) acts w).1 = T.setFrames fs) → Steps p.tables e below (T.setTop g) (T.setFrames fs)) : own_Run p e below T g (own_Ret FrameEnd s below C S (own_Q n0 P w)) := by
  obtain ⟨fs, hr, hrun, hended, hW, hsame⟩ := X.leave (v := w) hv hlk
  exact ⟨_, st fs hr, hrun, _, hended, _, _, rfl, ⟨rfl, N, hP⟩, ⟨_, rfl⟩, hW, hsame.mono hC hS⟩
theorem own_retZ (X : Stand p l e R s m args below meth c T locs cells slots) (hx : p.tables.exec = Jvm.exec) (hlk : meth.locks = false) {pc : Nat} {Ls : Array Slot} {z : Int32} {rest : List Value} (hret : meth.sig.returnType = some .boolean) (hd : decode c.code pc = .ok (.ireturn, 1)) (hC : cells ≤ C) (hS : slots ≤ S) (N : Fr n0 locs) (hP : P T.heap) :
    own_Run p e below T (mkF m pc Ls (.int z :: rest)) (own_Ret FrameEnd s below C S (own_Q n0 P (some (.int (nar .boolean z))))) :=
  own_leave X (fun q => by rw [hret] at q; cases q) hlk hC hS N hP fun fs hr => retN X hx (t := .boolean) hret (by simp) hd hr
theorem own_retI (X : Stand p l e R s m args below meth c T locs cells slots) (hx : p.tables.exec = Jvm.exec) (hlk : meth.locks = false) {pc : Nat} {Ls : Array Slot} {z : Int32} {rest : List Value} (hret : meth.sig.returnType = some .int) (hd : decode c.code pc = .ok (.ireturn, 1)) (hC : cells ≤ C) (hS : slots ≤ S) (N : Fr n0 locs) (hP : P T.heap) :
    own_Run p e below T (mkF m pc Ls (.int z :: rest)) (own_Ret FrameEnd s below C S (own_Q n0 P (some (.int z)))) :=
  own_leave X (fun q => by rw [hret] at q; cases q) hlk hC hS N hP fun fs hr => retI X hx hret hd hr
theorem own_retJ (X : Stand p l e R s m args below meth c T locs cells slots) (hx : p.tables.exec = Jvm.exec) (hlk : meth.locks = false) {pc : Nat} {Ls : Array Slot} {z : Int64} (hret : meth.sig.returnType = some .long) (hd : decode c.code pc = .ok (.lreturn, 1)) (hC : cells ≤ C) (hS : slots ≤ S) (N : Fr n0 locs) (hP : P T.heap) :
    own_Run p e below T (mkF m pc Ls [.long z]) (own_Ret FrameEnd s below C S (own_Q n0 P (some (.long z)))) :=
  own_leave X (fun q => by rw [hret] at q; cases q) hlk hC hS N hP fun fs hr => X.lreturnOut hx hret hd hr
theorem own_retD (X : Stand p l e R s m args below meth c T locs cells slots) (hx : p.tables.exec = Jvm.exec) (hlk : meth.locks = false) {pc : Nat} {Ls : Array Slot} {z : UInt64} {rest : List Value} (hret : meth.sig.returnType = some .double) (hd : decode c.code pc = .ok (.dreturn, 1)) (hC : cells ≤ C) (hS : slots ≤ S) (N : Fr n0 locs) (hP : P T.heap) :
    own_Run p e below T (mkF m pc Ls (.double z :: rest)) (own_Ret FrameEnd s below C S (own_Q n0 P (some (.double z)))) :=
  own_leave X (fun q => by rw [hret] at q; cases q) hlk hC hS N hP fun fs hr => retOut X hx (i := .dreturn) hret rfl (Or.inr (Or.inr (Or.inl ⟨rfl, rfl, z, rfl⟩))) hd hr
theorem own_retV (X : Stand p l e R s m args below meth c T locs cells slots) (hx : p.tables.exec = Jvm.exec) (hlk : meth.locks = false) {pc : Nat} {Ls : Array Slot} (hret : meth.sig.returnType = none) (hd : decode c.code pc = .ok (.return_, 1)) (hC : cells ≤ C) (hS : slots ≤ S) (N : Fr n0 locs) (hP : P T.heap) :
    own_Run p e below T (mkF m pc Ls []) (own_Ret FrameEnd s below C S (own_Q n0 P none)) :=
  own_leave X (fun _ => rfl) hlk hC hS N hP fun fs hr => X.returnOut hx hret hd hr
theorem own_retA (X : Stand p l e R s m args below meth c T locs cells slots) (hx : p.tables.exec = Jvm.exec) (hlk : meth.locks = false) {pc : Nat} {Ls : Array Slot} {w : Value} {t : FieldType} (hret : meth.sig.returnType = some t) (ht : t.isReference = true) (hw : w.isRef = true) (hd : decode c.code pc = .ok (.areturn, 1)) (hC : cells ≤ C) (hS : slots ≤ S) (N : Fr n0 locs) (hP : P T.heap) :
    own_Run p e below T (mkF m pc Ls [w]) (own_Ret FrameEnd s below C S (own_Q n0 P (some w))) :=
  own_leave X (fun q => by rw [hret] at q; cases q) hlk hC hS N hP fun fs hr => X.areturnOut hx hw hret ht hd hr
/-! own: the same where the walk may have loaded a String constant (the tables may hold a new pair) -/
theorem own_mixW {U t : State} {o : Outcome} {L : List Loc} {k n k' n' : Nat} (h : ReturnedEndW U o t L k n) (hk : k ≤ k') (hn : n ≤ n') : ReturnedEndW U o t L k' n' := ⟨h.1, h.2.1, h.2.2.1, h.2.2.2.mono hk hn⟩
theorem own_leaveW {vm₁ : Vm} {n : Nat} {w : Option Value} (X : Stand p l e R (s.setVm vm₁) m args below meth c T locs cells slots) (hS : s.Since vm₁ n) (hn : n ≤ T.heap.size) (hv : meth.sig.returnType = none → w = none) (hlk : meth.locks = false) (hC : cells ≤ C) (hSl : slots ≤ S) (N : Fr n0 locs) (hP : P T.heap)
    (st : ∀ fs, (∀ (f : JFrame) (acts : List Action), f.method = m → f.locked = none → f.entered = [] → (doReturn e (T.setTop f) acts w).1 = T.setFrames fs) → Steps p.tables e below (T.setTop g) (T.setFrames fs)) : own_Run p e below T g (own_Ret ReturnedEndW s below C S (own_Q n0 P w)) := by
  obtain ⟨fs, hr, hrun, hended, hW⟩ := X.leaveW hS hn (v := w) hv hlk
  exact ⟨_, st fs hr, hrun, _, hended, _, _, rfl, ⟨rfl, N, hP⟩, own_mixW hW hC hSl⟩
theorem own_retZW {vm₁ : Vm} {n : Nat} (X : Stand p l e R (s.setVm vm₁) m args below meth c T locs cells slots) (hx : p.tables.exec = Jvm.exec) (hlk : meth.locks = false) {pc : Nat} {Ls : Array Slot} {z : Int32} {rest : List Value} (hret : meth.sig.returnType = some .boolean) (hd : decode c.code pc = .ok (.ireturn, 1)) (hC : cells ≤ C) (hSl : slots ≤ S) (N : Fr n0 locs) (hP : P T.heap) (hS : s.Since vm₁ n) (hn : n ≤ T.heap.size) :
    own_Run p e below T (mkF m pc Ls (.int z :: rest)) (own_Ret ReturnedEndW s below C S (own_Q n0 P (some (.int (nar .boolean z))))) :=
  own_leaveW X hS hn (fun q => by rw [hret] at q; cases q) hlk hC hSl N hP fun fs hr => retN X hx (t := .boolean) hret (by simp) hd hr
theorem own_retVW {vm₁ : Vm} {n : Nat} (X : Stand p l e R (s.setVm vm₁) m args below meth c T locs cells slots) (hx : p.tables.exec = Jvm.exec) (hlk : meth.locks = false) {pc : Nat} {Ls : Array Slot} (hret : meth.sig.returnType = none) (hd : decode c.code pc = .ok (.return_, 1)) (hC : cells ≤ C) (hSl : slots ≤ S) (N : Fr n0 locs) (hP : P T.heap) (hS : s.Since vm₁ n) (hn : n ≤ T.heap.size) :
    own_Run p e below T (mkF m pc Ls []) (own_Ret ReturnedEndW s below C S (own_Q n0 P none)) :=
  own_leaveW X hS hn (fun _ => rfl) hlk hC hSl N hP fun fs hr => X.returnOut hx hret hd hr
/-- no static's home -/
def own_Pl (h : Heap) (a : Addr) : Prop := ∃ c : Cell, h[a]? = some c ∧ c.vm.isStatics = false
theorem own_plV {ty : FieldType} (F : Arv Z h a k ty n vs d) : own_Pl h a := by obtain ⟨c, A, -⟩ := F; exact ⟨c, A.1, A.plain⟩
theorem own_plE {Cn : String} (F : Exa Z h a Cn) : own_Pl h a := by obtain ⟨c, kk, h1, -, -, h4, -⟩ := F; exact ⟨c, h1, h4⟩
theorem own_keepS {h' : Heap} {ws : List Addr} {Cn fn dn : String} (F : Sta Z h Cn fn dn v) (K : Keep h h' ws) (A : ∀ a ∈ ws, own_Pl h a) : Sta Z h' Cn fn dn v := by
  obtain ⟨cf, i, kk, f, st, cell, h1, h2, h3, h4, h5, h6, h7⟩ := F
  refine ⟨cf, i, kk, f, st, cell, h1, h2, h3, h4, K.2.1 st cell h5 (fun hm => ?_), h6, h7⟩
  obtain ⟨c, q1, q2⟩ := A st hm
  cases h5.symm.trans q1; rw [q2] at h6; cases h6
/-! own: an array's component, by its Arv -/
theorem own_ldI (X : Stand p l e R s m args below meth c T locs cells slots) (hx : p.tables.exec = Jvm.exec) (hZ : Z.Warmed39 s.vm) (eT : T.heap = h) (F : Arv Z h a k .int n vs d) (q : ¬ j < 0 ∧ j < n) (u : vs.getD j.toNatClampNeg d = v) (hg : g.method = m) {rest : List Value} (hs : g.stack = .int j :: .ref a :: rest) (hd : decode c.code g.pc = .ok (.iaload, 1)) :
    ∀ t, Steps p.tables e below (T.setTop { g with pc := g.pc + 1, stack := v :: rest }) t → Steps p.tables e below (T.setTop g) t := by
  obtain ⟨cl, Ar, -, Sz, -, Hs, -⟩ := F
  exact fun t kt => X.iaload hx (by rw [eT]; exact Ar.1) (State.isArrayOf_alike hZ.alike Ar.2.1) Ar.2.2 (inb_of Sz q) (Hs.at (inb_of Sz q) u) hg hs hd t kt
theorem own_ldJ (X : Stand p l e R s m args below meth c T locs cells slots) (hx : p.tables.exec = Jvm.exec) (hZ : Z.Warmed39 s.vm) (eT : T.heap = h) (F : Arv Z h a k .long n vs d) (q : ¬ j < 0 ∧ j < n) (u : vs.getD j.toNatClampNeg d = v) (hg : g.method = m) {rest : List Value} (hs : g.stack = .int j :: .ref a :: rest) (hd : decode c.code g.pc = .ok (.laload, 1)) :
    ∀ t, Steps p.tables e below (T.setTop { g with pc := g.pc + 1, stack := v :: rest }) t → Steps p.tables e below (T.setTop g) t := by
  obtain ⟨cl, Ar, -, Sz, -, Hs, -⟩ := F
  exact fun t kt => X.laload hx (by rw [eT]; exact Ar.1) (State.isArrayOf_alike hZ.alike Ar.2.1) Ar.2.2 (inb_of Sz q) (Hs.at (inb_of Sz q) u) hg hs hd t kt
theorem own_ldB (X : Stand p l e R s m args below meth c T locs cells slots) (hx : p.tables.exec = Jvm.exec) (hZ : Z.Warmed39 s.vm) (eT : T.heap = h) (F : Arv Z h a k .byte n vs d) (q : ¬ j < 0 ∧ j < n) (u : vs.getD j.toNatClampNeg d = v) (hg : g.method = m) {rest : List Value} (hs : g.stack = .int j :: .ref a :: rest) (hd : decode c.code g.pc = .ok (.baload, 1)) :
    ∀ t, Steps p.tables e below (T.setTop { g with pc := g.pc + 1, stack := v :: rest }) t → Steps p.tables e below (T.setTop g) t := by
  obtain ⟨cl, Ar, -, Sz, -, Hs, -⟩ := F
  exact fun t kt => X.baloadBytes hx (by rw [eT]; exact Ar.1) (State.isArrayOf_alike hZ.alike Ar.2.1) Ar.2.2 (inb_of Sz q) (Hs.at (inb_of Sz q) u) hg hs hd t kt
theorem own_len (X : Stand p l e R s m args below meth c T locs cells slots) (hx : p.tables.exec = Jvm.exec) (hZ : Z.Warmed39 s.vm) (eT : T.heap = h) {ty : FieldType} (F : Arv Z h a k ty n vs d) (hg : g.method = m) {rest : List Value} (hs : g.stack = .ref a :: rest) (hd : decode c.code g.pc = .ok (.arraylength, 1)) :
    ∀ t, Steps p.tables e below (T.setTop { g with pc := g.pc + 1, stack := .int n :: rest }) t → Steps p.tables e below (T.setTop g) t := by
  obtain ⟨cl, Ar, -, Sz, Ng, -, -⟩ := F
  intro t kt
  refine X.arraylength hx (by rw [eT]; exact Ar.1) (State.isArrayOf_alike hZ.alike Ar.2.1) hg hs hd t ?_
  rw [len_of Sz Ng]; exact kt
theorem own_stI (X : Stand p l e R s m args below meth c T locs cells slots) (hx : p.tables.exec = Jvm.exec) (hZ : Z.Warmed39 s.vm) (eT : T.heap = h) (F : Arv Z h a k .int n vs d) (N : Fr n0 locs) (ge : n0 ≤ a) {x : Int32} (q : ¬ j < 0 ∧ j < n) (i : Nat) (hi : j.toNatClampNeg = i) (hl : i < vs.length) (hg : g.method = m) {rest : List Value} (hs : g.stack = .int x :: .int j :: .ref a :: rest) (hd : decode c.code g.pc = .ok (.iastore, 1)) :
    ∃ T' h' L, Stand p l e R s m args below meth c T' L cells slots ∧ T'.heap = h' ∧ Fr n0 L ∧ Wr h h' a j.toNatClampNeg (.int x) ∧ Arv Z h' a k .int n (vs.set i (.int x)) d ∧ ∀ t, Steps p.tables e below (T'.setTop { g with pc := g.pc + 1, stack := rest }) t → Steps p.tables e below (T.setTop g) t := by
  obtain ⟨cl, Ar, q1, Sz, Ng, Hs, Gs⟩ := F
  obtain ⟨T', h', X', e', W, st⟩ := stI X hx hZ eT Ar (j := j) (x := x) (inb_of Sz q) hg hs hd
  exact ⟨T', h', _, X', e', Fr.snoc X' N ge, W, Arv.set Ar q1 Sz Ng Hs Gs rfl W i hi hl, st⟩
theorem own_stJ (X : Stand p l e R s m args below meth c T locs cells slots) (hx : p.tables.exec = Jvm.exec) (hZ : Z.Warmed39 s.vm) (eT : T.heap = h) (F : Arv Z h a k .long n vs d) (N : Fr n0 locs) (ge : n0 ≤ a) {x : Int64} (q : ¬ j < 0 ∧ j < n) (i : Nat) (hi : j.toNatClampNeg = i) (hl : i < vs.length) (hg : g.method = m) {rest : List Value} (hs : g.stack = .long x :: .int j :: .ref a :: rest) (hd : decode c.code g.pc = .ok (.lastore, 1)) :
    ∃ T' h' L, Stand p l e R s m args below meth c T' L cells slots ∧ T'.heap = h' ∧ Fr n0 L ∧ Wr h h' a j.toNatClampNeg (.long x) ∧ Arv Z h' a k .long n (vs.set i (.long x)) d ∧ ∀ t, Steps p.tables e below (T'.setTop { g with pc := g.pc + 1, stack := rest }) t → Steps p.tables e below (T.setTop g) t := by
  obtain ⟨cl, Ar, q1, Sz, Ng, Hs, Gs⟩ := F
  obtain ⟨T', h', X', e', W, st⟩ := stJ X hx hZ eT Ar (j := j) (x := x) (inb_of Sz q) hg hs hd
  exact ⟨T', h', _, X', e', Fr.snoc X' N ge, W, Arv.set Ar q1 Sz Ng Hs Gs rfl W i hi hl, st⟩
theorem own_stB (X : Stand p l e R s m args below meth c T locs cells slots) (hx : p.tables.exec = Jvm.exec) (hZ : Z.Warmed39 s.vm) (eT : T.heap = h) (F : Arv Z h a k .byte n vs d) (N : Fr n0 locs) (ge : n0 ≤ a) {x : Int32} (q : ¬ j < 0 ∧ j < n) (i : Nat) (hi : j.toNatClampNeg = i) (hl : i < vs.length) (hg : g.method = m) {rest : List Value} (hs : g.stack = .int x :: .int j :: .ref a :: rest) (hd : decode c.code g.pc = .ok (.bastore, 1)) :
    ∃ T' h' L, Stand p l e R s m args below meth c T' L cells slots ∧ T'.heap = h' ∧ Fr n0 L ∧ Wr h h' a j.toNatClampNeg (.int (nar .byte x)) ∧ Arv Z h' a k .byte n (vs.set i (.int (nar .byte x))) d ∧ ∀ t, Steps p.tables e below (T'.setTop { g with pc := g.pc + 1, stack := rest }) t → Steps p.tables e below (T.setTop g) t := by
  obtain ⟨cl, Ar, q1, Sz, Ng, Hs, Gs⟩ := F
  obtain ⟨T', h', X', e', W, st⟩ := stB X hx hZ eT Ar (j := j) (x := x) (inb_of Sz q) hg hs hd
  exact ⟨T', h', _, X', e', Fr.snoc X' N ge, W, Arv.set Ar q1 Sz Ng Hs Gs (fits_nar_byte _) W i hi hl, st⟩
theorem own_ldR {Cn : String} (X : Stand p l e R s m args below meth c T locs cells slots) (hx : p.tables.exec = Jvm.exec) (hZ : Z.Warmed39 s.vm) (eT : T.heap = h) (F : Arv Z h a k (.object Cn) n vs d) (q : ¬ j < 0 ∧ j < n) (u : vs.getD j.toNatClampNeg d = v) (hg : g.method = m) {rest : List Value} (hs : g.stack = .int j :: .ref a :: rest) (hd : decode c.code g.pc = .ok (.aaload, 1)) :
    ∀ t, Steps p.tables e below (T.setTop { g with pc := g.pc + 1, stack := v :: rest }) t → Steps p.tables e below (T.setTop g) t := by
  obtain ⟨cl, Ar, -, Sz, -, Hs, -⟩ := F
  exact fun t kt => X.aaload hx (by rw [eT]; exact Ar.1) (State.isArrayOf_alike hZ.alike Ar.2.1) rfl Ar.2.2 (inb_of Sz q) (Hs.at (inb_of Sz q) u) hg hs hd t kt
theorem own_stR {Cn : String} {y : Addr} (X : Stand p l e R s m args below meth c T locs cells slots) (hx : p.tables.exec = Jvm.exec) (hZ : Z.Warmed39 s.vm) (eT : T.heap = h) (F : Arv Z h a k (.object Cn) n vs d) (O : Ovr Z k Cn) (I : Ins Z h y Cn true) (N : Fr n0 locs) (ge : n0 ≤ a) (q : ¬ j < 0 ∧ j < n) (i : Nat) (hi : j.toNatClampNeg = i) (hl : i < vs.length) (hg : g.method = m) {rest : List Value} (hs : g.stack = .ref y :: .int j :: .ref a :: rest) (hd : decode c.code g.pc = .ok (.aastore, 1)) :
    ∃ T' h' L, Stand p l e R s m args below meth c T' L cells slots ∧ T'.heap = h' ∧ Fr n0 L ∧ Wr h h' a j.toNatClampNeg (.ref y) ∧ Arv Z h' a k (.object Cn) n (vs.set i (.ref y)) d ∧ ∀ t, Steps p.tables e below (T'.setTop { g with pc := g.pc + 1, stack := rest }) t → Steps p.tables e below (T.setTop g) t := by
  obtain ⟨cl, Ar, q1, Sz, Ng, Hs, Gs⟩ := F
  obtain ⟨T', h', X', e', W, st⟩ := stR X hx hZ eT Ar (j := j) (v := .ref y) (inb_of Sz q) rfl (Sto.ofV Ar q1 O I) hg hs hd
  exact ⟨T', h', _, X', e', Fr.snoc X' N ge, W, Arv.set Ar q1 Sz Ng Hs Gs rfl W i hi hl, st⟩
end OwnRun
theorem own_lenJ {args : Array Value} {s : State} {t : Term} {x : Addr} {cl : Cell} {n : Int32} (ev : t.eval args s none [] s = some (.ref x)) (A : Arr s s.heap x cl .long) (h : (Cond.eq (Term.length t) (Term.int n)).value args s none s [] = some true) : cl.slots.size < 2 ^ 31 ∧ cl.slots.size.toInt32 = n := by
  obtain ⟨a, b, ha, hb, k1, k2⟩ := cmp_v (Or.inl h)
  have hb' : (.int n : Value) = b := by simpa [Term.eval] using hb
  subst hb'
  have hA := A.fin (Vm.Alike.refl _)
  have hl : cl.slots.size < 2 ^ 31 := by
    by_cases q : cl.slots.size < 2 ^ 31
    · exact q
    · simp [Term.eval, ev, hA, q] at ha
  have e1 := len_f ev hA hl
  rw [ha] at e1
  cases e1
  have := eq_i (args := args) (first := s) (o := none) (s := s) (idx := []) (a := Term.length t) (b := Term.int n) ha hb
  refine ⟨hl, ?_⟩
  have q : (Cond.eq (Term.length t) (Term.int n)).value args s none s [] = some (decide (cl.slots.size.toInt32 = n)) := by simp [Cond.value, ha, hb]
  exact gotT q h
theorem own_elemJ {args : Array Value} {s : State} {t : Term} {x : Addr} {cl : Cell} {j : Int32} {v : Int64} (ev : t.eval args s none [] s = some (.ref x)) (A : Arr s s.heap x cl .long) (h : (Cond.eq (Term.elem t (Term.int j)) (Term.long v)).value args s none s [] = some true) : cl.slots[j.toNatClampNeg]? = some (.long v) := by
  obtain ⟨a, b, ha, hb, k1, k2⟩ := cmp_v (Or.inl h)
  have hb' : (.long v : Value) = b := by simpa [Term.eval] using hb
  subst hb'
  obtain ⟨z, rfl⟩ : ∃ z, a = .long z := k2
  have := gotT (eq_L ha hb) h; subst this
  exact (elem_in ha ev (by simp [Term.eval]) A.1).2

theorem own_pn0 : plainName "com/example/rxrelay/rxrelay/protocol/gm/Sm2FieldSubtractPinLaw" = true := by first | (simp [plainName, overriddenIn]; done) | decide +kernel
theorem own_d2_0 : decode method_4_code 0 = .ok (.iload_n 0, 1) := by decide +kernel
theorem own_d2_1 : decode method_4_code 1 = .ok (.ifCond .ne 5, 3) := by decide +kernel
theorem own_d2_4 : decode method_4_code 4 = .ok (.lload_n 1, 1) := by decide +kernel
theorem own_d2_5 : decode method_4_code 5 = .ok (.lreturn, 1) := by decide +kernel
theorem own_d2_6 : decode method_4_code 6 = .ok (.iload_n 0, 1) := by decide +kernel
theorem own_d2_7 : decode method_4_code 7 = .ok (.iconst 1, 1) := by decide +kernel
theorem own_d2_8 : decode method_4_code 8 = .ok (.if_icmp .ne 5, 3) := by decide +kernel
theorem own_d2_11 : decode method_4_code 11 = .ok (.lconst 0, 1) := by decide +kernel
theorem own_d2_12 : decode method_4_code 12 = .ok (.lreturn, 1) := by decide +kernel
theorem own_d2_13 : decode method_4_code 13 = .ok (.iload_n 0, 1) := by decide +kernel
theorem own_d2_14 : decode method_4_code 14 = .ok (.iconst 2, 1) := by decide +kernel
theorem own_d2_15 : decode method_4_code 15 = .ok (.if_icmp .ne 5, 3) := by decide +kernel
theorem own_d2_18 : decode method_4_code 18 = .ok (.lload_n 3, 1) := by decide +kernel
theorem own_d2_19 : decode method_4_code 19 = .ok (.lreturn, 1) := by decide +kernel
theorem own_d2_20 : decode method_4_code 20 = .ok (.lload 5, 2) := by decide +kernel
theorem own_d2_22 : decode method_4_code 22 = .ok (.lreturn, 1) := by decide +kernel
def own_r2 (p0 : Int32) (q1 : Int64) (q2 : Int64) (q3 : Int64) : Int64 := (if p0 = (0 : Int32) then q1 else (if p0 = (1 : Int32) then (0 : Int64) else (if p0 = (2 : Int32) then q2 else q3)))
theorem own_ef2 (m : MethodId) (p0 : Int32) (q1 : Int64) (q2 : Int64) (q3 : Int64) : entryFrame m #[(.int p0), (.long q1), (.long q2), (.long q3)] 7 = (mkF m 0 #[.val (.int p0), .val (.long q1), .second, .val (.long q2), .second, .val (.long q3), .second] []) := by first | (simp [entryFrame, mkF, argsToLocals, Value.category]; done) | rfl
set_option maxRecDepth 65536 in
set_option maxHeartbeats 40000000 in
theorem rm2 (l : Launch) (Z : State) (av0 : Array Value) (hw : ∀ d ∈ tables_1, d.before av0 Z = true) (ws : List Jvm.Cond) (p0 : Int32) (q1 : Int64) (q2 : Int64) (q3 : Int64) (h0 : Heap) (n0 : Nat) (Z0 : n0 ≤ h0.size) :
    MetFree l (⟨"com/example/rxrelay/rxrelay/protocol/gm/Sm2FieldSubtractPinLaw", "pick", "(IJJJ)J"⟩ : MethodName) (head1 (Jvm.Cond.code (⟨"com/example/rxrelay/rxrelay/protocol/gm/Sm2FieldSubtractPinLaw", "pick", "(IJJJ)J"⟩ : MethodName) method_4_code 7 (some .long) :: ws) ({ frames := 0, cells := 0, slots := 0, locals := 0 } : Room)) (fun a U => a = #[(.int p0), (.long q1), (.long q2), (.long q3)] ∧ Z.Warmed39 U.vm ∧ U.heap = h0) (fun _ _ _ _ _ => True) (fun _ U o U' => ∃ v L, o = .returned v ∧ own_Q n0 (fun h => h = h0) (some (.long (own_r2 p0 q1 q2 q3))) v U'.heap L ∧ FrameEnd U o U' L ({ frames := 0, cells := 0, slots := 0, locals := 0 } : Room).cells ({ frames := 0, cells := 0, slots := 0, locals := 0 } : Room).slots) := by
  refine MetFree.of_bodySF (plainFor_of_name own_pn0) hisR ?_
  intro p e s m args below meth c s₁ Bd hml0 hP hK
  obtain ⟨rfl, hZ, hh⟩ := hP
  have hx := Bd.exec
  have hby := Bd.bytes
  have hml : c.maxLocals = 7 := hml0
  have hown : s.vm.findClass "com/example/rxrelay/rxrelay/protocol/gm/Sm2FieldSubtractPinLaw" = some m.cls := findClass_of_methodNamed Bd.named
  have hnm := (name_of_methodNamed Bd.named Bd.method).1
  have hret := Bd.returns
  have hlk : meth.locks = false := BodyLoose.notSynchronized Bd
  have X0 : Stand p l e ({ frames := 0, cells := 0, slots := 0, locals := 0 } : Room) s m #[(.int p0), (.long q1), (.long q2), (.long q3)] below meth c s₁ [] 0 0 := Stand.of_body Bd
  have e0 : s₁.heap = h0 := by rw [← hh, Bd.state]; rfl
  have N0 := Fr.nil n0
  clear Bd hh hK
  refine own_fin ?_
  refine own_entry (own_ef2 m p0 q1 q2 q3) ?_
  show own_Run p e below s₁ _ (own_Ret _ s below _ _ (own_Q n0 _ (some (.long (if p0 = (0 : Int32) then q1 else (if p0 = (1 : Int32) then (0 : Int64) else (if p0 = (2 : Int32) then q2 else q3)))))))
  show own_Run p e below s₁ (mkF m 0 #[.val (.int p0), .val (.long q1), .second, .val (.long q2), .second, .val (.long q3), .second] []) _
  refine own_step (fun t k => XS.iloadN X0.here hx rfl (hb hby own_d2_0) rfl  k) ?_
  show own_Run p e below s₁ (mkF m 1 #[.val (.int p0), .val (.long q1), .second, .val (.long q2), .second, .val (.long q3), .second] [(.int p0)]) _
  by_cases hc4 : p0 = (0 : Int32)
  · refine own_vj (if_pos hc4) ?_
    refine own_step (fun t k => XS.ifNo X0.here hx rfl (hb hby own_d2_1) rfl ((if0 _ _).trans (teq hc4).2) k) ?_
    show own_Run p e below s₁ (mkF m 4 #[.val (.int p0), .val (.long q1), .second, .val (.long q2), .second, .val (.long q3), .second] []) _
    refine own_step (fun t k => XS.lloadN X0.here hx rfl (hb hby own_d2_4) rfl  k) ?_
    show own_Run p e below s₁ (mkF m 5 #[.val (.int p0), .val (.long q1), .second, .val (.long q2), .second, .val (.long q3), .second] [(.long q1)]) _
    exact own_retJ X0 hx hlk hret (hb hby own_d2_5) (by decide) (by decide) N0 e0
  · refine own_vj (if_neg hc4) ?_
    refine own_step (fun t k => XS.ifYes X0.here hx rfl (pc0 := 1) (pc' := 6) rfl (hb hby own_d2_1) rfl ((if0 _ _).trans (feq hc4).2) (by decide) (by decide) k) ?_
    show own_Run p e below s₁ (mkF m 6 #[.val (.int p0), .val (.long q1), .second, .val (.long q2), .second, .val (.long q3), .second] []) _
    refine own_step (fun t k => XS.iloadN X0.here hx rfl (hb hby own_d2_6) rfl  k) ?_
    show own_Run p e below s₁ (mkF m 7 #[.val (.int p0), .val (.long q1), .second, .val (.long q2), .second, .val (.long q3), .second] [(.int p0)]) _
    refine own_step (fun t k => XS.iconst X0.here hx rfl (hb hby own_d2_7) k) ?_
    show own_Run p e below s₁ (mkF m 8 #[.val (.int p0), .val (.long q1), .second, .val (.long q2), .second, .val (.long q3), .second] [(.int (1 : Int32)), (.int p0)]) _
    by_cases hc5 : p0 = (1 : Int32)
    · refine own_vj (if_pos hc5) ?_
      refine own_step (fun t k => XS.icmpNo X0.here hx rfl (hb hby own_d2_8) rfl (teq hc5).2 k) ?_
      show own_Run p e below s₁ (mkF m 11 #[.val (.int p0), .val (.long q1), .second, .val (.long q2), .second, .val (.long q3), .second] []) _
      refine own_step (fun t k => XS.lconst X0.here hx rfl (hb hby own_d2_11) k) ?_
      show own_Run p e below s₁ (mkF m 12 #[.val (.int p0), .val (.long q1), .second, .val (.long q2), .second, .val (.long q3), .second] [(.long (0 : Int64))]) _
      exact own_retJ X0 hx hlk hret (hb hby own_d2_12) (by decide) (by decide) N0 e0
    · refine own_vj (if_neg hc5) ?_
      refine own_step (fun t k => XS.icmpYes X0.here hx rfl (pc0 := 8) (pc' := 13) rfl (hb hby own_d2_8) rfl (feq hc5).2 (by decide) (by decide) k) ?_
      show own_Run p e below s₁ (mkF m 13 #[.val (.int p0), .val (.long q1), .second, .val (.long q2), .second, .val (.long q3), .second] []) _
      refine own_step (fun t k => XS.iloadN X0.here hx rfl (hb hby own_d2_13) rfl  k) ?_
      show own_Run p e below s₁ (mkF m 14 #[.val (.int p0), .val (.long q1), .second, .val (.long q2), .second, .val (.long q3), .second] [(.int p0)]) _
      refine own_step (fun t k => XS.iconst X0.here hx rfl (hb hby own_d2_14) k) ?_
      show own_Run p e below s₁ (mkF m 15 #[.val (.int p0), .val (.long q1), .second, .val (.long q2), .second, .val (.long q3), .second] [(.int (2 : Int32)), (.int p0)]) _
      by_cases hc6 : p0 = (2 : Int32)
      · refine own_vj (if_pos hc6) ?_
        refine own_step (fun t k => XS.icmpNo X0.here hx rfl (hb hby own_d2_15) rfl (teq hc6).2 k) ?_
        show own_Run p e below s₁ (mkF m 18 #[.val (.int p0), .val (.long q1), .second, .val (.long q2), .second, .val (.long q3), .second] []) _
        refine own_step (fun t k => XS.lloadN X0.here hx rfl (hb hby own_d2_18) rfl  k) ?_
        show own_Run p e below s₁ (mkF m 19 #[.val (.int p0), .val (.long q1), .second, .val (.long q2), .second, .val (.long q3), .second] [(.long q2)]) _
        exact own_retJ X0 hx hlk hret (hb hby own_d2_19) (by decide) (by decide) N0 e0
      · refine own_vj (if_neg hc6) ?_
        refine own_step (fun t k => XS.icmpYes X0.here hx rfl (pc0 := 15) (pc' := 20) rfl (hb hby own_d2_15) rfl (feq hc6).2 (by decide) (by decide) k) ?_
        show own_Run p e below s₁ (mkF m 20 #[.val (.int p0), .val (.long q1), .second, .val (.long q2), .second, .val (.long q3), .second] []) _
        refine own_step (fun t k => XS.lload X0.here hx rfl (hb hby own_d2_20) rfl  k) ?_
        show own_Run p e below s₁ (mkF m 22 #[.val (.int p0), .val (.long q1), .second, .val (.long q2), .second, .val (.long q3), .second] [(.long q3)]) _
        exact own_retJ X0 hx hlk hret (hb hby own_d2_22) (by decide) (by decide) N0 e0
theorem own_pd16 : parseMethodDescriptor "(IJJJ)J" = some ⟨[.int, .long, .long, .long], some .long⟩ := by decide +kernel
theorem own_d1_0 : decode method_3_code 0 = .ok (.ldc2_w 28, 3) := by decide +kernel
theorem own_d1_3 : decode method_3_code 3 = .ok (.lstore 6, 2) := by decide +kernel
theorem own_d1_5 : decode method_3_code 5 = .ok (.ldc2_w 30, 3) := by decide +kernel
theorem own_d1_8 : decode method_3_code 8 = .ok (.lstore 8, 2) := by decide +kernel
theorem own_d1_10 : decode method_3_code 10 = .ok (.lload 4, 2) := by decide +kernel
theorem own_d1_12 : decode method_3_code 12 = .ok (.bipush 54, 2) := by decide +kernel
theorem own_d1_14 : decode method_3_code 14 = .ok (.lushr, 1) := by decide +kernel
theorem own_d1_15 : decode method_3_code 15 = .ok (.l2i, 1) := by decide +kernel
theorem own_d1_16 : decode method_3_code 16 = .ok (.istore 10, 2) := by decide +kernel
theorem own_d1_18 : decode method_3_code 18 = .ok (.iconst 5, 1) := by decide +kernel
theorem own_d1_19 : decode method_3_code 19 = .ok (.newarray .long, 2) := by decide +kernel
theorem own_d1_21 : decode method_3_code 21 = .ok (.astore 11, 2) := by decide +kernel
theorem own_d1_23 : decode method_3_code 23 = .ok (.aload 11, 2) := by decide +kernel
theorem own_d1_25 : decode method_3_code 25 = .ok (.iconst 0, 1) := by decide +kernel
theorem own_d1_26 : decode method_3_code 26 = .ok (.iload 10, 2) := by decide +kernel
theorem own_d1_28 : decode method_3_code 28 = .ok (.iconst 3, 1) := by decide +kernel
theorem own_d1_29 : decode method_3_code 29 = .ok (.iand, 1) := by decide +kernel
theorem own_d1_30 : decode method_3_code 30 = .ok (.lload_n 0, 1) := by decide +kernel
theorem own_d1_31 : decode method_3_code 31 = .ok (.lload 6, 2) := by decide +kernel
theorem own_d1_33 : decode method_3_code 33 = .ok (.land, 1) := by decide +kernel
theorem own_d1_34 : decode method_3_code 34 = .ok (.lload 6, 2) := by decide +kernel
theorem own_d1_36 : decode method_3_code 36 = .ok (.ldc2_w 32, 3) := by decide +kernel
theorem own_d1_39 : decode method_3_code 39 = .ok (.invokestatic 34, 3) := by decide +kernel
theorem own_d1_42 : decode method_3_code 42 = .ok (.lastore, 1) := by decide +kernel
theorem own_d1_43 : decode method_3_code 43 = .ok (.aload 11, 2) := by decide +kernel
theorem own_d1_45 : decode method_3_code 45 = .ok (.iconst 1, 1) := by decide +kernel
theorem own_d1_46 : decode method_3_code 46 = .ok (.iload 10, 2) := by decide +kernel
theorem own_d1_48 : decode method_3_code 48 = .ok (.iconst 2, 1) := by decide +kernel
theorem own_d1_49 : decode method_3_code 49 = .ok (.iushr, 1) := by decide +kernel
theorem own_d1_50 : decode method_3_code 50 = .ok (.iconst 3, 1) := by decide +kernel
theorem own_d1_51 : decode method_3_code 51 = .ok (.iand, 1) := by decide +kernel
theorem own_d1_52 : decode method_3_code 52 = .ok (.lload_n 2, 1) := by decide +kernel
theorem own_d1_53 : decode method_3_code 53 = .ok (.lload 6, 2) := by decide +kernel
theorem own_d1_55 : decode method_3_code 55 = .ok (.land, 1) := by decide +kernel
theorem own_d1_56 : decode method_3_code 56 = .ok (.lload 6, 2) := by decide +kernel
theorem own_d1_58 : decode method_3_code 58 = .ok (.ldc2_w 38, 3) := by decide +kernel
theorem own_d1_61 : decode method_3_code 61 = .ok (.invokestatic 34, 3) := by decide +kernel
theorem own_d1_64 : decode method_3_code 64 = .ok (.lastore, 1) := by decide +kernel
theorem own_d1_65 : decode method_3_code 65 = .ok (.aload 11, 2) := by decide +kernel
theorem own_d1_67 : decode method_3_code 67 = .ok (.iconst 2, 1) := by decide +kernel
theorem own_d1_68 : decode method_3_code 68 = .ok (.iload 10, 2) := by decide +kernel
theorem own_d1_70 : decode method_3_code 70 = .ok (.iconst 4, 1) := by decide +kernel
theorem own_d1_71 : decode method_3_code 71 = .ok (.iushr, 1) := by decide +kernel
theorem own_d1_72 : decode method_3_code 72 = .ok (.iconst 3, 1) := by decide +kernel
theorem own_d1_73 : decode method_3_code 73 = .ok (.iand, 1) := by decide +kernel
theorem own_d1_74 : decode method_3_code 74 = .ok (.lload 4, 2) := by decide +kernel
theorem own_d1_76 : decode method_3_code 76 = .ok (.lload 6, 2) := by decide +kernel
theorem own_d1_78 : decode method_3_code 78 = .ok (.land, 1) := by decide +kernel
theorem own_d1_79 : decode method_3_code 79 = .ok (.lload 6, 2) := by decide +kernel
theorem own_d1_81 : decode method_3_code 81 = .ok (.ldc2_w 28, 3) := by decide +kernel
theorem own_d1_84 : decode method_3_code 84 = .ok (.invokestatic 34, 3) := by decide +kernel
theorem own_d1_87 : decode method_3_code 87 = .ok (.lastore, 1) := by decide +kernel
theorem own_d1_88 : decode method_3_code 88 = .ok (.aload 11, 2) := by decide +kernel
theorem own_d1_90 : decode method_3_code 90 = .ok (.iconst 3, 1) := by decide +kernel
theorem own_d1_91 : decode method_3_code 91 = .ok (.iload 10, 2) := by decide +kernel
theorem own_d1_93 : decode method_3_code 93 = .ok (.bipush 6, 2) := by decide +kernel
theorem own_d1_95 : decode method_3_code 95 = .ok (.iushr, 1) := by decide +kernel
theorem own_d1_96 : decode method_3_code 96 = .ok (.iconst 3, 1) := by decide +kernel
theorem own_d1_97 : decode method_3_code 97 = .ok (.iand, 1) := by decide +kernel
theorem own_d1_98 : decode method_3_code 98 = .ok (.lload_n 0, 1) := by decide +kernel
theorem own_d1_99 : decode method_3_code 99 = .ok (.bipush 12, 2) := by decide +kernel
theorem own_d1_101 : decode method_3_code 101 = .ok (.lushr, 1) := by decide +kernel
theorem own_d1_102 : decode method_3_code 102 = .ok (.lload_n 2, 1) := by decide +kernel
theorem own_d1_103 : decode method_3_code 103 = .ok (.bipush 12, 2) := by decide +kernel
theorem own_d1_105 : decode method_3_code 105 = .ok (.lshl, 1) := by decide +kernel
theorem own_d1_106 : decode method_3_code 106 = .ok (.lxor, 1) := by decide +kernel
theorem own_d1_107 : decode method_3_code 107 = .ok (.lload 6, 2) := by decide +kernel
theorem own_d1_109 : decode method_3_code 109 = .ok (.land, 1) := by decide +kernel
theorem own_d1_110 : decode method_3_code 110 = .ok (.lload 6, 2) := by decide +kernel
theorem own_d1_112 : decode method_3_code 112 = .ok (.ldc2_w 28, 3) := by decide +kernel
theorem own_d1_115 : decode method_3_code 115 = .ok (.invokestatic 34, 3) := by decide +kernel
theorem own_d1_118 : decode method_3_code 118 = .ok (.lastore, 1) := by decide +kernel
theorem own_d1_119 : decode method_3_code 119 = .ok (.aload 11, 2) := by decide +kernel
theorem own_d1_121 : decode method_3_code 121 = .ok (.iconst 4, 1) := by decide +kernel
theorem own_d1_122 : decode method_3_code 122 = .ok (.iload 10, 2) := by decide +kernel
theorem own_d1_124 : decode method_3_code 124 = .ok (.bipush 8, 2) := by decide +kernel
theorem own_d1_126 : decode method_3_code 126 = .ok (.iushr, 1) := by decide +kernel
theorem own_d1_127 : decode method_3_code 127 = .ok (.iconst 3, 1) := by decide +kernel
theorem own_d1_128 : decode method_3_code 128 = .ok (.iand, 1) := by decide +kernel
theorem own_d1_129 : decode method_3_code 129 = .ok (.lload_n 2, 1) := by decide +kernel
theorem own_d1_130 : decode method_3_code 130 = .ok (.bipush 12, 2) := by decide +kernel
theorem own_d1_132 : decode method_3_code 132 = .ok (.lushr, 1) := by decide +kernel
theorem own_d1_133 : decode method_3_code 133 = .ok (.lload 4, 2) := by decide +kernel
theorem own_d1_135 : decode method_3_code 135 = .ok (.bipush 12, 2) := by decide +kernel
theorem own_d1_137 : decode method_3_code 137 = .ok (.lshl, 1) := by decide +kernel
theorem own_d1_138 : decode method_3_code 138 = .ok (.lxor, 1) := by decide +kernel
theorem own_d1_139 : decode method_3_code 139 = .ok (.lload 8, 2) := by decide +kernel
theorem own_d1_141 : decode method_3_code 141 = .ok (.land, 1) := by decide +kernel
theorem own_d1_142 : decode method_3_code 142 = .ok (.ldc2_w 40, 3) := by decide +kernel
theorem own_d1_145 : decode method_3_code 145 = .ok (.ldc2_w 42, 3) := by decide +kernel
theorem own_d1_148 : decode method_3_code 148 = .ok (.invokestatic 34, 3) := by decide +kernel
theorem own_d1_151 : decode method_3_code 151 = .ok (.lastore, 1) := by decide +kernel
theorem own_d1_152 : decode method_3_code 152 = .ok (.aload 11, 2) := by decide +kernel
theorem own_d1_154 : decode method_3_code 154 = .ok (.areturn, 1) := by decide +kernel
def own_f1_16 (q2 : Int64) : Int32 := ((own_ushrL q2 (54 : Int32))).toInt32
def own_f1_42v (q2 : Int64) (q0 : Int64) : Int64 := (own_r2 ((own_f1_16 q2) &&& (3 : Int32)) (q0 &&& (4503599627370495 : Int64)) (4503599627370495 : Int64) (4503599627370494 : Int64))
def own_f1_64v (q2 : Int64) (q1 : Int64) : Int64 := (own_r2 ((own_ushr (own_f1_16 q2) (2 : Int32)) &&& (3 : Int32)) (q1 &&& (4503599627370495 : Int64)) (4503599627370495 : Int64) (4486007441330175 : Int64))
def own_f1_87v (q2 : Int64) : Int64 := (own_r2 ((own_ushr (own_f1_16 q2) (4 : Int32)) &&& (3 : Int32)) (q2 &&& (4503599627370495 : Int64)) (4503599627370495 : Int64) (4503599627370495 : Int64))
def own_f1_118v (q2 : Int64) (q0 : Int64) (q1 : Int64) : Int64 := (own_r2 ((own_ushr (own_f1_16 q2) (6 : Int32)) &&& (3 : Int32)) (((own_ushrL q0 (12 : Int32)) ^^^ (own_shlL q1 (12 : Int32))) &&& (4503599627370495 : Int64)) (4503599627370495 : Int64) (4503599627370495 : Int64))
def own_f1_151v (q2 : Int64) (q1 : Int64) : Int64 := (own_r2 ((own_ushr (own_f1_16 q2) (8 : Int32)) &&& (3 : Int32)) (((own_ushrL q1 (12 : Int32)) ^^^ (own_shlL q2 (12 : Int32))) &&& (281474976710655 : Int64)) (281474976645118 : Int64) (281474976645119 : Int64))
theorem own_ef1 (m : MethodId) (q0 : Int64) (q1 : Int64) (q2 : Int64) : entryFrame m #[(.long q0), (.long q1), (.long q2)] 12 = (mkF m 0 #[.val (.long q0), .second, .val (.long q1), .second, .val (.long q2), .second, .unset, .unset, .unset, .unset, .unset, .unset] []) := by first | (simp [entryFrame, mkF, argsToLocals, Value.category]; done) | rfl
set_option maxRecDepth 65536 in
set_option maxHeartbeats 40000000 in
theorem rm1 (l : Launch) (Z : State) (av0 : Array Value) (hw : ∀ d ∈ tables_1, d.before av0 Z = true) (ws : List Jvm.Cond) (q0 : Int64) (q1 : Int64) (q2 : Int64) (h0 : Heap) (n0 : Nat) (Z0 : n0 ≤ h0.size) :
    MetFree l (⟨"com/example/rxrelay/rxrelay/protocol/gm/Sm2FieldSubtractPinLaw", "build", "(JJJ)[J"⟩ : MethodName) (head1 (Jvm.Cond.code (⟨"com/example/rxrelay/rxrelay/protocol/gm/Sm2FieldSubtractPinLaw", "build", "(JJJ)[J"⟩ : MethodName) method_3_code 12 (some (.array .long)) :: ws) ({ frames := 1, cells := 1, slots := 5, locals := 20 } : Room)) (fun a U => a = #[(.long q0), (.long q1), (.long q2)] ∧ Z.Warmed39 U.vm ∧ U.heap = h0) (fun _ _ _ _ _ => True) (fun _ U o U' => ∃ v L, o = .returned v ∧ own_Q n0 (fun h => Keep h0 h [] ∧ ∃ k : ClassId, Arv Z h h0.size k .long (5 : Int32) [(.long (own_f1_42v q2 q0)), (.long (own_f1_64v q2 q1)), (.long (own_f1_87v q2)), (.long (own_f1_118v q2 q0 q1)), (.long (own_f1_151v q2 q1))] (.long (0 : Int64))) (some (.ref h0.size)) v U'.heap L ∧ FrameEnd U o U' L ({ frames := 1, cells := 1, slots := 5, locals := 20 } : Room).cells ({ frames := 1, cells := 1, slots := 5, locals := 20 } : Room).slots) := by
  refine MetFree.of_bodySF (plainFor_of_name own_pn0) hisR ?_
  intro p e s m args below meth c s₁ Bd hml0 hP hK
  obtain ⟨rfl, hZ, hh⟩ := hP
  have hx := Bd.exec
  have hby := Bd.bytes
  have hml : c.maxLocals = 12 := hml0
  have hown : s.vm.findClass "com/example/rxrelay/rxrelay/protocol/gm/Sm2FieldSubtractPinLaw" = some m.cls := findClass_of_methodNamed Bd.named
  have hnm := (name_of_methodNamed Bd.named Bd.method).1
  have hret := Bd.returns
  have hlk : meth.locks = false := BodyLoose.notSynchronized Bd
  have X0 : Stand p l e ({ frames := 1, cells := 1, slots := 5, locals := 20 } : Room) s m #[(.long q0), (.long q1), (.long q2)] below meth c s₁ [] 0 0 := Stand.of_body Bd
  have e0 : s₁.heap = h0 := by rw [← hh, Bd.state]; rfl
  have N0 := Fr.nil n0
  clear Bd hh hK
  refine own_fin ?_
  refine own_entry (own_ef1 m q0 q1 q2) ?_
  show own_Run p e below s₁ (mkF m 0 #[.val (.long q0), .second, .val (.long q1), .second, .val (.long q2), .second, .unset, .unset, .unset, .unset, .unset, .unset] []) _
  refine own_step (fun t k => X0.ldc2Long hx hown (mvT hZ (hw _ (List.mem_of_getElem? (i := 4) rfl))) (g := (mkF m 0 #[.val (.long q0), .second, .val (.long q1), .second, .val (.long q2), .second, .unset, .unset, .unset, .unset, .unset, .unset] [])) rfl (hb hby own_d1_0) t k) ?_
  show own_Run p e below s₁ (mkF m 3 #[.val (.long q0), .second, .val (.long q1), .second, .val (.long q2), .second, .unset, .unset, .unset, .unset, .unset, .unset] [(.long (4503599627370495 : Int64))]) _
  refine own_step (fun t k => XS.lstore X0.here hx rfl (hb hby own_d1_3) rfl (l' := #[.val (.long q0), .second, .val (.long q1), .second, .val (.long q2), .second, .val (.long (4503599627370495 : Int64)), .second, .unset, .unset, .unset, .unset]) rfl k) ?_
  show own_Run p e below s₁ (mkF m 5 #[.val (.long q0), .second, .val (.long q1), .second, .val (.long q2), .second, .val (.long (4503599627370495 : Int64)), .second, .unset, .unset, .unset, .unset] []) _
  refine own_step (fun t k => X0.ldc2Long hx hown (mvT hZ (hw _ (List.mem_of_getElem? (i := 5) rfl))) (g := (mkF m 5 #[.val (.long q0), .second, .val (.long q1), .second, .val (.long q2), .second, .val (.long (4503599627370495 : Int64)), .second, .unset, .unset, .unset, .unset] [])) rfl (hb hby own_d1_5) t k) ?_
  show own_Run p e below s₁ (mkF m 8 #[.val (.long q0), .second, .val (.long q1), .second, .val (.long q2), .second, .val (.long (4503599627370495 : Int64)), .second, .unset, .unset, .unset, .unset] [(.long (281474976710655 : Int64))]) _
  refine own_step (fun t k => XS.lstore X0.here hx rfl (hb hby own_d1_8) rfl (l' := #[.val (.long q0), .second, .val (.long q1), .second, .val (.long q2), .second, .val (.long (4503599627370495 : Int64)), .second, .val (.long (281474976710655 : Int64)), .second, .unset, .unset]) rfl k) ?_
  show own_Run p e below s₁ (mkF m 10 #[.val (.long q0), .second, .val (.long q1), .second, .val (.long q2), .second, .val (.long (4503599627370495 : Int64)), .second, .val (.long (281474976710655 : Int64)), .second, .unset, .unset] []) _
  refine own_step (fun t k => XS.lload X0.here hx rfl (hb hby own_d1_10) rfl  k) ?_
  refine own_step (fun t k => XS.bipush X0.here hx rfl (hb hby own_d1_12) k) ?_
  refine own_step (fun t k => XS.lushr X0.here hx rfl (hb hby own_d1_14) rfl k) ?_
  show own_Run p e below s₁ (mkF m 15 #[.val (.long q0), .second, .val (.long q1), .second, .val (.long q2), .second, .val (.long (4503599627370495 : Int64)), .second, .val (.long (281474976710655 : Int64)), .second, .unset, .unset] [(.long (own_ushrL q2 (54 : Int32)))]) _
  refine own_step (fun t k => XS.l2i X0.here hx rfl (hb hby own_d1_15) rfl k) ?_
  show own_Run p e below s₁ (mkF m 16 #[.val (.long q0), .second, .val (.long q1), .second, .val (.long q2), .second, .val (.long (4503599627370495 : Int64)), .second, .val (.long (281474976710655 : Int64)), .second, .unset, .unset] [(.int ((own_ushrL q2 (54 : Int32))).toInt32)]) _
  refine own_step (fun t k => XS.istore X0.here hx rfl (hb hby own_d1_16) rfl (l' := #[.val (.long q0), .second, .val (.long q1), .second, .val (.long q2), .second, .val (.long (4503599627370495 : Int64)), .second, .val (.long (281474976710655 : Int64)), .second, .val (.int (own_f1_16 q2)), .unset]) rfl k) ?_
  show own_Run p e below s₁ (mkF m 18 #[.val (.long q0), .second, .val (.long q1), .second, .val (.long q2), .second, .val (.long (4503599627370495 : Int64)), .second, .val (.long (281474976710655 : Int64)), .second, .val (.int (own_f1_16 q2)), .unset] []) _
  refine own_step (fun t k => XS.iconst X0.here hx rfl (hb hby own_d1_18) k) ?_
  obtain ⟨T12, h12, k12, X12, e12, E12, A12, st12⟩ := newP X0 hx hZ (hw _ (List.mem_of_getElem? (i := 6) rfl)) e0 (g := (mkF m 19 #[.val (.long q0), .second, .val (.long q1), .second, .val (.long q2), .second, .val (.long (4503599627370495 : Int64)), .second, .val (.long (281474976710655 : Int64)), .second, .val (.int (own_f1_16 q2)), .unset] [(.int (5 : Int32))])) rfl (hb hby own_d1_19) rfl (by decide) (cap := 5) (by decide) (by decide) (by decide) (by decide)
  obtain ⟨b12, g12⟩ : ∃ z, z = h0.size := ⟨_, rfl⟩
  rw [← g12] at A12 st12
  have geb12 : n0 ≤ b12 := Nat.le_trans Z0 (Nat.le_of_eq g12.symm)
  have Zn12 : n0 ≤ h12.size := Nat.le_trans Z0 E12.1
  have V12 : Arv Z h12 b12 k12 .long (5 : Int32) [(.long (0 : Int64)), (.long (0 : Int64)), (.long (0 : Int64)), (.long (0 : Int64)), (.long (0 : Int64))] (.long (0 : Int64)) := (Arv.new A12 (by decide)).pad (pad_rep [] (.long (0 : Int64)) 5)
  have szb12 : h0.size ≤ b12 := Nat.le_trans (Keep.refl h0 []).1 (Nat.le_of_eq g12.symm)
  have K12 : Keep h0 h12 [] := (Keep.refl h0 []).ext E12
  refine own_step st12 ?_
  show own_Run p e below T12 (mkF m 21 #[.val (.long q0), .second, .val (.long q1), .second, .val (.long q2), .second, .val (.long (4503599627370495 : Int64)), .second, .val (.long (281474976710655 : Int64)), .second, .val (.int (own_f1_16 q2)), .unset] [(.ref b12)]) _
  refine own_step (fun t k => XS.astore X12.here hx rfl (hb hby own_d1_21) rfl rfl (l' := #[.val (.long q0), .second, .val (.long q1), .second, .val (.long q2), .second, .val (.long (4503599627370495 : Int64)), .second, .val (.long (281474976710655 : Int64)), .second, .val (.int (own_f1_16 q2)), .val (.ref b12)]) rfl k) ?_
  show own_Run p e below T12 (mkF m 23 #[.val (.long q0), .second, .val (.long q1), .second, .val (.long q2), .second, .val (.long (4503599627370495 : Int64)), .second, .val (.long (281474976710655 : Int64)), .second, .val (.int (own_f1_16 q2)), .val (.ref b12)] []) _
  refine own_step (fun t k => XS.aload X12.here hx rfl (hb hby own_d1_23) rfl rfl k) ?_
  refine own_step (fun t k => XS.iconst X12.here hx rfl (hb hby own_d1_25) k) ?_
  refine own_step (fun t k => XS.iload X12.here hx rfl (hb hby own_d1_26) rfl  k) ?_
  show own_Run p e below T12 (mkF m 28 #[.val (.long q0), .second, .val (.long q1), .second, .val (.long q2), .second, .val (.long (4503599627370495 : Int64)), .second, .val (.long (281474976710655 : Int64)), .second, .val (.int (own_f1_16 q2)), .val (.ref b12)] [(.int (own_f1_16 q2)), (.int (0 : Int32)), (.ref b12)]) _
  refine own_step (fun t k => XS.iconst X12.here hx rfl (hb hby own_d1_28) k) ?_
  refine own_step (fun t k => XS.iand X12.here hx rfl (hb hby own_d1_29) rfl k) ?_
  show own_Run p e below T12 (mkF m 30 #[.val (.long q0), .second, .val (.long q1), .second, .val (.long q2), .second, .val (.long (4503599627370495 : Int64)), .second, .val (.long (281474976710655 : Int64)), .second, .val (.int (own_f1_16 q2)), .val (.ref b12)] [(.int ((own_f1_16 q2) &&& (3 : Int32))), (.int (0 : Int32)), (.ref b12)]) _
  refine own_step (fun t k => XS.lloadN X12.here hx rfl (hb hby own_d1_30) rfl  k) ?_
  refine own_step (fun t k => XS.lload X12.here hx rfl (hb hby own_d1_31) rfl  k) ?_
  refine own_step (fun t k => XS.land X12.here hx rfl (hb hby own_d1_33) rfl k) ?_
  show own_Run p e below T12 (mkF m 34 #[.val (.long q0), .second, .val (.long q1), .second, .val (.long q2), .second, .val (.long (4503599627370495 : Int64)), .second, .val (.long (281474976710655 : Int64)), .second, .val (.int (own_f1_16 q2)), .val (.ref b12)] [(.long (q0 &&& (4503599627370495 : Int64))), (.int ((own_f1_16 q2) &&& (3 : Int32))), (.int (0 : Int32)), (.ref b12)]) _
  refine own_step (fun t k => XS.lload X12.here hx rfl (hb hby own_d1_34) rfl  k) ?_
  refine own_step (fun t k => X12.ldc2Long hx hown (mvT hZ (hw _ (List.mem_of_getElem? (i := 7) rfl))) (g := (mkF m 36 #[.val (.long q0), .second, .val (.long q1), .second, .val (.long q2), .second, .val (.long (4503599627370495 : Int64)), .second, .val (.long (281474976710655 : Int64)), .second, .val (.int (own_f1_16 q2)), .val (.ref b12)] [(.long (4503599627370495 : Int64)), (.long (q0 &&& (4503599627370495 : Int64))), (.int ((own_f1_16 q2) &&& (3 : Int32))), (.int (0 : Int32)), (.ref b12)])) rfl (hb hby own_d1_36) t k) ?_
  show own_Run p e below T12 (mkF m 39 #[.val (.long q0), .second, .val (.long q1), .second, .val (.long q2), .second, .val (.long (4503599627370495 : Int64)), .second, .val (.long (281474976710655 : Int64)), .second, .val (.int (own_f1_16 q2)), .val (.ref b12)] [(.long (4503599627370494 : Int64)), (.long (4503599627370495 : Int64)), (.long (q0 &&& (4503599627370495 : Int64))), (.int ((own_f1_16 q2) &&& (3 : Int32))), (.int (0 : Int32)), (.ref b12)]) _
  obtain ⟨_, _, ⟨T13, L13, kq13, nq13⟩, -, X13, ⟨Lc13, hQ13, lq13, yq13, zq13⟩, st13⟩ := Jvm.LawKit.callS X12 hx (y := (⟨"com/example/rxrelay/rxrelay/protocol/gm/Sm2FieldSubtractPinLaw", "pick", "(IJJJ)J"⟩ : MethodName)) hown (mvT hZ (hw _ (List.mem_of_getElem? (i := 8) rfl))) (mvT hZ (hw _ (List.mem_of_getElem? (i := 9) rfl))) (mvT hZ (hw _ (List.mem_of_getElem? (i := 2) rfl))) (mvT hZ (hw _ (List.mem_of_getElem? (i := 10) rfl))) (by decide) (backOf (W := 2) (rm2 l Z av0 hw [] ((own_f1_16 q2) &&& (3 : Int32)) (q0 &&& (4503599627370495 : Int64)) (4503599627370495 : Int64) (4503599627370494 : Int64) h12 n0 Zn12 ) hZ (hw _ (List.mem_of_getElem? (i := 10) rfl)) (hw _ (List.mem_of_getElem? (i := 2) rfl)) (by decide) (by decide)) (g := (mkF m 39 #[.val (.long q0), .second, .val (.long q1), .second, .val (.long q2), .second, .val (.long (4503599627370495 : Int64)), .second, .val (.long (281474976710655 : Int64)), .second, .val (.int (own_f1_16 q2)), .val (.ref b12)] [(.long (4503599627370494 : Int64)), (.long (4503599627370495 : Int64)), (.long (q0 &&& (4503599627370495 : Int64))), (.int ((own_f1_16 q2) &&& (3 : Int32))), (.int (0 : Int32)), (.ref b12)])) rfl (by rw [hml]; rfl) (argsL := [(.int ((own_f1_16 q2) &&& (3 : Int32))), (.long (q0 &&& (4503599627370495 : Int64))), (.long (4503599627370495 : Int64)), (.long (4503599627370494 : Int64))]) (rest := [(.int (0 : Int32)), (.ref b12)]) (lenOf own_pd16 rfl) rfl (by show 2 * 0 + _ ≤ _; exact Nat.le_of_eq rfl) (hb hby own_d1_39) (fun _ _ => ⟨rfl, e12, (by decide : 1 + 0 ≤ _), (by decide : 5 + 0 ≤ _)⟩)
  dsimp only [Pt.U, Pt.locs, Pt.cells, Pt.slots] at X13 lq13 yq13 zq13 st13 hQ13
  subst lq13 yq13 zq13
  obtain ⟨rfl, N13q, e13⟩ := hQ13
  have N13 := Fr.app N0 N13q
  refine own_step st13 ?_
  show own_Run p e below T13 (mkF m 42 #[.val (.long q0), .second, .val (.long q1), .second, .val (.long q2), .second, .val (.long (4503599627370495 : Int64)), .second, .val (.long (281474976710655 : Int64)), .second, .val (.int (own_f1_16 q2)), .val (.ref b12)] [(.long (own_r2 ((own_f1_16 q2) &&& (3 : Int32)) (q0 &&& (4503599627370495 : Int64)) (4503599627370495 : Int64) (4503599627370494 : Int64))), (.int (0 : Int32)), (.ref b12)]) _
  obtain ⟨T14, h14, L14, X14, e14, N14, W14, V14, st14⟩ := own_stJ X13 hx hZ e13 V12 N13 geb12 (j := (0 : Int32)) ⟨by decide, by decide⟩ 0 rfl (Nat.le_of_ble_eq_true rfl) (g := (mkF m 42 #[.val (.long q0), .second, .val (.long q1), .second, .val (.long q2), .second, .val (.long (4503599627370495 : Int64)), .second, .val (.long (281474976710655 : Int64)), .second, .val (.int (own_f1_16 q2)), .val (.ref b12)] [(.long (own_r2 ((own_f1_16 q2) &&& (3 : Int32)) (q0 &&& (4503599627370495 : Int64)) (4503599627370495 : Int64) (4503599627370494 : Int64))), (.int (0 : Int32)), (.ref b12)])) rfl rfl (hb hby own_d1_42)
  have V14x : Arv Z h14 b12 k12 .long (5 : Int32) [(.long (own_f1_42v q2 q0)), (.long (0 : Int64)), (.long (0 : Int64)), (.long (0 : Int64)), (.long (0 : Int64))] (.long (0 : Int64)) := V14
  have Zn14 : n0 ≤ h14.size := Nat.le_trans Zn12 (Keep.of_wr W14).1
  have K14 : Keep h0 h14 [] := K12.wr W14 (Or.inr szb12)
  refine own_step st14 ?_
  show own_Run p e below T14 (mkF m 43 #[.val (.long q0), .second, .val (.long q1), .second, .val (.long q2), .second, .val (.long (4503599627370495 : Int64)), .second, .val (.long (281474976710655 : Int64)), .second, .val (.int (own_f1_16 q2)), .val (.ref b12)] []) _
  refine own_step (fun t k => XS.aload X14.here hx rfl (hb hby own_d1_43) rfl rfl k) ?_
  refine own_step (fun t k => XS.iconst X14.here hx rfl (hb hby own_d1_45) k) ?_
  refine own_step (fun t k => XS.iload X14.here hx rfl (hb hby own_d1_46) rfl  k) ?_
  show own_Run p e below T14 (mkF m 48 #[.val (.long q0), .second, .val (.long q1), .second, .val (.long q2), .second, .val (.long (4503599627370495 : Int64)), .second, .val (.long (281474976710655 : Int64)), .second, .val (.int (own_f1_16 q2)), .val (.ref b12)] [(.int (own_f1_16 q2)), (.int (1 : Int32)), (.ref b12)]) _
  refine own_step (fun t k => XS.iconst X14.here hx rfl (hb hby own_d1_48) k) ?_
  refine own_step (fun t k => XS.iushr X14.here hx rfl (hb hby own_d1_49) rfl k) ?_
  show own_Run p e below T14 (mkF m 50 #[.val (.long q0), .second, .val (.long q1), .second, .val (.long q2), .second, .val (.long (4503599627370495 : Int64)), .second, .val (.long (281474976710655 : Int64)), .second, .val (.int (own_f1_16 q2)), .val (.ref b12)] [(.int (own_ushr (own_f1_16 q2) (2 : Int32))), (.int (1 : Int32)), (.ref b12)]) _
  refine own_step (fun t k => XS.iconst X14.here hx rfl (hb hby own_d1_50) k) ?_
  refine own_step (fun t k => XS.iand X14.here hx rfl (hb hby own_d1_51) rfl k) ?_
  show own_Run p e below T14 (mkF m 52 #[.val (.long q0), .second, .val (.long q1), .second, .val (.long q2), .second, .val (.long (4503599627370495 : Int64)), .second, .val (.long (281474976710655 : Int64)), .second, .val (.int (own_f1_16 q2)), .val (.ref b12)] [(.int ((own_ushr (own_f1_16 q2) (2 : Int32)) &&& (3 : Int32))), (.int (1 : Int32)), (.ref b12)]) _
  refine own_step (fun t k => XS.lloadN X14.here hx rfl (hb hby own_d1_52) rfl  k) ?_
  refine own_step (fun t k => XS.lload X14.here hx rfl (hb hby own_d1_53) rfl  k) ?_
  refine own_step (fun t k => XS.land X14.here hx rfl (hb hby own_d1_55) rfl k) ?_
  show own_Run p e below T14 (mkF m 56 #[.val (.long q0), .second, .val (.long q1), .second, .val (.long q2), .second, .val (.long (4503599627370495 : Int64)), .second, .val (.long (281474976710655 : Int64)), .second, .val (.int (own_f1_16 q2)), .val (.ref b12)] [(.long (q1 &&& (4503599627370495 : Int64))), (.int ((own_ushr (own_f1_16 q2) (2 : Int32)) &&& (3 : Int32))), (.int (1 : Int32)), (.ref b12)]) _
  refine own_step (fun t k => XS.lload X14.here hx rfl (hb hby own_d1_56) rfl  k) ?_
  refine own_step (fun t k => X14.ldc2Long hx hown (mvT hZ (hw _ (List.mem_of_getElem? (i := 11) rfl))) (g := (mkF m 58 #[.val (.long q0), .second, .val (.long q1), .second, .val (.long q2), .second, .val (.long (4503599627370495 : Int64)), .second, .val (.long (281474976710655 : Int64)), .second, .val (.int (own_f1_16 q2)), .val (.ref b12)] [(.long (4503599627370495 : Int64)), (.long (q1 &&& (4503599627370495 : Int64))), (.int ((own_ushr (own_f1_16 q2) (2 : Int32)) &&& (3 : Int32))), (.int (1 : Int32)), (.ref b12)])) rfl (hb hby own_d1_58) t k) ?_
  show own_Run p e below T14 (mkF m 61 #[.val (.long q0), .second, .val (.long q1), .second, .val (.long q2), .second, .val (.long (4503599627370495 : Int64)), .second, .val (.long (281474976710655 : Int64)), .second, .val (.int (own_f1_16 q2)), .val (.ref b12)] [(.long (4486007441330175 : Int64)), (.long (4503599627370495 : Int64)), (.long (q1 &&& (4503599627370495 : Int64))), (.int ((own_ushr (own_f1_16 q2) (2 : Int32)) &&& (3 : Int32))), (.int (1 : Int32)), (.ref b12)]) _
  obtain ⟨_, _, ⟨T15, L15, kq15, nq15⟩, -, X15, ⟨Lc15, hQ15, lq15, yq15, zq15⟩, st15⟩ := Jvm.LawKit.callS X14 hx (y := (⟨"com/example/rxrelay/rxrelay/protocol/gm/Sm2FieldSubtractPinLaw", "pick", "(IJJJ)J"⟩ : MethodName)) hown (mvT hZ (hw _ (List.mem_of_getElem? (i := 8) rfl))) (mvT hZ (hw _ (List.mem_of_getElem? (i := 9) rfl))) (mvT hZ (hw _ (List.mem_of_getElem? (i := 2) rfl))) (mvT hZ (hw _ (List.mem_of_getElem? (i := 10) rfl))) (by decide) (backOf (W := 2) (rm2 l Z av0 hw [] ((own_ushr (own_f1_16 q2) (2 : Int32)) &&& (3 : Int32)) (q1 &&& (4503599627370495 : Int64)) (4503599627370495 : Int64) (4486007441330175 : Int64) h14 n0 Zn14 ) hZ (hw _ (List.mem_of_getElem? (i := 10) rfl)) (hw _ (List.mem_of_getElem? (i := 2) rfl)) (by decide) (by decide)) (g := (mkF m 61 #[.val (.long q0), .second, .val (.long q1), .second, .val (.long q2), .second, .val (.long (4503599627370495 : Int64)), .second, .val (.long (281474976710655 : Int64)), .second, .val (.int (own_f1_16 q2)), .val (.ref b12)] [(.long (4486007441330175 : Int64)), (.long (4503599627370495 : Int64)), (.long (q1 &&& (4503599627370495 : Int64))), (.int ((own_ushr (own_f1_16 q2) (2 : Int32)) &&& (3 : Int32))), (.int (1 : Int32)), (.ref b12)])) rfl (by rw [hml]; rfl) (argsL := [(.int ((own_ushr (own_f1_16 q2) (2 : Int32)) &&& (3 : Int32))), (.long (q1 &&& (4503599627370495 : Int64))), (.long (4503599627370495 : Int64)), (.long (4486007441330175 : Int64))]) (rest := [(.int (1 : Int32)), (.ref b12)]) (lenOf own_pd16 rfl) rfl (by show 2 * 0 + _ ≤ _; exact Nat.le_of_eq rfl) (hb hby own_d1_61) (fun _ _ => ⟨rfl, e14, (by decide : 1 + 0 ≤ _), (by decide : 5 + 0 ≤ _)⟩)
  dsimp only [Pt.U, Pt.locs, Pt.cells, Pt.slots] at X15 lq15 yq15 zq15 st15 hQ15
  subst lq15 yq15 zq15
  obtain ⟨rfl, N15q, e15⟩ := hQ15
  have N15 := Fr.app N14 N15q
  refine own_step st15 ?_
  show own_Run p e below T15 (mkF m 64 #[.val (.long q0), .second, .val (.long q1), .second, .val (.long q2), .second, .val (.long (4503599627370495 : Int64)), .second, .val (.long (281474976710655 : Int64)), .second, .val (.int (own_f1_16 q2)), .val (.ref b12)] [(.long (own_r2 ((own_ushr (own_f1_16 q2) (2 : Int32)) &&& (3 : Int32)) (q1 &&& (4503599627370495 : Int64)) (4503599627370495 : Int64) (4486007441330175 : Int64))), (.int (1 : Int32)), (.ref b12)]) _
  obtain ⟨T16, h16, L16, X16, e16, N16, W16, V16, st16⟩ := own_stJ X15 hx hZ e15 V14x N15 geb12 (j := (1 : Int32)) ⟨by decide, by decide⟩ 1 rfl (Nat.le_of_ble_eq_true rfl) (g := (mkF m 64 #[.val (.long q0), .second, .val (.long q1), .second, .val (.long q2), .second, .val (.long (4503599627370495 : Int64)), .second, .val (.long (281474976710655 : Int64)), .second, .val (.int (own_f1_16 q2)), .val (.ref b12)] [(.long (own_r2 ((own_ushr (own_f1_16 q2) (2 : Int32)) &&& (3 : Int32)) (q1 &&& (4503599627370495 : Int64)) (4503599627370495 : Int64) (4486007441330175 : Int64))), (.int (1 : Int32)), (.ref b12)])) rfl rfl (hb hby own_d1_64)
  have V16x : Arv Z h16 b12 k12 .long (5 : Int32) [(.long (own_f1_42v q2 q0)), (.long (own_f1_64v q2 q1)), (.long (0 : Int64)), (.long (0 : Int64)), (.long (0 : Int64))] (.long (0 : Int64)) := V16
  have Zn16 : n0 ≤ h16.size := Nat.le_trans Zn14 (Keep.of_wr W16).1
  have K16 : Keep h0 h16 [] := K14.wr W16 (Or.inr szb12)
  refine own_step st16 ?_
  show own_Run p e below T16 (mkF m 65 #[.val (.long q0), .second, .val (.long q1), .second, .val (.long q2), .second, .val (.long (4503599627370495 : Int64)), .second, .val (.long (281474976710655 : Int64)), .second, .val (.int (own_f1_16 q2)), .val (.ref b12)] []) _
  refine own_step (fun t k => XS.aload X16.here hx rfl (hb hby own_d1_65) rfl rfl k) ?_
  refine own_step (fun t k => XS.iconst X16.here hx rfl (hb hby own_d1_67) k) ?_
  refine own_step (fun t k => XS.iload X16.here hx rfl (hb hby own_d1_68) rfl  k) ?_
  show own_Run p e below T16 (mkF m 70 #[.val (.long q0), .second, .val (.long q1), .second, .val (.long q2), .second, .val (.long (4503599627370495 : Int64)), .second, .val (.long (281474976710655 : Int64)), .second, .val (.int (own_f1_16 q2)), .val (.ref b12)] [(.int (own_f1_16 q2)), (.int (2 : Int32)), (.ref b12)]) _
  refine own_step (fun t k => XS.iconst X16.here hx rfl (hb hby own_d1_70) k) ?_
  refine own_step (fun t k => XS.iushr X16.here hx rfl (hb hby own_d1_71) rfl k) ?_
  show own_Run p e below T16 (mkF m 72 #[.val (.long q0), .second, .val (.long q1), .second, .val (.long q2), .second, .val (.long (4503599627370495 : Int64)), .second, .val (.long (281474976710655 : Int64)), .second, .val (.int (own_f1_16 q2)), .val (.ref b12)] [(.int (own_ushr (own_f1_16 q2) (4 : Int32))), (.int (2 : Int32)), (.ref b12)]) _
  refine own_step (fun t k => XS.iconst X16.here hx rfl (hb hby own_d1_72) k) ?_
  refine own_step (fun t k => XS.iand X16.here hx rfl (hb hby own_d1_73) rfl k) ?_
  show own_Run p e below T16 (mkF m 74 #[.val (.long q0), .second, .val (.long q1), .second, .val (.long q2), .second, .val (.long (4503599627370495 : Int64)), .second, .val (.long (281474976710655 : Int64)), .second, .val (.int (own_f1_16 q2)), .val (.ref b12)] [(.int ((own_ushr (own_f1_16 q2) (4 : Int32)) &&& (3 : Int32))), (.int (2 : Int32)), (.ref b12)]) _
  refine own_step (fun t k => XS.lload X16.here hx rfl (hb hby own_d1_74) rfl  k) ?_
  refine own_step (fun t k => XS.lload X16.here hx rfl (hb hby own_d1_76) rfl  k) ?_
  refine own_step (fun t k => XS.land X16.here hx rfl (hb hby own_d1_78) rfl k) ?_
  show own_Run p e below T16 (mkF m 79 #[.val (.long q0), .second, .val (.long q1), .second, .val (.long q2), .second, .val (.long (4503599627370495 : Int64)), .second, .val (.long (281474976710655 : Int64)), .second, .val (.int (own_f1_16 q2)), .val (.ref b12)] [(.long (q2 &&& (4503599627370495 : Int64))), (.int ((own_ushr (own_f1_16 q2) (4 : Int32)) &&& (3 : Int32))), (.int (2 : Int32)), (.ref b12)]) _
  refine own_step (fun t k => XS.lload X16.here hx rfl (hb hby own_d1_79) rfl  k) ?_
  refine own_step (fun t k => X16.ldc2Long hx hown (mvT hZ (hw _ (List.mem_of_getElem? (i := 4) rfl))) (g := (mkF m 81 #[.val (.long q0), .second, .val (.long q1), .second, .val (.long q2), .second, .val (.long (4503599627370495 : Int64)), .second, .val (.long (281474976710655 : Int64)), .second, .val (.int (own_f1_16 q2)), .val (.ref b12)] [(.long (4503599627370495 : Int64)), (.long (q2 &&& (4503599627370495 : Int64))), (.int ((own_ushr (own_f1_16 q2) (4 : Int32)) &&& (3 : Int32))), (.int (2 : Int32)), (.ref b12)])) rfl (hb hby own_d1_81) t k) ?_
  show own_Run p e below T16 (mkF m 84 #[.val (.long q0), .second, .val (.long q1), .second, .val (.long q2), .second, .val (.long (4503599627370495 : Int64)), .second, .val (.long (281474976710655 : Int64)), .second, .val (.int (own_f1_16 q2)), .val (.ref b12)] [(.long (4503599627370495 : Int64)), (.long (4503599627370495 : Int64)), (.long (q2 &&& (4503599627370495 : Int64))), (.int ((own_ushr (own_f1_16 q2) (4 : Int32)) &&& (3 : Int32))), (.int (2 : Int32)), (.ref b12)]) _
  obtain ⟨_, _, ⟨T17, L17, kq17, nq17⟩, -, X17, ⟨Lc17, hQ17, lq17, yq17, zq17⟩, st17⟩ := Jvm.LawKit.callS X16 hx (y := (⟨"com/example/rxrelay/rxrelay/protocol/gm/Sm2FieldSubtractPinLaw", "pick", "(IJJJ)J"⟩ : MethodName)) hown (mvT hZ (hw _ (List.mem_of_getElem? (i := 8) rfl))) (mvT hZ (hw _ (List.mem_of_getElem? (i := 9) rfl))) (mvT hZ (hw _ (List.mem_of_getElem? (i := 2) rfl))) (mvT hZ (hw _ (List.mem_of_getElem? (i := 10) rfl))) (by decide) (backOf (W := 2) (rm2 l Z av0 hw [] ((own_ushr (own_f1_16 q2) (4 : Int32)) &&& (3 : Int32)) (q2 &&& (4503599627370495 : Int64)) (4503599627370495 : Int64) (4503599627370495 : Int64) h16 n0 Zn16 ) hZ (hw _ (List.mem_of_getElem? (i := 10) rfl)) (hw _ (List.mem_of_getElem? (i := 2) rfl)) (by decide) (by decide)) (g := (mkF m 84 #[.val (.long q0), .second, .val (.long q1), .second, .val (.long q2), .second, .val (.long (4503599627370495 : Int64)), .second, .val (.long (281474976710655 : Int64)), .second, .val (.int (own_f1_16 q2)), .val (.ref b12)] [(.long (4503599627370495 : Int64)), (.long (4503599627370495 : Int64)), (.long (q2 &&& (4503599627370495 : Int64))), (.int ((own_ushr (own_f1_16 q2) (4 : Int32)) &&& (3 : Int32))), (.int (2 : Int32)), (.ref b12)])) rfl (by rw [hml]; rfl) (argsL := [(.int ((own_ushr (own_f1_16 q2) (4 : Int32)) &&& (3 : Int32))), (.long (q2 &&& (4503599627370495 : Int64))), (.long (4503599627370495 : Int64)), (.long (4503599627370495 : Int64))]) (rest := [(.int (2 : Int32)), (.ref b12)]) (lenOf own_pd16 rfl) rfl (by show 2 * 0 + _ ≤ _; exact Nat.le_of_eq rfl) (hb hby own_d1_84) (fun _ _ => ⟨rfl, e16, (by decide : 1 + 0 ≤ _), (by decide : 5 + 0 ≤ _)⟩)
  dsimp only [Pt.U, Pt.locs, Pt.cells, Pt.slots] at X17 lq17 yq17 zq17 st17 hQ17
  subst lq17 yq17 zq17
  obtain ⟨rfl, N17q, e17⟩ := hQ17
  have N17 := Fr.app N16 N17q
  refine own_step st17 ?_
  show own_Run p e below T17 (mkF m 87 #[.val (.long q0), .second, .val (.long q1), .second, .val (.long q2), .second, .val (.long (4503599627370495 : Int64)), .second, .val (.long (281474976710655 : Int64)), .second, .val (.int (own_f1_16 q2)), .val (.ref b12)] [(.long (own_r2 ((own_ushr (own_f1_16 q2) (4 : Int32)) &&& (3 : Int32)) (q2 &&& (4503599627370495 : Int64)) (4503599627370495 : Int64) (4503599627370495 : Int64))), (.int (2 : Int32)), (.ref b12)]) _
  obtain ⟨T18, h18, L18, X18, e18, N18, W18, V18, st18⟩ := own_stJ X17 hx hZ e17 V16x N17 geb12 (j := (2 : Int32)) ⟨by decide, by decide⟩ 2 rfl (Nat.le_of_ble_eq_true rfl) (g := (mkF m 87 #[.val (.long q0), .second, .val (.long q1), .second, .val (.long q2), .second, .val (.long (4503599627370495 : Int64)), .second, .val (.long (281474976710655 : Int64)), .second, .val (.int (own_f1_16 q2)), .val (.ref b12)] [(.long (own_r2 ((own_ushr (own_f1_16 q2) (4 : Int32)) &&& (3 : Int32)) (q2 &&& (4503599627370495 : Int64)) (4503599627370495 : Int64) (4503599627370495 : Int64))), (.int (2 : Int32)), (.ref b12)])) rfl rfl (hb hby own_d1_87)
  have V18x : Arv Z h18 b12 k12 .long (5 : Int32) [(.long (own_f1_42v q2 q0)), (.long (own_f1_64v q2 q1)), (.long (own_f1_87v q2)), (.long (0 : Int64)), (.long (0 : Int64))] (.long (0 : Int64)) := V18
  have Zn18 : n0 ≤ h18.size := Nat.le_trans Zn16 (Keep.of_wr W18).1
  have K18 : Keep h0 h18 [] := K16.wr W18 (Or.inr szb12)
  refine own_step st18 ?_
  show own_Run p e below T18 (mkF m 88 #[.val (.long q0), .second, .val (.long q1), .second, .val (.long q2), .second, .val (.long (4503599627370495 : Int64)), .second, .val (.long (281474976710655 : Int64)), .second, .val (.int (own_f1_16 q2)), .val (.ref b12)] []) _
  refine own_step (fun t k => XS.aload X18.here hx rfl (hb hby own_d1_88) rfl rfl k) ?_
  refine own_step (fun t k => XS.iconst X18.here hx rfl (hb hby own_d1_90) k) ?_
  refine own_step (fun t k => XS.iload X18.here hx rfl (hb hby own_d1_91) rfl  k) ?_
  show own_Run p e below T18 (mkF m 93 #[.val (.long q0), .second, .val (.long q1), .second, .val (.long q2), .second, .val (.long (4503599627370495 : Int64)), .second, .val (.long (281474976710655 : Int64)), .second, .val (.int (own_f1_16 q2)), .val (.ref b12)] [(.int (own_f1_16 q2)), (.int (3 : Int32)), (.ref b12)]) _
  refine own_step (fun t k => XS.bipush X18.here hx rfl (hb hby own_d1_93) k) ?_
  refine own_step (fun t k => XS.iushr X18.here hx rfl (hb hby own_d1_95) rfl k) ?_
  show own_Run p e below T18 (mkF m 96 #[.val (.long q0), .second, .val (.long q1), .second, .val (.long q2), .second, .val (.long (4503599627370495 : Int64)), .second, .val (.long (281474976710655 : Int64)), .second, .val (.int (own_f1_16 q2)), .val (.ref b12)] [(.int (own_ushr (own_f1_16 q2) (6 : Int32))), (.int (3 : Int32)), (.ref b12)]) _
  refine own_step (fun t k => XS.iconst X18.here hx rfl (hb hby own_d1_96) k) ?_
  refine own_step (fun t k => XS.iand X18.here hx rfl (hb hby own_d1_97) rfl k) ?_
  show own_Run p e below T18 (mkF m 98 #[.val (.long q0), .second, .val (.long q1), .second, .val (.long q2), .second, .val (.long (4503599627370495 : Int64)), .second, .val (.long (281474976710655 : Int64)), .second, .val (.int (own_f1_16 q2)), .val (.ref b12)] [(.int ((own_ushr (own_f1_16 q2) (6 : Int32)) &&& (3 : Int32))), (.int (3 : Int32)), (.ref b12)]) _
  refine own_step (fun t k => XS.lloadN X18.here hx rfl (hb hby own_d1_98) rfl  k) ?_
  refine own_step (fun t k => XS.bipush X18.here hx rfl (hb hby own_d1_99) k) ?_
  refine own_step (fun t k => XS.lushr X18.here hx rfl (hb hby own_d1_101) rfl k) ?_
  show own_Run p e below T18 (mkF m 102 #[.val (.long q0), .second, .val (.long q1), .second, .val (.long q2), .second, .val (.long (4503599627370495 : Int64)), .second, .val (.long (281474976710655 : Int64)), .second, .val (.int (own_f1_16 q2)), .val (.ref b12)] [(.long (own_ushrL q0 (12 : Int32))), (.int ((own_ushr (own_f1_16 q2) (6 : Int32)) &&& (3 : Int32))), (.int (3 : Int32)), (.ref b12)]) _
  refine own_step (fun t k => XS.lloadN X18.here hx rfl (hb hby own_d1_102) rfl  k) ?_
  refine own_step (fun t k => XS.bipush X18.here hx rfl (hb hby own_d1_103) k) ?_
  refine own_step (fun t k => XS.lshl X18.here hx rfl (hb hby own_d1_105) rfl k) ?_
  show own_Run p e below T18 (mkF m 106 #[.val (.long q0), .second, .val (.long q1), .second, .val (.long q2), .second, .val (.long (4503599627370495 : Int64)), .second, .val (.long (281474976710655 : Int64)), .second, .val (.int (own_f1_16 q2)), .val (.ref b12)] [(.long (own_shlL q1 (12 : Int32))), (.long (own_ushrL q0 (12 : Int32))), (.int ((own_ushr (own_f1_16 q2) (6 : Int32)) &&& (3 : Int32))), (.int (3 : Int32)), (.ref b12)]) _
  refine own_step (fun t k => XS.lxor X18.here hx rfl (hb hby own_d1_106) rfl k) ?_
  show own_Run p e below T18 (mkF m 107 #[.val (.long q0), .second, .val (.long q1), .second, .val (.long q2), .second, .val (.long (4503599627370495 : Int64)), .second, .val (.long (281474976710655 : Int64)), .second, .val (.int (own_f1_16 q2)), .val (.ref b12)] [(.long ((own_ushrL q0 (12 : Int32)) ^^^ (own_shlL q1 (12 : Int32)))), (.int ((own_ushr (own_f1_16 q2) (6 : Int32)) &&& (3 : Int32))), (.int (3 : Int32)), (.ref b12)]) _
  refine own_step (fun t k => XS.lload X18.here hx rfl (hb hby own_d1_107) rfl  k) ?_
  refine own_step (fun t k => XS.land X18.here hx rfl (hb hby own_d1_109) rfl k) ?_
  show own_Run p e below T18 (mkF m 110 #[.val (.long q0), .second, .val (.long q1), .second, .val (.long q2), .second, .val (.long (4503599627370495 : Int64)), .second, .val (.long (281474976710655 : Int64)), .second, .val (.int (own_f1_16 q2)), .val (.ref b12)] [(.long (((own_ushrL q0 (12 : Int32)) ^^^ (own_shlL q1 (12 : Int32))) &&& (4503599627370495 : Int64))), (.int ((own_ushr (own_f1_16 q2) (6 : Int32)) &&& (3 : Int32))), (.int (3 : Int32)), (.ref b12)]) _
  refine own_step (fun t k => XS.lload X18.here hx rfl (hb hby own_d1_110) rfl  k) ?_
  refine own_step (fun t k => X18.ldc2Long hx hown (mvT hZ (hw _ (List.mem_of_getElem? (i := 4) rfl))) (g := (mkF m 112 #[.val (.long q0), .second, .val (.long q1), .second, .val (.long q2), .second, .val (.long (4503599627370495 : Int64)), .second, .val (.long (281474976710655 : Int64)), .second, .val (.int (own_f1_16 q2)), .val (.ref b12)] [(.long (4503599627370495 : Int64)), (.long (((own_ushrL q0 (12 : Int32)) ^^^ (own_shlL q1 (12 : Int32))) &&& (4503599627370495 : Int64))), (.int ((own_ushr (own_f1_16 q2) (6 : Int32)) &&& (3 : Int32))), (.int (3 : Int32)), (.ref b12)])) rfl (hb hby own_d1_112) t k) ?_
  show own_Run p e below T18 (mkF m 115 #[.val (.long q0), .second, .val (.long q1), .second, .val (.long q2), .second, .val (.long (4503599627370495 : Int64)), .second, .val (.long (281474976710655 : Int64)), .second, .val (.int (own_f1_16 q2)), .val (.ref b12)] [(.long (4503599627370495 : Int64)), (.long (4503599627370495 : Int64)), (.long (((own_ushrL q0 (12 : Int32)) ^^^ (own_shlL q1 (12 : Int32))) &&& (4503599627370495 : Int64))), (.int ((own_ushr (own_f1_16 q2) (6 : Int32)) &&& (3 : Int32))), (.int (3 : Int32)), (.ref b12)]) _
  obtain ⟨_, _, ⟨T19, L19, kq19, nq19⟩, -, X19, ⟨Lc19, hQ19, lq19, yq19, zq19⟩, st19⟩ := Jvm.LawKit.callS X18 hx (y := (⟨"com/example/rxrelay/rxrelay/protocol/gm/Sm2FieldSubtractPinLaw", "pick", "(IJJJ)J"⟩ : MethodName)) hown (mvT hZ (hw _ (List.mem_of_getElem? (i := 8) rfl))) (mvT hZ (hw _ (List.mem_of_getElem? (i := 9) rfl))) (mvT hZ (hw _ (List.mem_of_getElem? (i := 2) rfl))) (mvT hZ (hw _ (List.mem_of_getElem? (i := 10) rfl))) (by decide) (backOf (W := 2) (rm2 l Z av0 hw [] ((own_ushr (own_f1_16 q2) (6 : Int32)) &&& (3 : Int32)) (((own_ushrL q0 (12 : Int32)) ^^^ (own_shlL q1 (12 : Int32))) &&& (4503599627370495 : Int64)) (4503599627370495 : Int64) (4503599627370495 : Int64) h18 n0 Zn18 ) hZ (hw _ (List.mem_of_getElem? (i := 10) rfl)) (hw _ (List.mem_of_getElem? (i := 2) rfl)) (by decide) (by decide)) (g := (mkF m 115 #[.val (.long q0), .second, .val (.long q1), .second, .val (.long q2), .second, .val (.long (4503599627370495 : Int64)), .second, .val (.long (281474976710655 : Int64)), .second, .val (.int (own_f1_16 q2)), .val (.ref b12)] [(.long (4503599627370495 : Int64)), (.long (4503599627370495 : Int64)), (.long (((own_ushrL q0 (12 : Int32)) ^^^ (own_shlL q1 (12 : Int32))) &&& (4503599627370495 : Int64))), (.int ((own_ushr (own_f1_16 q2) (6 : Int32)) &&& (3 : Int32))), (.int (3 : Int32)), (.ref b12)])) rfl (by rw [hml]; rfl) (argsL := [(.int ((own_ushr (own_f1_16 q2) (6 : Int32)) &&& (3 : Int32))), (.long (((own_ushrL q0 (12 : Int32)) ^^^ (own_shlL q1 (12 : Int32))) &&& (4503599627370495 : Int64))), (.long (4503599627370495 : Int64)), (.long (4503599627370495 : Int64))]) (rest := [(.int (3 : Int32)), (.ref b12)]) (lenOf own_pd16 rfl) rfl (by show 2 * 0 + _ ≤ _; exact Nat.le_of_eq rfl) (hb hby own_d1_115) (fun _ _ => ⟨rfl, e18, (by decide : 1 + 0 ≤ _), (by decide : 5 + 0 ≤ _)⟩)
  dsimp only [Pt.U, Pt.locs, Pt.cells, Pt.slots] at X19 lq19 yq19 zq19 st19 hQ19
  subst lq19 yq19 zq19
  obtain ⟨rfl, N19q, e19⟩ := hQ19
  have N19 := Fr.app N18 N19q
  refine own_step st19 ?_
  show own_Run p e below T19 (mkF m 118 #[.val (.long q0), .second, .val (.long q1), .second, .val (.long q2), .second, .val (.long (4503599627370495 : Int64)), .second, .val (.long (281474976710655 : Int64)), .second, .val (.int (own_f1_16 q2)), .val (.ref b12)] [(.long (own_r2 ((own_ushr (own_f1_16 q2) (6 : Int32)) &&& (3 : Int32)) (((own_ushrL q0 (12 : Int32)) ^^^ (own_shlL q1 (12 : Int32))) &&& (4503599627370495 : Int64)) (4503599627370495 : Int64) (4503599627370495 : Int64))), (.int (3 : Int32)), (.ref b12)]) _
  obtain ⟨T20, h20, L20, X20, e20, N20, W20, V20, st20⟩ := own_stJ X19 hx hZ e19 V18x N19 geb12 (j := (3 : Int32)) ⟨by decide, by decide⟩ 3 rfl (Nat.le_of_ble_eq_true rfl) (g := (mkF m 118 #[.val (.long q0), .second, .val (.long q1), .second, .val (.long q2), .second, .val (.long (4503599627370495 : Int64)), .second, .val (.long (281474976710655 : Int64)), .second, .val (.int (own_f1_16 q2)), .val (.ref b12)] [(.long (own_r2 ((own_ushr (own_f1_16 q2) (6 : Int32)) &&& (3 : Int32)) (((own_ushrL q0 (12 : Int32)) ^^^ (own_shlL q1 (12 : Int32))) &&& (4503599627370495 : Int64)) (4503599627370495 : Int64) (4503599627370495 : Int64))), (.int (3 : Int32)), (.ref b12)])) rfl rfl (hb hby own_d1_118)
  have V20x : Arv Z h20 b12 k12 .long (5 : Int32) [(.long (own_f1_42v q2 q0)), (.long (own_f1_64v q2 q1)), (.long (own_f1_87v q2)), (.long (own_f1_118v q2 q0 q1)), (.long (0 : Int64))] (.long (0 : Int64)) := V20
  have Zn20 : n0 ≤ h20.size := Nat.le_trans Zn18 (Keep.of_wr W20).1
  have K20 : Keep h0 h20 [] := K18.wr W20 (Or.inr szb12)
  refine own_step st20 ?_
  show own_Run p e below T20 (mkF m 119 #[.val (.long q0), .second, .val (.long q1), .second, .val (.long q2), .second, .val (.long (4503599627370495 : Int64)), .second, .val (.long (281474976710655 : Int64)), .second, .val (.int (own_f1_16 q2)), .val (.ref b12)] []) _
  refine own_step (fun t k => XS.aload X20.here hx rfl (hb hby own_d1_119) rfl rfl k) ?_
  refine own_step (fun t k => XS.iconst X20.here hx rfl (hb hby own_d1_121) k) ?_
  refine own_step (fun t k => XS.iload X20.here hx rfl (hb hby own_d1_122) rfl  k) ?_
  show own_Run p e below T20 (mkF m 124 #[.val (.long q0), .second, .val (.long q1), .second, .val (.long q2), .second, .val (.long (4503599627370495 : Int64)), .second, .val (.long (281474976710655 : Int64)), .second, .val (.int (own_f1_16 q2)), .val (.ref b12)] [(.int (own_f1_16 q2)), (.int (4 : Int32)), (.ref b12)]) _
  refine own_step (fun t k => XS.bipush X20.here hx rfl (hb hby own_d1_124) k) ?_
  refine own_step (fun t k => XS.iushr X20.here hx rfl (hb hby own_d1_126) rfl k) ?_
  show own_Run p e below T20 (mkF m 127 #[.val (.long q0), .second, .val (.long q1), .second, .val (.long q2), .second, .val (.long (4503599627370495 : Int64)), .second, .val (.long (281474976710655 : Int64)), .second, .val (.int (own_f1_16 q2)), .val (.ref b12)] [(.int (own_ushr (own_f1_16 q2) (8 : Int32))), (.int (4 : Int32)), (.ref b12)]) _
  refine own_step (fun t k => XS.iconst X20.here hx rfl (hb hby own_d1_127) k) ?_
  refine own_step (fun t k => XS.iand X20.here hx rfl (hb hby own_d1_128) rfl k) ?_
  show own_Run p e below T20 (mkF m 129 #[.val (.long q0), .second, .val (.long q1), .second, .val (.long q2), .second, .val (.long (4503599627370495 : Int64)), .second, .val (.long (281474976710655 : Int64)), .second, .val (.int (own_f1_16 q2)), .val (.ref b12)] [(.int ((own_ushr (own_f1_16 q2) (8 : Int32)) &&& (3 : Int32))), (.int (4 : Int32)), (.ref b12)]) _
  refine own_step (fun t k => XS.lloadN X20.here hx rfl (hb hby own_d1_129) rfl  k) ?_
  refine own_step (fun t k => XS.bipush X20.here hx rfl (hb hby own_d1_130) k) ?_
  refine own_step (fun t k => XS.lushr X20.here hx rfl (hb hby own_d1_132) rfl k) ?_
  show own_Run p e below T20 (mkF m 133 #[.val (.long q0), .second, .val (.long q1), .second, .val (.long q2), .second, .val (.long (4503599627370495 : Int64)), .second, .val (.long (281474976710655 : Int64)), .second, .val (.int (own_f1_16 q2)), .val (.ref b12)] [(.long (own_ushrL q1 (12 : Int32))), (.int ((own_ushr (own_f1_16 q2) (8 : Int32)) &&& (3 : Int32))), (.int (4 : Int32)), (.ref b12)]) _
  refine own_step (fun t k => XS.lload X20.here hx rfl (hb hby own_d1_133) rfl  k) ?_
  refine own_step (fun t k => XS.bipush X20.here hx rfl (hb hby own_d1_135) k) ?_
  refine own_step (fun t k => XS.lshl X20.here hx rfl (hb hby own_d1_137) rfl k) ?_
  show own_Run p e below T20 (mkF m 138 #[.val (.long q0), .second, .val (.long q1), .second, .val (.long q2), .second, .val (.long (4503599627370495 : Int64)), .second, .val (.long (281474976710655 : Int64)), .second, .val (.int (own_f1_16 q2)), .val (.ref b12)] [(.long (own_shlL q2 (12 : Int32))), (.long (own_ushrL q1 (12 : Int32))), (.int ((own_ushr (own_f1_16 q2) (8 : Int32)) &&& (3 : Int32))), (.int (4 : Int32)), (.ref b12)]) _
  refine own_step (fun t k => XS.lxor X20.here hx rfl (hb hby own_d1_138) rfl k) ?_
  show own_Run p e below T20 (mkF m 139 #[.val (.long q0), .second, .val (.long q1), .second, .val (.long q2), .second, .val (.long (4503599627370495 : Int64)), .second, .val (.long (281474976710655 : Int64)), .second, .val (.int (own_f1_16 q2)), .val (.ref b12)] [(.long ((own_ushrL q1 (12 : Int32)) ^^^ (own_shlL q2 (12 : Int32)))), (.int ((own_ushr (own_f1_16 q2) (8 : Int32)) &&& (3 : Int32))), (.int (4 : Int32)), (.ref b12)]) _
  refine own_step (fun t k => XS.lload X20.here hx rfl (hb hby own_d1_139) rfl  k) ?_
  refine own_step (fun t k => XS.land X20.here hx rfl (hb hby own_d1_141) rfl k) ?_
  show own_Run p e below T20 (mkF m 142 #[.val (.long q0), .second, .val (.long q1), .second, .val (.long q2), .second, .val (.long (4503599627370495 : Int64)), .second, .val (.long (281474976710655 : Int64)), .second, .val (.int (own_f1_16 q2)), .val (.ref b12)] [(.long (((own_ushrL q1 (12 : Int32)) ^^^ (own_shlL q2 (12 : Int32))) &&& (281474976710655 : Int64))), (.int ((own_ushr (own_f1_16 q2) (8 : Int32)) &&& (3 : Int32))), (.int (4 : Int32)), (.ref b12)]) _
  refine own_step (fun t k => X20.ldc2Long hx hown (mvT hZ (hw _ (List.mem_of_getElem? (i := 12) rfl))) (g := (mkF m 142 #[.val (.long q0), .second, .val (.long q1), .second, .val (.long q2), .second, .val (.long (4503599627370495 : Int64)), .second, .val (.long (281474976710655 : Int64)), .second, .val (.int (own_f1_16 q2)), .val (.ref b12)] [(.long (((own_ushrL q1 (12 : Int32)) ^^^ (own_shlL q2 (12 : Int32))) &&& (281474976710655 : Int64))), (.int ((own_ushr (own_f1_16 q2) (8 : Int32)) &&& (3 : Int32))), (.int (4 : Int32)), (.ref b12)])) rfl (hb hby own_d1_142) t k) ?_
  show own_Run p e below T20 (mkF m 145 #[.val (.long q0), .second, .val (.long q1), .second, .val (.long q2), .second, .val (.long (4503599627370495 : Int64)), .second, .val (.long (281474976710655 : Int64)), .second, .val (.int (own_f1_16 q2)), .val (.ref b12)] [(.long (281474976645118 : Int64)), (.long (((own_ushrL q1 (12 : Int32)) ^^^ (own_shlL q2 (12 : Int32))) &&& (281474976710655 : Int64))), (.int ((own_ushr (own_f1_16 q2) (8 : Int32)) &&& (3 : Int32))), (.int (4 : Int32)), (.ref b12)]) _
  refine own_step (fun t k => X20.ldc2Long hx hown (mvT hZ (hw _ (List.mem_of_getElem? (i := 13) rfl))) (g := (mkF m 145 #[.val (.long q0), .second, .val (.long q1), .second, .val (.long q2), .second, .val (.long (4503599627370495 : Int64)), .second, .val (.long (281474976710655 : Int64)), .second, .val (.int (own_f1_16 q2)), .val (.ref b12)] [(.long (281474976645118 : Int64)), (.long (((own_ushrL q1 (12 : Int32)) ^^^ (own_shlL q2 (12 : Int32))) &&& (281474976710655 : Int64))), (.int ((own_ushr (own_f1_16 q2) (8 : Int32)) &&& (3 : Int32))), (.int (4 : Int32)), (.ref b12)])) rfl (hb hby own_d1_145) t k) ?_
  show own_Run p e below T20 (mkF m 148 #[.val (.long q0), .second, .val (.long q1), .second, .val (.long q2), .second, .val (.long (4503599627370495 : Int64)), .second, .val (.long (281474976710655 : Int64)), .second, .val (.int (own_f1_16 q2)), .val (.ref b12)] [(.long (281474976645119 : Int64)), (.long (281474976645118 : Int64)), (.long (((own_ushrL q1 (12 : Int32)) ^^^ (own_shlL q2 (12 : Int32))) &&& (281474976710655 : Int64))), (.int ((own_ushr (own_f1_16 q2) (8 : Int32)) &&& (3 : Int32))), (.int (4 : Int32)), (.ref b12)]) _
  obtain ⟨_, _, ⟨T21, L21, kq21, nq21⟩, -, X21, ⟨Lc21, hQ21, lq21, yq21, zq21⟩, st21⟩ := Jvm.LawKit.callS X20 hx (y := (⟨"com/example/rxrelay/rxrelay/protocol/gm/Sm2FieldSubtractPinLaw", "pick", "(IJJJ)J"⟩ : MethodName)) hown (mvT hZ (hw _ (List.mem_of_getElem? (i := 8) rfl))) (mvT hZ (hw _ (List.mem_of_getElem? (i := 9) rfl))) (mvT hZ (hw _ (List.mem_of_getElem? (i := 2) rfl))) (mvT hZ (hw _ (List.mem_of_getElem? (i := 10) rfl))) (by decide) (backOf (W := 2) (rm2 l Z av0 hw [] ((own_ushr (own_f1_16 q2) (8 : Int32)) &&& (3 : Int32)) (((own_ushrL q1 (12 : Int32)) ^^^ (own_shlL q2 (12 : Int32))) &&& (281474976710655 : Int64)) (281474976645118 : Int64) (281474976645119 : Int64) h20 n0 Zn20 ) hZ (hw _ (List.mem_of_getElem? (i := 10) rfl)) (hw _ (List.mem_of_getElem? (i := 2) rfl)) (by decide) (by decide)) (g := (mkF m 148 #[.val (.long q0), .second, .val (.long q1), .second, .val (.long q2), .second, .val (.long (4503599627370495 : Int64)), .second, .val (.long (281474976710655 : Int64)), .second, .val (.int (own_f1_16 q2)), .val (.ref b12)] [(.long (281474976645119 : Int64)), (.long (281474976645118 : Int64)), (.long (((own_ushrL q1 (12 : Int32)) ^^^ (own_shlL q2 (12 : Int32))) &&& (281474976710655 : Int64))), (.int ((own_ushr (own_f1_16 q2) (8 : Int32)) &&& (3 : Int32))), (.int (4 : Int32)), (.ref b12)])) rfl (by rw [hml]; rfl) (argsL := [(.int ((own_ushr (own_f1_16 q2) (8 : Int32)) &&& (3 : Int32))), (.long (((own_ushrL q1 (12 : Int32)) ^^^ (own_shlL q2 (12 : Int32))) &&& (281474976710655 : Int64))), (.long (281474976645118 : Int64)), (.long (281474976645119 : Int64))]) (rest := [(.int (4 : Int32)), (.ref b12)]) (lenOf own_pd16 rfl) rfl (by show 2 * 0 + _ ≤ _; exact Nat.le_of_eq rfl) (hb hby own_d1_148) (fun _ _ => ⟨rfl, e20, (by decide : 1 + 0 ≤ _), (by decide : 5 + 0 ≤ _)⟩)
  dsimp only [Pt.U, Pt.locs, Pt.cells, Pt.slots] at X21 lq21 yq21 zq21 st21 hQ21
  subst lq21 yq21 zq21
  obtain ⟨rfl, N21q, e21⟩ := hQ21
  have N21 := Fr.app N20 N21q
  refine own_step st21 ?_
  show own_Run p e below T21 (mkF m 151 #[.val (.long q0), .second, .val (.long q1), .second, .val (.long q2), .second, .val (.long (4503599627370495 : Int64)), .second, .val (.long (281474976710655 : Int64)), .second, .val (.int (own_f1_16 q2)), .val (.ref b12)] [(.long (own_r2 ((own_ushr (own_f1_16 q2) (8 : Int32)) &&& (3 : Int32)) (((own_ushrL q1 (12 : Int32)) ^^^ (own_shlL q2 (12 : Int32))) &&& (281474976710655 : Int64)) (281474976645118 : Int64) (281474976645119 : Int64))), (.int (4 : Int32)), (.ref b12)]) _
  obtain ⟨T22, h22, L22, X22, e22, N22, W22, V22, st22⟩ := own_stJ X21 hx hZ e21 V20x N21 geb12 (j := (4 : Int32)) ⟨by decide, by decide⟩ 4 rfl (Nat.le_of_ble_eq_true rfl) (g := (mkF m 151 #[.val (.long q0), .second, .val (.long q1), .second, .val (.long q2), .second, .val (.long (4503599627370495 : Int64)), .second, .val (.long (281474976710655 : Int64)), .second, .val (.int (own_f1_16 q2)), .val (.ref b12)] [(.long (own_r2 ((own_ushr (own_f1_16 q2) (8 : Int32)) &&& (3 : Int32)) (((own_ushrL q1 (12 : Int32)) ^^^ (own_shlL q2 (12 : Int32))) &&& (281474976710655 : Int64)) (281474976645118 : Int64) (281474976645119 : Int64))), (.int (4 : Int32)), (.ref b12)])) rfl rfl (hb hby own_d1_151)
  have V22x : Arv Z h22 b12 k12 .long (5 : Int32) [(.long (own_f1_42v q2 q0)), (.long (own_f1_64v q2 q1)), (.long (own_f1_87v q2)), (.long (own_f1_118v q2 q0 q1)), (.long (own_f1_151v q2 q1))] (.long (0 : Int64)) := V22
  have Zn22 : n0 ≤ h22.size := Nat.le_trans Zn20 (Keep.of_wr W22).1
  have K22 : Keep h0 h22 [] := K20.wr W22 (Or.inr szb12)
  refine own_step st22 ?_
  show own_Run p e below T22 (mkF m 152 #[.val (.long q0), .second, .val (.long q1), .second, .val (.long q2), .second, .val (.long (4503599627370495 : Int64)), .second, .val (.long (281474976710655 : Int64)), .second, .val (.int (own_f1_16 q2)), .val (.ref b12)] []) _
  refine own_step (fun t k => XS.aload X22.here hx rfl (hb hby own_d1_152) rfl rfl k) ?_
  subst g12
  exact own_retA X22 hx hlk hret rfl rfl (hb hby own_d1_154) (by decide) (by decide) N22 (by rw [e22]; exact ⟨K22, _, V22x⟩)
theorem own_d4_0 : decode method_6_code 0 = .ok (.ldc2_w 28, 3) := by decide +kernel
theorem own_d4_3 : decode method_6_code 3 = .ok (.lstore_n 1, 1) := by decide +kernel
theorem own_d4_4 : decode method_6_code 4 = .ok (.ldc2_w 38, 3) := by decide +kernel
theorem own_d4_7 : decode method_6_code 7 = .ok (.lstore_n 3, 1) := by decide +kernel
theorem own_d4_8 : decode method_6_code 8 = .ok (.ldc2_w 42, 3) := by decide +kernel
theorem own_d4_11 : decode method_6_code 11 = .ok (.lstore 5, 2) := by decide +kernel
theorem own_d4_13 : decode method_6_code 13 = .ok (.aload_n 0, 1) := by decide +kernel
theorem own_d4_14 : decode method_6_code 14 = .ok (.iconst 4, 1) := by decide +kernel
theorem own_d4_15 : decode method_6_code 15 = .ok (.laload, 1) := by decide +kernel
theorem own_d4_16 : decode method_6_code 16 = .ok (.lload 5, 2) := by decide +kernel
theorem own_d4_18 : decode method_6_code 18 = .ok (.lcmp, 1) := by decide +kernel
theorem own_d4_19 : decode method_6_code 19 = .ok (.ifCond .eq 18, 3) := by decide +kernel
theorem own_d4_22 : decode method_6_code 22 = .ok (.aload_n 0, 1) := by decide +kernel
theorem own_d4_23 : decode method_6_code 23 = .ok (.iconst 4, 1) := by decide +kernel
theorem own_d4_24 : decode method_6_code 24 = .ok (.laload, 1) := by decide +kernel
theorem own_d4_25 : decode method_6_code 25 = .ok (.lload 5, 2) := by decide +kernel
theorem own_d4_27 : decode method_6_code 27 = .ok (.lcmp, 1) := by decide +kernel
theorem own_d4_28 : decode method_6_code 28 = .ok (.ifCond .ge 7, 3) := by decide +kernel
theorem own_d4_31 : decode method_6_code 31 = .ok (.iconst 1, 1) := by decide +kernel
theorem own_d4_32 : decode method_6_code 32 = .ok (.goto 4, 3) := by decide +kernel
theorem own_d4_35 : decode method_6_code 35 = .ok (.iconst 0, 1) := by decide +kernel
theorem own_d4_36 : decode method_6_code 36 = .ok (.ireturn, 1) := by decide +kernel
theorem own_d4_37 : decode method_6_code 37 = .ok (.aload_n 0, 1) := by decide +kernel
theorem own_d4_38 : decode method_6_code 38 = .ok (.iconst 3, 1) := by decide +kernel
theorem own_d4_39 : decode method_6_code 39 = .ok (.laload, 1) := by decide +kernel
theorem own_d4_40 : decode method_6_code 40 = .ok (.lload_n 1, 1) := by decide +kernel
theorem own_d4_41 : decode method_6_code 41 = .ok (.lcmp, 1) := by decide +kernel
theorem own_d4_42 : decode method_6_code 42 = .ok (.ifCond .eq 17, 3) := by decide +kernel
theorem own_d4_45 : decode method_6_code 45 = .ok (.aload_n 0, 1) := by decide +kernel
theorem own_d4_46 : decode method_6_code 46 = .ok (.iconst 3, 1) := by decide +kernel
theorem own_d4_47 : decode method_6_code 47 = .ok (.laload, 1) := by decide +kernel
theorem own_d4_48 : decode method_6_code 48 = .ok (.lload_n 1, 1) := by decide +kernel
theorem own_d4_49 : decode method_6_code 49 = .ok (.lcmp, 1) := by decide +kernel
theorem own_d4_50 : decode method_6_code 50 = .ok (.ifCond .ge 7, 3) := by decide +kernel
theorem own_d4_53 : decode method_6_code 53 = .ok (.iconst 1, 1) := by decide +kernel
theorem own_d4_54 : decode method_6_code 54 = .ok (.goto 4, 3) := by decide +kernel
theorem own_d4_57 : decode method_6_code 57 = .ok (.iconst 0, 1) := by decide +kernel
theorem own_d4_58 : decode method_6_code 58 = .ok (.ireturn, 1) := by decide +kernel
theorem own_d4_59 : decode method_6_code 59 = .ok (.aload_n 0, 1) := by decide +kernel
theorem own_d4_60 : decode method_6_code 60 = .ok (.iconst 2, 1) := by decide +kernel
theorem own_d4_61 : decode method_6_code 61 = .ok (.laload, 1) := by decide +kernel
theorem own_d4_62 : decode method_6_code 62 = .ok (.lload_n 1, 1) := by decide +kernel
theorem own_d4_63 : decode method_6_code 63 = .ok (.lcmp, 1) := by decide +kernel
theorem own_d4_64 : decode method_6_code 64 = .ok (.ifCond .eq 17, 3) := by decide +kernel
theorem own_d4_67 : decode method_6_code 67 = .ok (.aload_n 0, 1) := by decide +kernel
theorem own_d4_68 : decode method_6_code 68 = .ok (.iconst 2, 1) := by decide +kernel
theorem own_d4_69 : decode method_6_code 69 = .ok (.laload, 1) := by decide +kernel
theorem own_d4_70 : decode method_6_code 70 = .ok (.lload_n 1, 1) := by decide +kernel
theorem own_d4_71 : decode method_6_code 71 = .ok (.lcmp, 1) := by decide +kernel
theorem own_d4_72 : decode method_6_code 72 = .ok (.ifCond .ge 7, 3) := by decide +kernel
theorem own_d4_75 : decode method_6_code 75 = .ok (.iconst 1, 1) := by decide +kernel
theorem own_d4_76 : decode method_6_code 76 = .ok (.goto 4, 3) := by decide +kernel
theorem own_d4_79 : decode method_6_code 79 = .ok (.iconst 0, 1) := by decide +kernel
theorem own_d4_80 : decode method_6_code 80 = .ok (.ireturn, 1) := by decide +kernel
theorem own_d4_81 : decode method_6_code 81 = .ok (.aload_n 0, 1) := by decide +kernel
theorem own_d4_82 : decode method_6_code 82 = .ok (.iconst 1, 1) := by decide +kernel
theorem own_d4_83 : decode method_6_code 83 = .ok (.laload, 1) := by decide +kernel
theorem own_d4_84 : decode method_6_code 84 = .ok (.lload_n 3, 1) := by decide +kernel
theorem own_d4_85 : decode method_6_code 85 = .ok (.lcmp, 1) := by decide +kernel
theorem own_d4_86 : decode method_6_code 86 = .ok (.ifCond .eq 17, 3) := by decide +kernel
theorem own_d4_89 : decode method_6_code 89 = .ok (.aload_n 0, 1) := by decide +kernel
theorem own_d4_90 : decode method_6_code 90 = .ok (.iconst 1, 1) := by decide +kernel
theorem own_d4_91 : decode method_6_code 91 = .ok (.laload, 1) := by decide +kernel
theorem own_d4_92 : decode method_6_code 92 = .ok (.lload_n 3, 1) := by decide +kernel
theorem own_d4_93 : decode method_6_code 93 = .ok (.lcmp, 1) := by decide +kernel
theorem own_d4_94 : decode method_6_code 94 = .ok (.ifCond .ge 7, 3) := by decide +kernel
theorem own_d4_97 : decode method_6_code 97 = .ok (.iconst 1, 1) := by decide +kernel
theorem own_d4_98 : decode method_6_code 98 = .ok (.goto 4, 3) := by decide +kernel
theorem own_d4_101 : decode method_6_code 101 = .ok (.iconst 0, 1) := by decide +kernel
theorem own_d4_102 : decode method_6_code 102 = .ok (.ireturn, 1) := by decide +kernel
theorem own_d4_103 : decode method_6_code 103 = .ok (.aload_n 0, 1) := by decide +kernel
theorem own_d4_104 : decode method_6_code 104 = .ok (.iconst 0, 1) := by decide +kernel
theorem own_d4_105 : decode method_6_code 105 = .ok (.laload, 1) := by decide +kernel
theorem own_d4_106 : decode method_6_code 106 = .ok (.lload_n 1, 1) := by decide +kernel
theorem own_d4_107 : decode method_6_code 107 = .ok (.lcmp, 1) := by decide +kernel
theorem own_d4_108 : decode method_6_code 108 = .ok (.ifCond .ge 7, 3) := by decide +kernel
theorem own_d4_111 : decode method_6_code 111 = .ok (.iconst 1, 1) := by decide +kernel
theorem own_d4_112 : decode method_6_code 112 = .ok (.goto 4, 3) := by decide +kernel
theorem own_d4_115 : decode method_6_code 115 = .ok (.iconst 0, 1) := by decide +kernel
theorem own_d4_116 : decode method_6_code 116 = .ok (.ireturn, 1) := by decide +kernel
def own_r4 (v0 : Int64) (v1 : Int64) (v2 : Int64) (v3 : Int64) (v4 : Int64) : Int32 := (if (lcmpW v4 (281474976645119 : Int64)) = (0 : Int32) then (if (lcmpW v3 (4503599627370495 : Int64)) = (0 : Int32) then (if (lcmpW v2 (4503599627370495 : Int64)) = (0 : Int32) then (if (lcmpW v1 (4486007441330175 : Int64)) = (0 : Int32) then (if (lcmpW v0 (4503599627370495 : Int64)) < (0 : Int32) then (1 : Int32) else (0 : Int32)) else (if (lcmpW v1 (4486007441330175 : Int64)) < (0 : Int32) then (1 : Int32) else (0 : Int32))) else (if (lcmpW v2 (4503599627370495 : Int64)) < (0 : Int32) then (1 : Int32) else (0 : Int32))) else (if (lcmpW v3 (4503599627370495 : Int64)) < (0 : Int32) then (1 : Int32) else (0 : Int32))) else (if (lcmpW v4 (281474976645119 : Int64)) < (0 : Int32) then (1 : Int32) else (0 : Int32)))
theorem own_ef4 (m : MethodId) (a0 : Addr) : entryFrame m #[(.ref a0)] 7 = (mkF m 0 #[.val (.ref a0), .unset, .unset, .unset, .unset, .unset, .unset] []) := by first | (simp [entryFrame, mkF, argsToLocals, Value.category]; done) | rfl
set_option maxRecDepth 65536 in
set_option maxHeartbeats 40000000 in
theorem rm4 (l : Launch) (Z : State) (av0 : Array Value) (hw : ∀ d ∈ tables_1, d.before av0 Z = true) (ws : List Jvm.Cond) (a0 : Addr) (k0 : ClassId) (v0 : Int64) (v1 : Int64) (v2 : Int64) (v3 : Int64) (v4 : Int64) (h0 : Heap) (n0 : Nat) (Z0 : n0 ≤ h0.size) (V0 : Arv Z h0 a0 k0 .long (5 : Int32) [(.long v0), (.long v1), (.long v2), (.long v3), (.long v4)] (.long (0 : Int64))) :
    MetFree l (⟨"com/example/rxrelay/rxrelay/protocol/gm/Sm2FieldSubtractPinLaw", "belowP", "([J)Z"⟩ : MethodName) (head1 (Jvm.Cond.code (⟨"com/example/rxrelay/rxrelay/protocol/gm/Sm2FieldSubtractPinLaw", "belowP", "([J)Z"⟩ : MethodName) method_6_code 7 (some .boolean) :: ws) ({ frames := 0, cells := 0, slots := 0, locals := 0 } : Room)) (fun a U => a = #[(.ref a0)] ∧ Z.Warmed39 U.vm ∧ U.heap = h0) (fun _ _ _ _ _ => True) (fun _ U o U' => ∃ v L, o = .returned v ∧ own_Q n0 (fun h => h = h0) (some (.int (own_r4 v0 v1 v2 v3 v4))) v U'.heap L ∧ FrameEnd U o U' L ({ frames := 0, cells := 0, slots := 0, locals := 0 } : Room).cells ({ frames := 0, cells := 0, slots := 0, locals := 0 } : Room).slots) := by
  refine MetFree.of_bodySF (plainFor_of_name own_pn0) hisR ?_
  intro p e s m args below meth c s₁ Bd hml0 hP hK
  obtain ⟨rfl, hZ, hh⟩ := hP
  have hx := Bd.exec
  have hby := Bd.bytes
  have hml : c.maxLocals = 7 := hml0
  have hown : s.vm.findClass "com/example/rxrelay/rxrelay/protocol/gm/Sm2FieldSubtractPinLaw" = some m.cls := findClass_of_methodNamed Bd.named
  have hnm := (name_of_methodNamed Bd.named Bd.method).1
  have hret := Bd.returns
  have hlk : meth.locks = false := BodyLoose.notSynchronized Bd
  have X0 : Stand p l e ({ frames := 0, cells := 0, slots := 0, locals := 0 } : Room) s m #[(.ref a0)] below meth c s₁ [] 0 0 := Stand.of_body Bd
  have e0 : s₁.heap = h0 := by rw [← hh, Bd.state]; rfl
  have N0 := Fr.nil n0
  clear Bd hh hK
  refine own_fin ?_
  refine own_entry (own_ef4 m a0) ?_
  show own_Run p e below s₁ _ (own_Ret _ s below _ _ (own_Q n0 _ (some (.int (if (lcmpW v4 (281474976645119 : Int64)) = (0 : Int32) then (if (lcmpW v3 (4503599627370495 : Int64)) = (0 : Int32) then (if (lcmpW v2 (4503599627370495 : Int64)) = (0 : Int32) then (if (lcmpW v1 (4486007441330175 : Int64)) = (0 : Int32) then (if (lcmpW v0 (4503599627370495 : Int64)) < (0 : Int32) then (1 : Int32) else (0 : Int32)) else (if (lcmpW v1 (4486007441330175 : Int64)) < (0 : Int32) then (1 : Int32) else (0 : Int32))) else (if (lcmpW v2 (4503599627370495 : Int64)) < (0 : Int32) then (1 : Int32) else (0 : Int32))) else (if (lcmpW v3 (4503599627370495 : Int64)) < (0 : Int32) then (1 : Int32) else (0 : Int32))) else (if (lcmpW v4 (281474976645119 : Int64)) < (0 : Int32) then (1 : Int32) else (0 : Int32)))))))
  show own_Run p e below s₁ (mkF m 0 #[.val (.ref a0), .unset, .unset, .unset, .unset, .unset, .unset] []) _
  refine own_step (fun t k => X0.ldc2Long hx hown (mvT hZ (hw _ (List.mem_of_getElem? (i := 4) rfl))) (g := (mkF m 0 #[.val (.ref a0), .unset, .unset, .unset, .unset, .unset, .unset] [])) rfl (hb hby own_d4_0) t k) ?_
  show own_Run p e below s₁ (mkF m 3 #[.val (.ref a0), .unset, .unset, .unset, .unset, .unset, .unset] [(.long (4503599627370495 : Int64))]) _
  refine own_step (fun t k => XS.lstoreN X0.here hx rfl (hb hby own_d4_3) rfl (l' := #[.val (.ref a0), .val (.long (4503599627370495 : Int64)), .second, .unset, .unset, .unset, .unset]) rfl k) ?_
  show own_Run p e below s₁ (mkF m 4 #[.val (.ref a0), .val (.long (4503599627370495 : Int64)), .second, .unset, .unset, .unset, .unset] []) _
  refine own_step (fun t k => X0.ldc2Long hx hown (mvT hZ (hw _ (List.mem_of_getElem? (i := 11) rfl))) (g := (mkF m 4 #[.val (.ref a0), .val (.long (4503599627370495 : Int64)), .second, .unset, .unset, .unset, .unset] [])) rfl (hb hby own_d4_4) t k) ?_
  show own_Run p e below s₁ (mkF m 7 #[.val (.ref a0), .val (.long (4503599627370495 : Int64)), .second, .unset, .unset, .unset, .unset] [(.long (4486007441330175 : Int64))]) _
  refine own_step (fun t k => XS.lstoreN X0.here hx rfl (hb hby own_d4_7) rfl (l' := #[.val (.ref a0), .val (.long (4503599627370495 : Int64)), .second, .val (.long (4486007441330175 : Int64)), .second, .unset, .unset]) rfl k) ?_
  show own_Run p e below s₁ (mkF m 8 #[.val (.ref a0), .val (.long (4503599627370495 : Int64)), .second, .val (.long (4486007441330175 : Int64)), .second, .unset, .unset] []) _
  refine own_step (fun t k => X0.ldc2Long hx hown (mvT hZ (hw _ (List.mem_of_getElem? (i := 13) rfl))) (g := (mkF m 8 #[.val (.ref a0), .val (.long (4503599627370495 : Int64)), .second, .val (.long (4486007441330175 : Int64)), .second, .unset, .unset] [])) rfl (hb hby own_d4_8) t k) ?_
  show own_Run p e below s₁ (mkF m 11 #[.val (.ref a0), .val (.long (4503599627370495 : Int64)), .second, .val (.long (4486007441330175 : Int64)), .second, .unset, .unset] [(.long (281474976645119 : Int64))]) _
  refine own_step (fun t k => XS.lstore X0.here hx rfl (hb hby own_d4_11) rfl (l' := #[.val (.ref a0), .val (.long (4503599627370495 : Int64)), .second, .val (.long (4486007441330175 : Int64)), .second, .val (.long (281474976645119 : Int64)), .second]) rfl k) ?_
  show own_Run p e below s₁ (mkF m 13 #[.val (.ref a0), .val (.long (4503599627370495 : Int64)), .second, .val (.long (4486007441330175 : Int64)), .second, .val (.long (281474976645119 : Int64)), .second] []) _
  refine own_step (fun t k => XS.aloadN X0.here hx rfl (hb hby own_d4_13) rfl rfl k) ?_
  refine own_step (fun t k => XS.iconst X0.here hx rfl (hb hby own_d4_14) k) ?_
  refine own_step (own_ldJ X0 hx hZ e0 V0 (j := (4 : Int32)) (v := (.long v4)) ⟨by decide, by decide⟩ rfl (g := (mkF m 15 #[.val (.ref a0), .val (.long (4503599627370495 : Int64)), .second, .val (.long (4486007441330175 : Int64)), .second, .val (.long (281474976645119 : Int64)), .second] [(.int (4 : Int32)), (.ref a0)])) rfl rfl (hb hby own_d4_15)) ?_
  show own_Run p e below s₁ (mkF m 16 #[.val (.ref a0), .val (.long (4503599627370495 : Int64)), .second, .val (.long (4486007441330175 : Int64)), .second, .val (.long (281474976645119 : Int64)), .second] [(.long v4)]) _
  refine own_step (fun t k => XS.lload X0.here hx rfl (hb hby own_d4_16) rfl  k) ?_
  refine own_step (fun t k => XS.lcmp X0.here hx rfl (hb hby own_d4_18) rfl k) ?_
  show own_Run p e below s₁ (mkF m 19 #[.val (.ref a0), .val (.long (4503599627370495 : Int64)), .second, .val (.long (4486007441330175 : Int64)), .second, .val (.long (281474976645119 : Int64)), .second] [(.int (lcmpW v4 (281474976645119 : Int64)))]) _
  by_cases hc10 : (lcmpW v4 (281474976645119 : Int64)) = (0 : Int32)
  · refine own_vi (if_pos hc10) ?_
    refine own_step (fun t k => XS.ifYes X0.here hx rfl (pc0 := 19) (pc' := 37) rfl (hb hby own_d4_19) rfl ((if0 _ _).trans (teq hc10).1) (by decide) (by decide) k) ?_
    show own_Run p e below s₁ (mkF m 37 #[.val (.ref a0), .val (.long (4503599627370495 : Int64)), .second, .val (.long (4486007441330175 : Int64)), .second, .val (.long (281474976645119 : Int64)), .second] []) _
    refine own_step (fun t k => XS.aloadN X0.here hx rfl (hb hby own_d4_37) rfl rfl k) ?_
    refine own_step (fun t k => XS.iconst X0.here hx rfl (hb hby own_d4_38) k) ?_
    refine own_step (own_ldJ X0 hx hZ e0 V0 (j := (3 : Int32)) (v := (.long v3)) ⟨by decide, by decide⟩ rfl (g := (mkF m 39 #[.val (.ref a0), .val (.long (4503599627370495 : Int64)), .second, .val (.long (4486007441330175 : Int64)), .second, .val (.long (281474976645119 : Int64)), .second] [(.int (3 : Int32)), (.ref a0)])) rfl rfl (hb hby own_d4_39)) ?_
    show own_Run p e below s₁ (mkF m 40 #[.val (.ref a0), .val (.long (4503599627370495 : Int64)), .second, .val (.long (4486007441330175 : Int64)), .second, .val (.long (281474976645119 : Int64)), .second] [(.long v3)]) _
    refine own_step (fun t k => XS.lloadN X0.here hx rfl (hb hby own_d4_40) rfl  k) ?_
    refine own_step (fun t k => XS.lcmp X0.here hx rfl (hb hby own_d4_41) rfl k) ?_
    show own_Run p e below s₁ (mkF m 42 #[.val (.ref a0), .val (.long (4503599627370495 : Int64)), .second, .val (.long (4486007441330175 : Int64)), .second, .val (.long (281474976645119 : Int64)), .second] [(.int (lcmpW v3 (4503599627370495 : Int64)))]) _
    by_cases hc11 : (lcmpW v3 (4503599627370495 : Int64)) = (0 : Int32)
    · refine own_vi (if_pos hc11) ?_
      refine own_step (fun t k => XS.ifYes X0.here hx rfl (pc0 := 42) (pc' := 59) rfl (hb hby own_d4_42) rfl ((if0 _ _).trans (teq hc11).1) (by decide) (by decide) k) ?_
      show own_Run p e below s₁ (mkF m 59 #[.val (.ref a0), .val (.long (4503599627370495 : Int64)), .second, .val (.long (4486007441330175 : Int64)), .second, .val (.long (281474976645119 : Int64)), .second] []) _
      refine own_step (fun t k => XS.aloadN X0.here hx rfl (hb hby own_d4_59) rfl rfl k) ?_
      refine own_step (fun t k => XS.iconst X0.here hx rfl (hb hby own_d4_60) k) ?_
      refine own_step (own_ldJ X0 hx hZ e0 V0 (j := (2 : Int32)) (v := (.long v2)) ⟨by decide, by decide⟩ rfl (g := (mkF m 61 #[.val (.ref a0), .val (.long (4503599627370495 : Int64)), .second, .val (.long (4486007441330175 : Int64)), .second, .val (.long (281474976645119 : Int64)), .second] [(.int (2 : Int32)), (.ref a0)])) rfl rfl (hb hby own_d4_61)) ?_
      show own_Run p e below s₁ (mkF m 62 #[.val (.ref a0), .val (.long (4503599627370495 : Int64)), .second, .val (.long (4486007441330175 : Int64)), .second, .val (.long (281474976645119 : Int64)), .second] [(.long v2)]) _
      refine own_step (fun t k => XS.lloadN X0.here hx rfl (hb hby own_d4_62) rfl  k) ?_
      refine own_step (fun t k => XS.lcmp X0.here hx rfl (hb hby own_d4_63) rfl k) ?_
      show own_Run p e below s₁ (mkF m 64 #[.val (.ref a0), .val (.long (4503599627370495 : Int64)), .second, .val (.long (4486007441330175 : Int64)), .second, .val (.long (281474976645119 : Int64)), .second] [(.int (lcmpW v2 (4503599627370495 : Int64)))]) _
      by_cases hc12 : (lcmpW v2 (4503599627370495 : Int64)) = (0 : Int32)
      · refine own_vi (if_pos hc12) ?_
        refine own_step (fun t k => XS.ifYes X0.here hx rfl (pc0 := 64) (pc' := 81) rfl (hb hby own_d4_64) rfl ((if0 _ _).trans (teq hc12).1) (by decide) (by decide) k) ?_
        show own_Run p e below s₁ (mkF m 81 #[.val (.ref a0), .val (.long (4503599627370495 : Int64)), .second, .val (.long (4486007441330175 : Int64)), .second, .val (.long (281474976645119 : Int64)), .second] []) _
        refine own_step (fun t k => XS.aloadN X0.here hx rfl (hb hby own_d4_81) rfl rfl k) ?_
        refine own_step (fun t k => XS.iconst X0.here hx rfl (hb hby own_d4_82) k) ?_
        refine own_step (own_ldJ X0 hx hZ e0 V0 (j := (1 : Int32)) (v := (.long v1)) ⟨by decide, by decide⟩ rfl (g := (mkF m 83 #[.val (.ref a0), .val (.long (4503599627370495 : Int64)), .second, .val (.long (4486007441330175 : Int64)), .second, .val (.long (281474976645119 : Int64)), .second] [(.int (1 : Int32)), (.ref a0)])) rfl rfl (hb hby own_d4_83)) ?_
        show own_Run p e below s₁ (mkF m 84 #[.val (.ref a0), .val (.long (4503599627370495 : Int64)), .second, .val (.long (4486007441330175 : Int64)), .second, .val (.long (281474976645119 : Int64)), .second] [(.long v1)]) _
        refine own_step (fun t k => XS.lloadN X0.here hx rfl (hb hby own_d4_84) rfl  k) ?_
        refine own_step (fun t k => XS.lcmp X0.here hx rfl (hb hby own_d4_85) rfl k) ?_
        show own_Run p e below s₁ (mkF m 86 #[.val (.ref a0), .val (.long (4503599627370495 : Int64)), .second, .val (.long (4486007441330175 : Int64)), .second, .val (.long (281474976645119 : Int64)), .second] [(.int (lcmpW v1 (4486007441330175 : Int64)))]) _
        by_cases hc13 : (lcmpW v1 (4486007441330175 : Int64)) = (0 : Int32)
        · refine own_vi (if_pos hc13) ?_
          refine own_step (fun t k => XS.ifYes X0.here hx rfl (pc0 := 86) (pc' := 103) rfl (hb hby own_d4_86) rfl ((if0 _ _).trans (teq hc13).1) (by decide) (by decide) k) ?_
          show own_Run p e below s₁ (mkF m 103 #[.val (.ref a0), .val (.long (4503599627370495 : Int64)), .second, .val (.long (4486007441330175 : Int64)), .second, .val (.long (281474976645119 : Int64)), .second] []) _
          refine own_step (fun t k => XS.aloadN X0.here hx rfl (hb hby own_d4_103) rfl rfl k) ?_
          refine own_step (fun t k => XS.iconst X0.here hx rfl (hb hby own_d4_104) k) ?_
          refine own_step (own_ldJ X0 hx hZ e0 V0 (j := (0 : Int32)) (v := (.long v0)) ⟨by decide, by decide⟩ rfl (g := (mkF m 105 #[.val (.ref a0), .val (.long (4503599627370495 : Int64)), .second, .val (.long (4486007441330175 : Int64)), .second, .val (.long (281474976645119 : Int64)), .second] [(.int (0 : Int32)), (.ref a0)])) rfl rfl (hb hby own_d4_105)) ?_
          show own_Run p e below s₁ (mkF m 106 #[.val (.ref a0), .val (.long (4503599627370495 : Int64)), .second, .val (.long (4486007441330175 : Int64)), .second, .val (.long (281474976645119 : Int64)), .second] [(.long v0)]) _
          refine own_step (fun t k => XS.lloadN X0.here hx rfl (hb hby own_d4_106) rfl  k) ?_
          refine own_step (fun t k => XS.lcmp X0.here hx rfl (hb hby own_d4_107) rfl k) ?_
          show own_Run p e below s₁ (mkF m 108 #[.val (.ref a0), .val (.long (4503599627370495 : Int64)), .second, .val (.long (4486007441330175 : Int64)), .second, .val (.long (281474976645119 : Int64)), .second] [(.int (lcmpW v0 (4503599627370495 : Int64)))]) _
          by_cases hc14 : (lcmpW v0 (4503599627370495 : Int64)) < (0 : Int32)
          · refine own_vi (if_pos hc14) ?_
            refine own_step (fun t k => XS.ifNo X0.here hx rfl (hb hby own_d4_108) rfl ((if0 _ _).trans (tlt hc14).2.1) k) ?_
            show own_Run p e below s₁ (mkF m 111 #[.val (.ref a0), .val (.long (4503599627370495 : Int64)), .second, .val (.long (4486007441330175 : Int64)), .second, .val (.long (281474976645119 : Int64)), .second] []) _
            refine own_step (fun t k => XS.iconst X0.here hx rfl (hb hby own_d4_111) k) ?_
            show own_Run p e below s₁ (mkF m 112 #[.val (.ref a0), .val (.long (4503599627370495 : Int64)), .second, .val (.long (4486007441330175 : Int64)), .second, .val (.long (281474976645119 : Int64)), .second] [(.int (1 : Int32))]) _
            refine own_step (fun t k => XS.goto X0.here hx rfl (pc0 := 112) (pc' := 116) rfl (hb hby own_d4_112) (by decide) (by decide) k) ?_
            show own_Run p e below s₁ (mkF m 116 #[.val (.ref a0), .val (.long (4503599627370495 : Int64)), .second, .val (.long (4486007441330175 : Int64)), .second, .val (.long (281474976645119 : Int64)), .second] [(.int (1 : Int32))]) _
            exact own_retZ X0 hx hlk hret (hb hby own_d4_116) (by decide) (by decide) N0 e0
          · refine own_vi (if_neg hc14) ?_
            refine own_step (fun t k => XS.ifYes X0.here hx rfl (pc0 := 108) (pc' := 115) rfl (hb hby own_d4_108) rfl ((if0 _ _).trans (flt hc14).2.1) (by decide) (by decide) k) ?_
            show own_Run p e below s₁ (mkF m 115 #[.val (.ref a0), .val (.long (4503599627370495 : Int64)), .second, .val (.long (4486007441330175 : Int64)), .second, .val (.long (281474976645119 : Int64)), .second] []) _
            refine own_step (fun t k => XS.iconst X0.here hx rfl (hb hby own_d4_115) k) ?_
            exact own_retZ X0 hx hlk hret (hb hby own_d4_116) (by decide) (by decide) N0 e0
        · refine own_vi (if_neg hc13) ?_
          refine own_step (fun t k => XS.ifNo X0.here hx rfl (hb hby own_d4_86) rfl ((if0 _ _).trans (feq hc13).1) k) ?_
          show own_Run p e below s₁ (mkF m 89 #[.val (.ref a0), .val (.long (4503599627370495 : Int64)), .second, .val (.long (4486007441330175 : Int64)), .second, .val (.long (281474976645119 : Int64)), .second] []) _
          refine own_step (fun t k => XS.aloadN X0.here hx rfl (hb hby own_d4_89) rfl rfl k) ?_
          refine own_step (fun t k => XS.iconst X0.here hx rfl (hb hby own_d4_90) k) ?_
          show own_Run p e below s₁ (mkF m 91 #[.val (.ref a0), .val (.long (4503599627370495 : Int64)), .second, .val (.long (4486007441330175 : Int64)), .second, .val (.long (281474976645119 : Int64)), .second] [(.int (1 : Int32)), (.ref a0)]) _
          refine own_step (own_ldJ X0 hx hZ e0 V0 (j := (1 : Int32)) (v := (.long v1)) ⟨by decide, by decide⟩ rfl (g := (mkF m 91 #[.val (.ref a0), .val (.long (4503599627370495 : Int64)), .second, .val (.long (4486007441330175 : Int64)), .second, .val (.long (281474976645119 : Int64)), .second] [(.int (1 : Int32)), (.ref a0)])) rfl rfl (hb hby own_d4_91)) ?_
          show own_Run p e below s₁ (mkF m 92 #[.val (.ref a0), .val (.long (4503599627370495 : Int64)), .second, .val (.long (4486007441330175 : Int64)), .second, .val (.long (281474976645119 : Int64)), .second] [(.long v1)]) _
          refine own_step (fun t k => XS.lloadN X0.here hx rfl (hb hby own_d4_92) rfl  k) ?_
          refine own_step (fun t k => XS.lcmp X0.here hx rfl (hb hby own_d4_93) rfl k) ?_
          show own_Run p e below s₁ (mkF m 94 #[.val (.ref a0), .val (.long (4503599627370495 : Int64)), .second, .val (.long (4486007441330175 : Int64)), .second, .val (.long (281474976645119 : Int64)), .second] [(.int (lcmpW v1 (4486007441330175 : Int64)))]) _
          by_cases hc15 : (lcmpW v1 (4486007441330175 : Int64)) < (0 : Int32)
          · refine own_vi (if_pos hc15) ?_
            refine own_step (fun t k => XS.ifNo X0.here hx rfl (hb hby own_d4_94) rfl ((if0 _ _).trans (tlt hc15).2.1) k) ?_
            show own_Run p e below s₁ (mkF m 97 #[.val (.ref a0), .val (.long (4503599627370495 : Int64)), .second, .val (.long (4486007441330175 : Int64)), .second, .val (.long (281474976645119 : Int64)), .second] []) _
            refine own_step (fun t k => XS.iconst X0.here hx rfl (hb hby own_d4_97) k) ?_
            show own_Run p e below s₁ (mkF m 98 #[.val (.ref a0), .val (.long (4503599627370495 : Int64)), .second, .val (.long (4486007441330175 : Int64)), .second, .val (.long (281474976645119 : Int64)), .second] [(.int (1 : Int32))]) _
            refine own_step (fun t k => XS.goto X0.here hx rfl (pc0 := 98) (pc' := 102) rfl (hb hby own_d4_98) (by decide) (by decide) k) ?_
            show own_Run p e below s₁ (mkF m 102 #[.val (.ref a0), .val (.long (4503599627370495 : Int64)), .second, .val (.long (4486007441330175 : Int64)), .second, .val (.long (281474976645119 : Int64)), .second] [(.int (1 : Int32))]) _
            exact own_retZ X0 hx hlk hret (hb hby own_d4_102) (by decide) (by decide) N0 e0
          · refine own_vi (if_neg hc15) ?_
            refine own_step (fun t k => XS.ifYes X0.here hx rfl (pc0 := 94) (pc' := 101) rfl (hb hby own_d4_94) rfl ((if0 _ _).trans (flt hc15).2.1) (by decide) (by decide) k) ?_
            show own_Run p e below s₁ (mkF m 101 #[.val (.ref a0), .val (.long (4503599627370495 : Int64)), .second, .val (.long (4486007441330175 : Int64)), .second, .val (.long (281474976645119 : Int64)), .second] []) _
            refine own_step (fun t k => XS.iconst X0.here hx rfl (hb hby own_d4_101) k) ?_
            exact own_retZ X0 hx hlk hret (hb hby own_d4_102) (by decide) (by decide) N0 e0
      · refine own_vi (if_neg hc12) ?_
        refine own_step (fun t k => XS.ifNo X0.here hx rfl (hb hby own_d4_64) rfl ((if0 _ _).trans (feq hc12).1) k) ?_
        show own_Run p e below s₁ (mkF m 67 #[.val (.ref a0), .val (.long (4503599627370495 : Int64)), .second, .val (.long (4486007441330175 : Int64)), .second, .val (.long (281474976645119 : Int64)), .second] []) _
        refine own_step (fun t k => XS.aloadN X0.here hx rfl (hb hby own_d4_67) rfl rfl k) ?_
        refine own_step (fun t k => XS.iconst X0.here hx rfl (hb hby own_d4_68) k) ?_
        show own_Run p e below s₁ (mkF m 69 #[.val (.ref a0), .val (.long (4503599627370495 : Int64)), .second, .val (.long (4486007441330175 : Int64)), .second, .val (.long (281474976645119 : Int64)), .second] [(.int (2 : Int32)), (.ref a0)]) _
        refine own_step (own_ldJ X0 hx hZ e0 V0 (j := (2 : Int32)) (v := (.long v2)) ⟨by decide, by decide⟩ rfl (g := (mkF m 69 #[.val (.ref a0), .val (.long (4503599627370495 : Int64)), .second, .val (.long (4486007441330175 : Int64)), .second, .val (.long (281474976645119 : Int64)), .second] [(.int (2 : Int32)), (.ref a0)])) rfl rfl (hb hby own_d4_69)) ?_
        show own_Run p e below s₁ (mkF m 70 #[.val (.ref a0), .val (.long (4503599627370495 : Int64)), .second, .val (.long (4486007441330175 : Int64)), .second, .val (.long (281474976645119 : Int64)), .second] [(.long v2)]) _
        refine own_step (fun t k => XS.lloadN X0.here hx rfl (hb hby own_d4_70) rfl  k) ?_
        refine own_step (fun t k => XS.lcmp X0.here hx rfl (hb hby own_d4_71) rfl k) ?_
        show own_Run p e below s₁ (mkF m 72 #[.val (.ref a0), .val (.long (4503599627370495 : Int64)), .second, .val (.long (4486007441330175 : Int64)), .second, .val (.long (281474976645119 : Int64)), .second] [(.int (lcmpW v2 (4503599627370495 : Int64)))]) _
        by_cases hc16 : (lcmpW v2 (4503599627370495 : Int64)) < (0 : Int32)
        · refine own_vi (if_pos hc16) ?_
          refine own_step (fun t k => XS.ifNo X0.here hx rfl (hb hby own_d4_72) rfl ((if0 _ _).trans (tlt hc16).2.1) k) ?_
          show own_Run p e below s₁ (mkF m 75 #[.val (.ref a0), .val (.long (4503599627370495 : Int64)), .second, .val (.long (4486007441330175 : Int64)), .second, .val (.long (281474976645119 : Int64)), .second] []) _
          refine own_step (fun t k => XS.iconst X0.here hx rfl (hb hby own_d4_75) k) ?_
          show own_Run p e below s₁ (mkF m 76 #[.val (.ref a0), .val (.long (4503599627370495 : Int64)), .second, .val (.long (4486007441330175 : Int64)), .second, .val (.long (281474976645119 : Int64)), .second] [(.int (1 : Int32))]) _
          refine own_step (fun t k => XS.goto X0.here hx rfl (pc0 := 76) (pc' := 80) rfl (hb hby own_d4_76) (by decide) (by decide) k) ?_
          show own_Run p e below s₁ (mkF m 80 #[.val (.ref a0), .val (.long (4503599627370495 : Int64)), .second, .val (.long (4486007441330175 : Int64)), .second, .val (.long (281474976645119 : Int64)), .second] [(.int (1 : Int32))]) _
          exact own_retZ X0 hx hlk hret (hb hby own_d4_80) (by decide) (by decide) N0 e0
        · refine own_vi (if_neg hc16) ?_
          refine own_step (fun t k => XS.ifYes X0.here hx rfl (pc0 := 72) (pc' := 79) rfl (hb hby own_d4_72) rfl ((if0 _ _).trans (flt hc16).2.1) (by decide) (by decide) k) ?_
          show own_Run p e below s₁ (mkF m 79 #[.val (.ref a0), .val (.long (4503599627370495 : Int64)), .second, .val (.long (4486007441330175 : Int64)), .second, .val (.long (281474976645119 : Int64)), .second] []) _
          refine own_step (fun t k => XS.iconst X0.here hx rfl (hb hby own_d4_79) k) ?_
          exact own_retZ X0 hx hlk hret (hb hby own_d4_80) (by decide) (by decide) N0 e0
    · refine own_vi (if_neg hc11) ?_
      refine own_step (fun t k => XS.ifNo X0.here hx rfl (hb hby own_d4_42) rfl ((if0 _ _).trans (feq hc11).1) k) ?_
      show own_Run p e below s₁ (mkF m 45 #[.val (.ref a0), .val (.long (4503599627370495 : Int64)), .second, .val (.long (4486007441330175 : Int64)), .second, .val (.long (281474976645119 : Int64)), .second] []) _
      refine own_step (fun t k => XS.aloadN X0.here hx rfl (hb hby own_d4_45) rfl rfl k) ?_
      refine own_step (fun t k => XS.iconst X0.here hx rfl (hb hby own_d4_46) k) ?_
      show own_Run p e below s₁ (mkF m 47 #[.val (.ref a0), .val (.long (4503599627370495 : Int64)), .second, .val (.long (4486007441330175 : Int64)), .second, .val (.long (281474976645119 : Int64)), .second] [(.int (3 : Int32)), (.ref a0)]) _
      refine own_step (own_ldJ X0 hx hZ e0 V0 (j := (3 : Int32)) (v := (.long v3)) ⟨by decide, by decide⟩ rfl (g := (mkF m 47 #[.val (.ref a0), .val (.long (4503599627370495 : Int64)), .second, .val (.long (4486007441330175 : Int64)), .second, .val (.long (281474976645119 : Int64)), .second] [(.int (3 : Int32)), (.ref a0)])) rfl rfl (hb hby own_d4_47)) ?_
      show own_Run p e below s₁ (mkF m 48 #[.val (.ref a0), .val (.long (4503599627370495 : Int64)), .second, .val (.long (4486007441330175 : Int64)), .second, .val (.long (281474976645119 : Int64)), .second] [(.long v3)]) _
      refine own_step (fun t k => XS.lloadN X0.here hx rfl (hb hby own_d4_48) rfl  k) ?_
      refine own_step (fun t k => XS.lcmp X0.here hx rfl (hb hby own_d4_49) rfl k) ?_
      show own_Run p e below s₁ (mkF m 50 #[.val (.ref a0), .val (.long (4503599627370495 : Int64)), .second, .val (.long (4486007441330175 : Int64)), .second, .val (.long (281474976645119 : Int64)), .second] [(.int (lcmpW v3 (4503599627370495 : Int64)))]) _
      by_cases hc17 : (lcmpW v3 (4503599627370495 : Int64)) < (0 : Int32)
      · refine own_vi (if_pos hc17) ?_
        refine own_step (fun t k => XS.ifNo X0.here hx rfl (hb hby own_d4_50) rfl ((if0 _ _).trans (tlt hc17).2.1) k) ?_
        show own_Run p e below s₁ (mkF m 53 #[.val (.ref a0), .val (.long (4503599627370495 : Int64)), .second, .val (.long (4486007441330175 : Int64)), .second, .val (.long (281474976645119 : Int64)), .second] []) _
        refine own_step (fun t k => XS.iconst X0.here hx rfl (hb hby own_d4_53) k) ?_
        show own_Run p e below s₁ (mkF m 54 #[.val (.ref a0), .val (.long (4503599627370495 : Int64)), .second, .val (.long (4486007441330175 : Int64)), .second, .val (.long (281474976645119 : Int64)), .second] [(.int (1 : Int32))]) _
        refine own_step (fun t k => XS.goto X0.here hx rfl (pc0 := 54) (pc' := 58) rfl (hb hby own_d4_54) (by decide) (by decide) k) ?_
        show own_Run p e below s₁ (mkF m 58 #[.val (.ref a0), .val (.long (4503599627370495 : Int64)), .second, .val (.long (4486007441330175 : Int64)), .second, .val (.long (281474976645119 : Int64)), .second] [(.int (1 : Int32))]) _
        exact own_retZ X0 hx hlk hret (hb hby own_d4_58) (by decide) (by decide) N0 e0
      · refine own_vi (if_neg hc17) ?_
        refine own_step (fun t k => XS.ifYes X0.here hx rfl (pc0 := 50) (pc' := 57) rfl (hb hby own_d4_50) rfl ((if0 _ _).trans (flt hc17).2.1) (by decide) (by decide) k) ?_
        show own_Run p e below s₁ (mkF m 57 #[.val (.ref a0), .val (.long (4503599627370495 : Int64)), .second, .val (.long (4486007441330175 : Int64)), .second, .val (.long (281474976645119 : Int64)), .second] []) _
        refine own_step (fun t k => XS.iconst X0.here hx rfl (hb hby own_d4_57) k) ?_
        exact own_retZ X0 hx hlk hret (hb hby own_d4_58) (by decide) (by decide) N0 e0
  · refine own_vi (if_neg hc10) ?_
    refine own_step (fun t k => XS.ifNo X0.here hx rfl (hb hby own_d4_19) rfl ((if0 _ _).trans (feq hc10).1) k) ?_
    show own_Run p e below s₁ (mkF m 22 #[.val (.ref a0), .val (.long (4503599627370495 : Int64)), .second, .val (.long (4486007441330175 : Int64)), .second, .val (.long (281474976645119 : Int64)), .second] []) _
    refine own_step (fun t k => XS.aloadN X0.here hx rfl (hb hby own_d4_22) rfl rfl k) ?_
    refine own_step (fun t k => XS.iconst X0.here hx rfl (hb hby own_d4_23) k) ?_
    show own_Run p e below s₁ (mkF m 24 #[.val (.ref a0), .val (.long (4503599627370495 : Int64)), .second, .val (.long (4486007441330175 : Int64)), .second, .val (.long (281474976645119 : Int64)), .second] [(.int (4 : Int32)), (.ref a0)]) _
    refine own_step (own_ldJ X0 hx hZ e0 V0 (j := (4 : Int32)) (v := (.long v4)) ⟨by decide, by decide⟩ rfl (g := (mkF m 24 #[.val (.ref a0), .val (.long (4503599627370495 : Int64)), .second, .val (.long (4486007441330175 : Int64)), .second, .val (.long (281474976645119 : Int64)), .second] [(.int (4 : Int32)), (.ref a0)])) rfl rfl (hb hby own_d4_24)) ?_
    show own_Run p e below s₁ (mkF m 25 #[.val (.ref a0), .val (.long (4503599627370495 : Int64)), .second, .val (.long (4486007441330175 : Int64)), .second, .val (.long (281474976645119 : Int64)), .second] [(.long v4)]) _
    refine own_step (fun t k => XS.lload X0.here hx rfl (hb hby own_d4_25) rfl  k) ?_
    refine own_step (fun t k => XS.lcmp X0.here hx rfl (hb hby own_d4_27) rfl k) ?_
    show own_Run p e below s₁ (mkF m 28 #[.val (.ref a0), .val (.long (4503599627370495 : Int64)), .second, .val (.long (4486007441330175 : Int64)), .second, .val (.long (281474976645119 : Int64)), .second] [(.int (lcmpW v4 (281474976645119 : Int64)))]) _
    by_cases hc18 : (lcmpW v4 (281474976645119 : Int64)) < (0 : Int32)
    · refine own_vi (if_pos hc18) ?_
      refine own_step (fun t k => XS.ifNo X0.here hx rfl (hb hby own_d4_28) rfl ((if0 _ _).trans (tlt hc18).2.1) k) ?_
      show own_Run p e below s₁ (mkF m 31 #[.val (.ref a0), .val (.long (4503599627370495 : Int64)), .second, .val (.long (4486007441330175 : Int64)), .second, .val (.long (281474976645119 : Int64)), .second] []) _
      refine own_step (fun t k => XS.iconst X0.here hx rfl (hb hby own_d4_31) k) ?_
      show own_Run p e below s₁ (mkF m 32 #[.val (.ref a0), .val (.long (4503599627370495 : Int64)), .second, .val (.long (4486007441330175 : Int64)), .second, .val (.long (281474976645119 : Int64)), .second] [(.int (1 : Int32))]) _
      refine own_step (fun t k => XS.goto X0.here hx rfl (pc0 := 32) (pc' := 36) rfl (hb hby own_d4_32) (by decide) (by decide) k) ?_
      show own_Run p e below s₁ (mkF m 36 #[.val (.ref a0), .val (.long (4503599627370495 : Int64)), .second, .val (.long (4486007441330175 : Int64)), .second, .val (.long (281474976645119 : Int64)), .second] [(.int (1 : Int32))]) _
      exact own_retZ X0 hx hlk hret (hb hby own_d4_36) (by decide) (by decide) N0 e0
    · refine own_vi (if_neg hc18) ?_
      refine own_step (fun t k => XS.ifYes X0.here hx rfl (pc0 := 28) (pc' := 35) rfl (hb hby own_d4_28) rfl ((if0 _ _).trans (flt hc18).2.1) (by decide) (by decide) k) ?_
      show own_Run p e below s₁ (mkF m 35 #[.val (.ref a0), .val (.long (4503599627370495 : Int64)), .second, .val (.long (4486007441330175 : Int64)), .second, .val (.long (281474976645119 : Int64)), .second] []) _
      refine own_step (fun t k => XS.iconst X0.here hx rfl (hb hby own_d4_35) k) ?_
      exact own_retZ X0 hx hlk hret (hb hby own_d4_36) (by decide) (by decide) N0 e0
theorem own_pd191 : parseMethodDescriptor "([J)Z" = some ⟨[(.array .long)], some .boolean⟩ := by decide +kernel
theorem own_d3_0 : decode method_5_code 0 = .ok (.ldc2_w 28, 3) := by decide +kernel
theorem own_d3_3 : decode method_5_code 3 = .ok (.lstore_n 1, 1) := by decide +kernel
theorem own_d3_4 : decode method_5_code 4 = .ok (.aload_n 0, 1) := by decide +kernel
theorem own_d3_5 : decode method_5_code 5 = .ok (.iconst 0, 1) := by decide +kernel
theorem own_d3_6 : decode method_5_code 6 = .ok (.laload, 1) := by decide +kernel
theorem own_d3_7 : decode method_5_code 7 = .ok (.lconst 0, 1) := by decide +kernel
theorem own_d3_8 : decode method_5_code 8 = .ok (.lcmp, 1) := by decide +kernel
theorem own_d3_9 : decode method_5_code 9 = .ok (.ifCond .lt 11, 3) := by decide +kernel
theorem own_d3_12 : decode method_5_code 12 = .ok (.aload_n 0, 1) := by decide +kernel
theorem own_d3_13 : decode method_5_code 13 = .ok (.iconst 0, 1) := by decide +kernel
theorem own_d3_14 : decode method_5_code 14 = .ok (.laload, 1) := by decide +kernel
theorem own_d3_15 : decode method_5_code 15 = .ok (.lload_n 1, 1) := by decide +kernel
theorem own_d3_16 : decode method_5_code 16 = .ok (.lcmp, 1) := by decide +kernel
theorem own_d3_17 : decode method_5_code 17 = .ok (.ifCond .le 5, 3) := by decide +kernel
theorem own_d3_20 : decode method_5_code 20 = .ok (.iconst 0, 1) := by decide +kernel
theorem own_d3_21 : decode method_5_code 21 = .ok (.ireturn, 1) := by decide +kernel
theorem own_d3_22 : decode method_5_code 22 = .ok (.aload_n 0, 1) := by decide +kernel
theorem own_d3_23 : decode method_5_code 23 = .ok (.iconst 1, 1) := by decide +kernel
theorem own_d3_24 : decode method_5_code 24 = .ok (.laload, 1) := by decide +kernel
theorem own_d3_25 : decode method_5_code 25 = .ok (.lconst 0, 1) := by decide +kernel
theorem own_d3_26 : decode method_5_code 26 = .ok (.lcmp, 1) := by decide +kernel
theorem own_d3_27 : decode method_5_code 27 = .ok (.ifCond .lt 11, 3) := by decide +kernel
theorem own_d3_30 : decode method_5_code 30 = .ok (.aload_n 0, 1) := by decide +kernel
theorem own_d3_31 : decode method_5_code 31 = .ok (.iconst 1, 1) := by decide +kernel
theorem own_d3_32 : decode method_5_code 32 = .ok (.laload, 1) := by decide +kernel
theorem own_d3_33 : decode method_5_code 33 = .ok (.lload_n 1, 1) := by decide +kernel
theorem own_d3_34 : decode method_5_code 34 = .ok (.lcmp, 1) := by decide +kernel
theorem own_d3_35 : decode method_5_code 35 = .ok (.ifCond .le 5, 3) := by decide +kernel
theorem own_d3_38 : decode method_5_code 38 = .ok (.iconst 0, 1) := by decide +kernel
theorem own_d3_39 : decode method_5_code 39 = .ok (.ireturn, 1) := by decide +kernel
theorem own_d3_40 : decode method_5_code 40 = .ok (.aload_n 0, 1) := by decide +kernel
theorem own_d3_41 : decode method_5_code 41 = .ok (.iconst 2, 1) := by decide +kernel
theorem own_d3_42 : decode method_5_code 42 = .ok (.laload, 1) := by decide +kernel
theorem own_d3_43 : decode method_5_code 43 = .ok (.lconst 0, 1) := by decide +kernel
theorem own_d3_44 : decode method_5_code 44 = .ok (.lcmp, 1) := by decide +kernel
theorem own_d3_45 : decode method_5_code 45 = .ok (.ifCond .lt 11, 3) := by decide +kernel
theorem own_d3_48 : decode method_5_code 48 = .ok (.aload_n 0, 1) := by decide +kernel
theorem own_d3_49 : decode method_5_code 49 = .ok (.iconst 2, 1) := by decide +kernel
theorem own_d3_50 : decode method_5_code 50 = .ok (.laload, 1) := by decide +kernel
theorem own_d3_51 : decode method_5_code 51 = .ok (.lload_n 1, 1) := by decide +kernel
theorem own_d3_52 : decode method_5_code 52 = .ok (.lcmp, 1) := by decide +kernel
theorem own_d3_53 : decode method_5_code 53 = .ok (.ifCond .le 5, 3) := by decide +kernel
theorem own_d3_56 : decode method_5_code 56 = .ok (.iconst 0, 1) := by decide +kernel
theorem own_d3_57 : decode method_5_code 57 = .ok (.ireturn, 1) := by decide +kernel
theorem own_d3_58 : decode method_5_code 58 = .ok (.aload_n 0, 1) := by decide +kernel
theorem own_d3_59 : decode method_5_code 59 = .ok (.iconst 3, 1) := by decide +kernel
theorem own_d3_60 : decode method_5_code 60 = .ok (.laload, 1) := by decide +kernel
theorem own_d3_61 : decode method_5_code 61 = .ok (.lconst 0, 1) := by decide +kernel
theorem own_d3_62 : decode method_5_code 62 = .ok (.lcmp, 1) := by decide +kernel
theorem own_d3_63 : decode method_5_code 63 = .ok (.ifCond .lt 11, 3) := by decide +kernel
theorem own_d3_66 : decode method_5_code 66 = .ok (.aload_n 0, 1) := by decide +kernel
theorem own_d3_67 : decode method_5_code 67 = .ok (.iconst 3, 1) := by decide +kernel
theorem own_d3_68 : decode method_5_code 68 = .ok (.laload, 1) := by decide +kernel
theorem own_d3_69 : decode method_5_code 69 = .ok (.lload_n 1, 1) := by decide +kernel
theorem own_d3_70 : decode method_5_code 70 = .ok (.lcmp, 1) := by decide +kernel
theorem own_d3_71 : decode method_5_code 71 = .ok (.ifCond .le 5, 3) := by decide +kernel
theorem own_d3_74 : decode method_5_code 74 = .ok (.iconst 0, 1) := by decide +kernel
theorem own_d3_75 : decode method_5_code 75 = .ok (.ireturn, 1) := by decide +kernel
theorem own_d3_76 : decode method_5_code 76 = .ok (.aload_n 0, 1) := by decide +kernel
theorem own_d3_77 : decode method_5_code 77 = .ok (.iconst 4, 1) := by decide +kernel
theorem own_d3_78 : decode method_5_code 78 = .ok (.laload, 1) := by decide +kernel
theorem own_d3_79 : decode method_5_code 79 = .ok (.lconst 0, 1) := by decide +kernel
theorem own_d3_80 : decode method_5_code 80 = .ok (.lcmp, 1) := by decide +kernel
theorem own_d3_81 : decode method_5_code 81 = .ok (.ifCond .lt 13, 3) := by decide +kernel
theorem own_d3_84 : decode method_5_code 84 = .ok (.aload_n 0, 1) := by decide +kernel
theorem own_d3_85 : decode method_5_code 85 = .ok (.iconst 4, 1) := by decide +kernel
theorem own_d3_86 : decode method_5_code 86 = .ok (.laload, 1) := by decide +kernel
theorem own_d3_87 : decode method_5_code 87 = .ok (.ldc2_w 30, 3) := by decide +kernel
theorem own_d3_90 : decode method_5_code 90 = .ok (.lcmp, 1) := by decide +kernel
theorem own_d3_91 : decode method_5_code 91 = .ok (.ifCond .le 5, 3) := by decide +kernel
theorem own_d3_94 : decode method_5_code 94 = .ok (.iconst 0, 1) := by decide +kernel
theorem own_d3_95 : decode method_5_code 95 = .ok (.ireturn, 1) := by decide +kernel
theorem own_d3_96 : decode method_5_code 96 = .ok (.aload_n 0, 1) := by decide +kernel
theorem own_d3_97 : decode method_5_code 97 = .ok (.invokestatic 44, 3) := by decide +kernel
theorem own_d3_100 : decode method_5_code 100 = .ok (.ireturn, 1) := by decide +kernel
def own_r3 (v0 : Int64) (v1 : Int64) (v2 : Int64) (v3 : Int64) (v4 : Int64) : Int32 := (if (lcmpW v0 (0 : Int64)) < (0 : Int32) then (0 : Int32) else (if (0 : Int32) < (lcmpW v0 (4503599627370495 : Int64)) then (0 : Int32) else (if (lcmpW v1 (0 : Int64)) < (0 : Int32) then (0 : Int32) else (if (0 : Int32) < (lcmpW v1 (4503599627370495 : Int64)) then (0 : Int32) else (if (lcmpW v2 (0 : Int64)) < (0 : Int32) then (0 : Int32) else (if (0 : Int32) < (lcmpW v2 (4503599627370495 : Int64)) then (0 : Int32) else (if (lcmpW v3 (0 : Int64)) < (0 : Int32) then (0 : Int32) else (if (0 : Int32) < (lcmpW v3 (4503599627370495 : Int64)) then (0 : Int32) else (if (lcmpW v4 (0 : Int64)) < (0 : Int32) then (0 : Int32) else (if (0 : Int32) < (lcmpW v4 (281474976710655 : Int64)) then (0 : Int32) else (nar .boolean (own_r4 v0 v1 v2 v3 v4))))))))))))
theorem own_ef3 (m : MethodId) (a0 : Addr) : entryFrame m #[(.ref a0)] 3 = (mkF m 0 #[.val (.ref a0), .unset, .unset] []) := by first | (simp [entryFrame, mkF, argsToLocals, Value.category]; done) | rfl
set_option maxRecDepth 65536 in
set_option maxHeartbeats 40000000 in
theorem rm3 (l : Launch) (Z : State) (av0 : Array Value) (hw : ∀ d ∈ tables_1, d.before av0 Z = true) (ws : List Jvm.Cond) (a0 : Addr) (k0 : ClassId) (v0 : Int64) (v1 : Int64) (v2 : Int64) (v3 : Int64) (v4 : Int64) (h0 : Heap) (n0 : Nat) (Z0 : n0 ≤ h0.size) (V0 : Arv Z h0 a0 k0 .long (5 : Int32) [(.long v0), (.long v1), (.long v2), (.long v3), (.long v4)] (.long (0 : Int64))) :
    MetFree l (⟨"com/example/rxrelay/rxrelay/protocol/gm/Sm2FieldSubtractPinLaw", "canonical", "([J)Z"⟩ : MethodName) (head1 (Jvm.Cond.code (⟨"com/example/rxrelay/rxrelay/protocol/gm/Sm2FieldSubtractPinLaw", "canonical", "([J)Z"⟩ : MethodName) method_5_code 3 (some .boolean) :: ws) ({ frames := 1, cells := 0, slots := 0, locals := 18 } : Room)) (fun a U => a = #[(.ref a0)] ∧ Z.Warmed39 U.vm ∧ U.heap = h0) (fun _ _ _ _ _ => True) (fun _ U o U' => ∃ v L, o = .returned v ∧ own_Q n0 (fun h => h = h0) (some (.int (own_r3 v0 v1 v2 v3 v4))) v U'.heap L ∧ FrameEnd U o U' L ({ frames := 1, cells := 0, slots := 0, locals := 18 } : Room).cells ({ frames := 1, cells := 0, slots := 0, locals := 18 } : Room).slots) := by
  refine MetFree.of_bodySF (plainFor_of_name own_pn0) hisR ?_
  intro p e s m args below meth c s₁ Bd hml0 hP hK
  obtain ⟨rfl, hZ, hh⟩ := hP
  have hx := Bd.exec
  have hby := Bd.bytes
  have hml : c.maxLocals = 3 := hml0
  have hown : s.vm.findClass "com/example/rxrelay/rxrelay/protocol/gm/Sm2FieldSubtractPinLaw" = some m.cls := findClass_of_methodNamed Bd.named
  have hnm := (name_of_methodNamed Bd.named Bd.method).1
  have hret := Bd.returns
  have hlk : meth.locks = false := BodyLoose.notSynchronized Bd
  have X0 : Stand p l e ({ frames := 1, cells := 0, slots := 0, locals := 18 } : Room) s m #[(.ref a0)] below meth c s₁ [] 0 0 := Stand.of_body Bd
  have e0 : s₁.heap = h0 := by rw [← hh, Bd.state]; rfl
  have N0 := Fr.nil n0
  clear Bd hh hK
  refine own_fin ?_
  refine own_entry (own_ef3 m a0) ?_
  show own_Run p e below s₁ _ (own_Ret _ s below _ _ (own_Q n0 _ (some (.int (if (lcmpW v0 (0 : Int64)) < (0 : Int32) then (0 : Int32) else (if (0 : Int32) < (lcmpW v0 (4503599627370495 : Int64)) then (0 : Int32) else (if (lcmpW v1 (0 : Int64)) < (0 : Int32) then (0 : Int32) else (if (0 : Int32) < (lcmpW v1 (4503599627370495 : Int64)) then (0 : Int32) else (if (lcmpW v2 (0 : Int64)) < (0 : Int32) then (0 : Int32) else (if (0 : Int32) < (lcmpW v2 (4503599627370495 : Int64)) then (0 : Int32) else (if (lcmpW v3 (0 : Int64)) < (0 : Int32) then (0 : Int32) else (if (0 : Int32) < (lcmpW v3 (4503599627370495 : Int64)) then (0 : Int32) else (if (lcmpW v4 (0 : Int64)) < (0 : Int32) then (0 : Int32) else (if (0 : Int32) < (lcmpW v4 (281474976710655 : Int64)) then (0 : Int32) else (nar .boolean (own_r4 v0 v1 v2 v3 v4))))))))))))))))
  show own_Run p e below s₁ (mkF m 0 #[.val (.ref a0), .unset, .unset] []) _
  refine own_step (fun t k => X0.ldc2Long hx hown (mvT hZ (hw _ (List.mem_of_getElem? (i := 4) rfl))) (g := (mkF m 0 #[.val (.ref a0), .unset, .unset] [])) rfl (hb hby own_d3_0) t k) ?_
  show own_Run p e below s₁ (mkF m 3 #[.val (.ref a0), .unset, .unset] [(.long (4503599627370495 : Int64))]) _
  refine own_step (fun t k => XS.lstoreN X0.here hx rfl (hb hby own_d3_3) rfl (l' := #[.val (.ref a0), .val (.long (4503599627370495 : Int64)), .second]) rfl k) ?_
  show own_Run p e below s₁ (mkF m 4 #[.val (.ref a0), .val (.long (4503599627370495 : Int64)), .second] []) _
  refine own_step (fun t k => XS.aloadN X0.here hx rfl (hb hby own_d3_4) rfl rfl k) ?_
  refine own_step (fun t k => XS.iconst X0.here hx rfl (hb hby own_d3_5) k) ?_
  refine own_step (own_ldJ X0 hx hZ e0 V0 (j := (0 : Int32)) (v := (.long v0)) ⟨by decide, by decide⟩ rfl (g := (mkF m 6 #[.val (.ref a0), .val (.long (4503599627370495 : Int64)), .second] [(.int (0 : Int32)), (.ref a0)])) rfl rfl (hb hby own_d3_6)) ?_
  show own_Run p e below s₁ (mkF m 7 #[.val (.ref a0), .val (.long (4503599627370495 : Int64)), .second] [(.long v0)]) _
  refine own_step (fun t k => XS.lconst X0.here hx rfl (hb hby own_d3_7) k) ?_
  refine own_step (fun t k => XS.lcmp X0.here hx rfl (hb hby own_d3_8) rfl k) ?_
  show own_Run p e below s₁ (mkF m 9 #[.val (.ref a0), .val (.long (4503599627370495 : Int64)), .second] [(.int (lcmpW v0 (0 : Int64)))]) _
  by_cases hc12 : (lcmpW v0 (0 : Int64)) < (0 : Int32)
  · refine own_vi (if_pos hc12) ?_
    refine own_step (fun t k => XS.ifYes X0.here hx rfl (pc0 := 9) (pc' := 20) rfl (hb hby own_d3_9) rfl ((if0 _ _).trans (tlt hc12).1) (by decide) (by decide) k) ?_
    show own_Run p e below s₁ (mkF m 20 #[.val (.ref a0), .val (.long (4503599627370495 : Int64)), .second] []) _
    refine own_step (fun t k => XS.iconst X0.here hx rfl (hb hby own_d3_20) k) ?_
    exact own_retZ X0 hx hlk hret (hb hby own_d3_21) (by decide) (by decide) N0 e0
  · refine own_vi (if_neg hc12) ?_
    refine own_step (fun t k => XS.ifNo X0.here hx rfl (hb hby own_d3_9) rfl ((if0 _ _).trans (flt hc12).1) k) ?_
    show own_Run p e below s₁ (mkF m 12 #[.val (.ref a0), .val (.long (4503599627370495 : Int64)), .second] []) _
    refine own_step (fun t k => XS.aloadN X0.here hx rfl (hb hby own_d3_12) rfl rfl k) ?_
    refine own_step (fun t k => XS.iconst X0.here hx rfl (hb hby own_d3_13) k) ?_
    show own_Run p e below s₁ (mkF m 14 #[.val (.ref a0), .val (.long (4503599627370495 : Int64)), .second] [(.int (0 : Int32)), (.ref a0)]) _
    refine own_step (own_ldJ X0 hx hZ e0 V0 (j := (0 : Int32)) (v := (.long v0)) ⟨by decide, by decide⟩ rfl (g := (mkF m 14 #[.val (.ref a0), .val (.long (4503599627370495 : Int64)), .second] [(.int (0 : Int32)), (.ref a0)])) rfl rfl (hb hby own_d3_14)) ?_
    show own_Run p e below s₁ (mkF m 15 #[.val (.ref a0), .val (.long (4503599627370495 : Int64)), .second] [(.long v0)]) _
    refine own_step (fun t k => XS.lloadN X0.here hx rfl (hb hby own_d3_15) rfl  k) ?_
    refine own_step (fun t k => XS.lcmp X0.here hx rfl (hb hby own_d3_16) rfl k) ?_
    show own_Run p e below s₁ (mkF m 17 #[.val (.ref a0), .val (.long (4503599627370495 : Int64)), .second] [(.int (lcmpW v0 (4503599627370495 : Int64)))]) _
    by_cases hc13 : (0 : Int32) < (lcmpW v0 (4503599627370495 : Int64))
    · refine own_vi (if_pos hc13) ?_
      refine own_step (fun t k => XS.ifNo X0.here hx rfl (hb hby own_d3_17) rfl ((if0 _ _).trans (tlt hc13).2.2.2) k) ?_
      show own_Run p e below s₁ (mkF m 20 #[.val (.ref a0), .val (.long (4503599627370495 : Int64)), .second] []) _
      refine own_step (fun t k => XS.iconst X0.here hx rfl (hb hby own_d3_20) k) ?_
      exact own_retZ X0 hx hlk hret (hb hby own_d3_21) (by decide) (by decide) N0 e0
    · refine own_vi (if_neg hc13) ?_
      refine own_step (fun t k => XS.ifYes X0.here hx rfl (pc0 := 17) (pc' := 22) rfl (hb hby own_d3_17) rfl ((if0 _ _).trans (flt hc13).2.2.2) (by decide) (by decide) k) ?_
      show own_Run p e below s₁ (mkF m 22 #[.val (.ref a0), .val (.long (4503599627370495 : Int64)), .second] []) _
      refine own_step (fun t k => XS.aloadN X0.here hx rfl (hb hby own_d3_22) rfl rfl k) ?_
      refine own_step (fun t k => XS.iconst X0.here hx rfl (hb hby own_d3_23) k) ?_
      show own_Run p e below s₁ (mkF m 24 #[.val (.ref a0), .val (.long (4503599627370495 : Int64)), .second] [(.int (1 : Int32)), (.ref a0)]) _
      refine own_step (own_ldJ X0 hx hZ e0 V0 (j := (1 : Int32)) (v := (.long v1)) ⟨by decide, by decide⟩ rfl (g := (mkF m 24 #[.val (.ref a0), .val (.long (4503599627370495 : Int64)), .second] [(.int (1 : Int32)), (.ref a0)])) rfl rfl (hb hby own_d3_24)) ?_
      show own_Run p e below s₁ (mkF m 25 #[.val (.ref a0), .val (.long (4503599627370495 : Int64)), .second] [(.long v1)]) _
      refine own_step (fun t k => XS.lconst X0.here hx rfl (hb hby own_d3_25) k) ?_
      refine own_step (fun t k => XS.lcmp X0.here hx rfl (hb hby own_d3_26) rfl k) ?_
      show own_Run p e below s₁ (mkF m 27 #[.val (.ref a0), .val (.long (4503599627370495 : Int64)), .second] [(.int (lcmpW v1 (0 : Int64)))]) _
      by_cases hc14 : (lcmpW v1 (0 : Int64)) < (0 : Int32)
      · refine own_vi (if_pos hc14) ?_
        refine own_step (fun t k => XS.ifYes X0.here hx rfl (pc0 := 27) (pc' := 38) rfl (hb hby own_d3_27) rfl ((if0 _ _).trans (tlt hc14).1) (by decide) (by decide) k) ?_
        show own_Run p e below s₁ (mkF m 38 #[.val (.ref a0), .val (.long (4503599627370495 : Int64)), .second] []) _
        refine own_step (fun t k => XS.iconst X0.here hx rfl (hb hby own_d3_38) k) ?_
        exact own_retZ X0 hx hlk hret (hb hby own_d3_39) (by decide) (by decide) N0 e0
      · refine own_vi (if_neg hc14) ?_
        refine own_step (fun t k => XS.ifNo X0.here hx rfl (hb hby own_d3_27) rfl ((if0 _ _).trans (flt hc14).1) k) ?_
        show own_Run p e below s₁ (mkF m 30 #[.val (.ref a0), .val (.long (4503599627370495 : Int64)), .second] []) _
        refine own_step (fun t k => XS.aloadN X0.here hx rfl (hb hby own_d3_30) rfl rfl k) ?_
        refine own_step (fun t k => XS.iconst X0.here hx rfl (hb hby own_d3_31) k) ?_
        show own_Run p e below s₁ (mkF m 32 #[.val (.ref a0), .val (.long (4503599627370495 : Int64)), .second] [(.int (1 : Int32)), (.ref a0)]) _
        refine own_step (own_ldJ X0 hx hZ e0 V0 (j := (1 : Int32)) (v := (.long v1)) ⟨by decide, by decide⟩ rfl (g := (mkF m 32 #[.val (.ref a0), .val (.long (4503599627370495 : Int64)), .second] [(.int (1 : Int32)), (.ref a0)])) rfl rfl (hb hby own_d3_32)) ?_
        show own_Run p e below s₁ (mkF m 33 #[.val (.ref a0), .val (.long (4503599627370495 : Int64)), .second] [(.long v1)]) _
        refine own_step (fun t k => XS.lloadN X0.here hx rfl (hb hby own_d3_33) rfl  k) ?_
        refine own_step (fun t k => XS.lcmp X0.here hx rfl (hb hby own_d3_34) rfl k) ?_
        show own_Run p e below s₁ (mkF m 35 #[.val (.ref a0), .val (.long (4503599627370495 : Int64)), .second] [(.int (lcmpW v1 (4503599627370495 : Int64)))]) _
        by_cases hc15 : (0 : Int32) < (lcmpW v1 (4503599627370495 : Int64))
        · refine own_vi (if_pos hc15) ?_
          refine own_step (fun t k => XS.ifNo X0.here hx rfl (hb hby own_d3_35) rfl ((if0 _ _).trans (tlt hc15).2.2.2) k) ?_
          show own_Run p e below s₁ (mkF m 38 #[.val (.ref a0), .val (.long (4503599627370495 : Int64)), .second] []) _
          refine own_step (fun t k => XS.iconst X0.here hx rfl (hb hby own_d3_38) k) ?_
          exact own_retZ X0 hx hlk hret (hb hby own_d3_39) (by decide) (by decide) N0 e0
        · refine own_vi (if_neg hc15) ?_
          refine own_step (fun t k => XS.ifYes X0.here hx rfl (pc0 := 35) (pc' := 40) rfl (hb hby own_d3_35) rfl ((if0 _ _).trans (flt hc15).2.2.2) (by decide) (by decide) k) ?_
          show own_Run p e below s₁ (mkF m 40 #[.val (.ref a0), .val (.long (4503599627370495 : Int64)), .second] []) _
          refine own_step (fun t k => XS.aloadN X0.here hx rfl (hb hby own_d3_40) rfl rfl k) ?_
          refine own_step (fun t k => XS.iconst X0.here hx rfl (hb hby own_d3_41) k) ?_
          show own_Run p e below s₁ (mkF m 42 #[.val (.ref a0), .val (.long (4503599627370495 : Int64)), .second] [(.int (2 : Int32)), (.ref a0)]) _
          refine own_step (own_ldJ X0 hx hZ e0 V0 (j := (2 : Int32)) (v := (.long v2)) ⟨by decide, by decide⟩ rfl (g := (mkF m 42 #[.val (.ref a0), .val (.long (4503599627370495 : Int64)), .second] [(.int (2 : Int32)), (.ref a0)])) rfl rfl (hb hby own_d3_42)) ?_
          show own_Run p e below s₁ (mkF m 43 #[.val (.ref a0), .val (.long (4503599627370495 : Int64)), .second] [(.long v2)]) _
          refine own_step (fun t k => XS.lconst X0.here hx rfl (hb hby own_d3_43) k) ?_
          refine own_step (fun t k => XS.lcmp X0.here hx rfl (hb hby own_d3_44) rfl k) ?_
          show own_Run p e below s₁ (mkF m 45 #[.val (.ref a0), .val (.long (4503599627370495 : Int64)), .second] [(.int (lcmpW v2 (0 : Int64)))]) _
          by_cases hc16 : (lcmpW v2 (0 : Int64)) < (0 : Int32)
          · refine own_vi (if_pos hc16) ?_
            refine own_step (fun t k => XS.ifYes X0.here hx rfl (pc0 := 45) (pc' := 56) rfl (hb hby own_d3_45) rfl ((if0 _ _).trans (tlt hc16).1) (by decide) (by decide) k) ?_
            show own_Run p e below s₁ (mkF m 56 #[.val (.ref a0), .val (.long (4503599627370495 : Int64)), .second] []) _
            refine own_step (fun t k => XS.iconst X0.here hx rfl (hb hby own_d3_56) k) ?_
            exact own_retZ X0 hx hlk hret (hb hby own_d3_57) (by decide) (by decide) N0 e0
          · refine own_vi (if_neg hc16) ?_
            refine own_step (fun t k => XS.ifNo X0.here hx rfl (hb hby own_d3_45) rfl ((if0 _ _).trans (flt hc16).1) k) ?_
            show own_Run p e below s₁ (mkF m 48 #[.val (.ref a0), .val (.long (4503599627370495 : Int64)), .second] []) _
            refine own_step (fun t k => XS.aloadN X0.here hx rfl (hb hby own_d3_48) rfl rfl k) ?_
            refine own_step (fun t k => XS.iconst X0.here hx rfl (hb hby own_d3_49) k) ?_
            show own_Run p e below s₁ (mkF m 50 #[.val (.ref a0), .val (.long (4503599627370495 : Int64)), .second] [(.int (2 : Int32)), (.ref a0)]) _
            refine own_step (own_ldJ X0 hx hZ e0 V0 (j := (2 : Int32)) (v := (.long v2)) ⟨by decide, by decide⟩ rfl (g := (mkF m 50 #[.val (.ref a0), .val (.long (4503599627370495 : Int64)), .second] [(.int (2 : Int32)), (.ref a0)])) rfl rfl (hb hby own_d3_50)) ?_
            show own_Run p e below s₁ (mkF m 51 #[.val (.ref a0), .val (.long (4503599627370495 : Int64)), .second] [(.long v2)]) _
            refine own_step (fun t k => XS.lloadN X0.here hx rfl (hb hby own_d3_51) rfl  k) ?_
            refine own_step (fun t k => XS.lcmp X0.here hx rfl (hb hby own_d3_52) rfl k) ?_
            show own_Run p e below s₁ (mkF m 53 #[.val (.ref a0), .val (.long (4503599627370495 : Int64)), .second] [(.int (lcmpW v2 (4503599627370495 : Int64)))]) _
            by_cases hc17 : (0 : Int32) < (lcmpW v2 (4503599627370495 : Int64))
            · refine own_vi (if_pos hc17) ?_
              refine own_step (fun t k => XS.ifNo X0.here hx rfl (hb hby own_d3_53) rfl ((if0 _ _).trans (tlt hc17).2.2.2) k) ?_
              show own_Run p e below s₁ (mkF m 56 #[.val (.ref a0), .val (.long (4503599627370495 : Int64)), .second] []) _
              refine own_step (fun t k => XS.iconst X0.here hx rfl (hb hby own_d3_56) k) ?_
              exact own_retZ X0 hx hlk hret (hb hby own_d3_57) (by decide) (by decide) N0 e0
            · refine own_vi (if_neg hc17) ?_
              refine own_step (fun t k => XS.ifYes X0.here hx rfl (pc0 := 53) (pc' := 58) rfl (hb hby own_d3_53) rfl ((if0 _ _).trans (flt hc17).2.2.2) (by decide) (by decide) k) ?_
              show own_Run p e below s₁ (mkF m 58 #[.val (.ref a0), .val (.long (4503599627370495 : Int64)), .second] []) _
              refine own_step (fun t k => XS.aloadN X0.here hx rfl (hb hby own_d3_58) rfl rfl k) ?_
              refine own_step (fun t k => XS.iconst X0.here hx rfl (hb hby own_d3_59) k) ?_
              show own_Run p e below s₁ (mkF m 60 #[.val (.ref a0), .val (.long (4503599627370495 : Int64)), .second] [(.int (3 : Int32)), (.ref a0)]) _
              refine own_step (own_ldJ X0 hx hZ e0 V0 (j := (3 : Int32)) (v := (.long v3)) ⟨by decide, by decide⟩ rfl (g := (mkF m 60 #[.val (.ref a0), .val (.long (4503599627370495 : Int64)), .second] [(.int (3 : Int32)), (.ref a0)])) rfl rfl (hb hby own_d3_60)) ?_
              show own_Run p e below s₁ (mkF m 61 #[.val (.ref a0), .val (.long (4503599627370495 : Int64)), .second] [(.long v3)]) _
              refine own_step (fun t k => XS.lconst X0.here hx rfl (hb hby own_d3_61) k) ?_
              refine own_step (fun t k => XS.lcmp X0.here hx rfl (hb hby own_d3_62) rfl k) ?_
              show own_Run p e below s₁ (mkF m 63 #[.val (.ref a0), .val (.long (4503599627370495 : Int64)), .second] [(.int (lcmpW v3 (0 : Int64)))]) _
              by_cases hc18 : (lcmpW v3 (0 : Int64)) < (0 : Int32)
              · refine own_vi (if_pos hc18) ?_
                refine own_step (fun t k => XS.ifYes X0.here hx rfl (pc0 := 63) (pc' := 74) rfl (hb hby own_d3_63) rfl ((if0 _ _).trans (tlt hc18).1) (by decide) (by decide) k) ?_
                show own_Run p e below s₁ (mkF m 74 #[.val (.ref a0), .val (.long (4503599627370495 : Int64)), .second] []) _
                refine own_step (fun t k => XS.iconst X0.here hx rfl (hb hby own_d3_74) k) ?_
                exact own_retZ X0 hx hlk hret (hb hby own_d3_75) (by decide) (by decide) N0 e0
              · refine own_vi (if_neg hc18) ?_
                refine own_step (fun t k => XS.ifNo X0.here hx rfl (hb hby own_d3_63) rfl ((if0 _ _).trans (flt hc18).1) k) ?_
                show own_Run p e below s₁ (mkF m 66 #[.val (.ref a0), .val (.long (4503599627370495 : Int64)), .second] []) _
                refine own_step (fun t k => XS.aloadN X0.here hx rfl (hb hby own_d3_66) rfl rfl k) ?_
                refine own_step (fun t k => XS.iconst X0.here hx rfl (hb hby own_d3_67) k) ?_
                show own_Run p e below s₁ (mkF m 68 #[.val (.ref a0), .val (.long (4503599627370495 : Int64)), .second] [(.int (3 : Int32)), (.ref a0)]) _
                refine own_step (own_ldJ X0 hx hZ e0 V0 (j := (3 : Int32)) (v := (.long v3)) ⟨by decide, by decide⟩ rfl (g := (mkF m 68 #[.val (.ref a0), .val (.long (4503599627370495 : Int64)), .second] [(.int (3 : Int32)), (.ref a0)])) rfl rfl (hb hby own_d3_68)) ?_
                show own_Run p e below s₁ (mkF m 69 #[.val (.ref a0), .val (.long (4503599627370495 : Int64)), .second] [(.long v3)]) _
                refine own_step (fun t k => XS.lloadN X0.here hx rfl (hb hby own_d3_69) rfl  k) ?_
                refine own_step (fun t k => XS.lcmp X0.here hx rfl (hb hby own_d3_70) rfl k) ?_
                show own_Run p e below s₁ (mkF m 71 #[.val (.ref a0), .val (.long (4503599627370495 : Int64)), .second] [(.int (lcmpW v3 (4503599627370495 : Int64)))]) _
                by_cases hc19 : (0 : Int32) < (lcmpW v3 (4503599627370495 : Int64))
                · refine own_vi (if_pos hc19) ?_
                  refine own_step (fun t k => XS.ifNo X0.here hx rfl (hb hby own_d3_71) rfl ((if0 _ _).trans (tlt hc19).2.2.2) k) ?_
                  show own_Run p e below s₁ (mkF m 74 #[.val (.ref a0), .val (.long (4503599627370495 : Int64)), .second] []) _
                  refine own_step (fun t k => XS.iconst X0.here hx rfl (hb hby own_d3_74) k) ?_
                  exact own_retZ X0 hx hlk hret (hb hby own_d3_75) (by decide) (by decide) N0 e0
                · refine own_vi (if_neg hc19) ?_
                  refine own_step (fun t k => XS.ifYes X0.here hx rfl (pc0 := 71) (pc' := 76) rfl (hb hby own_d3_71) rfl ((if0 _ _).trans (flt hc19).2.2.2) (by decide) (by decide) k) ?_
                  show own_Run p e below s₁ (mkF m 76 #[.val (.ref a0), .val (.long (4503599627370495 : Int64)), .second] []) _
                  refine own_step (fun t k => XS.aloadN X0.here hx rfl (hb hby own_d3_76) rfl rfl k) ?_
                  refine own_step (fun t k => XS.iconst X0.here hx rfl (hb hby own_d3_77) k) ?_
                  show own_Run p e below s₁ (mkF m 78 #[.val (.ref a0), .val (.long (4503599627370495 : Int64)), .second] [(.int (4 : Int32)), (.ref a0)]) _
                  refine own_step (own_ldJ X0 hx hZ e0 V0 (j := (4 : Int32)) (v := (.long v4)) ⟨by decide, by decide⟩ rfl (g := (mkF m 78 #[.val (.ref a0), .val (.long (4503599627370495 : Int64)), .second] [(.int (4 : Int32)), (.ref a0)])) rfl rfl (hb hby own_d3_78)) ?_
                  show own_Run p e below s₁ (mkF m 79 #[.val (.ref a0), .val (.long (4503599627370495 : Int64)), .second] [(.long v4)]) _
                  refine own_step (fun t k => XS.lconst X0.here hx rfl (hb hby own_d3_79) k) ?_
                  refine own_step (fun t k => XS.lcmp X0.here hx rfl (hb hby own_d3_80) rfl k) ?_
                  show own_Run p e below s₁ (mkF m 81 #[.val (.ref a0), .val (.long (4503599627370495 : Int64)), .second] [(.int (lcmpW v4 (0 : Int64)))]) _
                  by_cases hc20 : (lcmpW v4 (0 : Int64)) < (0 : Int32)
                  · refine own_vi (if_pos hc20) ?_
                    refine own_step (fun t k => XS.ifYes X0.here hx rfl (pc0 := 81) (pc' := 94) rfl (hb hby own_d3_81) rfl ((if0 _ _).trans (tlt hc20).1) (by decide) (by decide) k) ?_
                    show own_Run p e below s₁ (mkF m 94 #[.val (.ref a0), .val (.long (4503599627370495 : Int64)), .second] []) _
                    refine own_step (fun t k => XS.iconst X0.here hx rfl (hb hby own_d3_94) k) ?_
                    exact own_retZ X0 hx hlk hret (hb hby own_d3_95) (by decide) (by decide) N0 e0
                  · refine own_vi (if_neg hc20) ?_
                    refine own_step (fun t k => XS.ifNo X0.here hx rfl (hb hby own_d3_81) rfl ((if0 _ _).trans (flt hc20).1) k) ?_
                    show own_Run p e below s₁ (mkF m 84 #[.val (.ref a0), .val (.long (4503599627370495 : Int64)), .second] []) _
                    refine own_step (fun t k => XS.aloadN X0.here hx rfl (hb hby own_d3_84) rfl rfl k) ?_
                    refine own_step (fun t k => XS.iconst X0.here hx rfl (hb hby own_d3_85) k) ?_
                    show own_Run p e below s₁ (mkF m 86 #[.val (.ref a0), .val (.long (4503599627370495 : Int64)), .second] [(.int (4 : Int32)), (.ref a0)]) _
                    refine own_step (own_ldJ X0 hx hZ e0 V0 (j := (4 : Int32)) (v := (.long v4)) ⟨by decide, by decide⟩ rfl (g := (mkF m 86 #[.val (.ref a0), .val (.long (4503599627370495 : Int64)), .second] [(.int (4 : Int32)), (.ref a0)])) rfl rfl (hb hby own_d3_86)) ?_
                    show own_Run p e below s₁ (mkF m 87 #[.val (.ref a0), .val (.long (4503599627370495 : Int64)), .second] [(.long v4)]) _
                    refine own_step (fun t k => X0.ldc2Long hx hown (mvT hZ (hw _ (List.mem_of_getElem? (i := 5) rfl))) (g := (mkF m 87 #[.val (.ref a0), .val (.long (4503599627370495 : Int64)), .second] [(.long v4)])) rfl (hb hby own_d3_87) t k) ?_
                    show own_Run p e below s₁ (mkF m 90 #[.val (.ref a0), .val (.long (4503599627370495 : Int64)), .second] [(.long (281474976710655 : Int64)), (.long v4)]) _
                    refine own_step (fun t k => XS.lcmp X0.here hx rfl (hb hby own_d3_90) rfl k) ?_
                    show own_Run p e below s₁ (mkF m 91 #[.val (.ref a0), .val (.long (4503599627370495 : Int64)), .second] [(.int (lcmpW v4 (281474976710655 : Int64)))]) _
                    by_cases hc21 : (0 : Int32) < (lcmpW v4 (281474976710655 : Int64))
                    · refine own_vi (if_pos hc21) ?_
                      refine own_step (fun t k => XS.ifNo X0.here hx rfl (hb hby own_d3_91) rfl ((if0 _ _).trans (tlt hc21).2.2.2) k) ?_
                      show own_Run p e below s₁ (mkF m 94 #[.val (.ref a0), .val (.long (4503599627370495 : Int64)), .second] []) _
                      refine own_step (fun t k => XS.iconst X0.here hx rfl (hb hby own_d3_94) k) ?_
                      exact own_retZ X0 hx hlk hret (hb hby own_d3_95) (by decide) (by decide) N0 e0
                    · refine own_vi (if_neg hc21) ?_
                      refine own_step (fun t k => XS.ifYes X0.here hx rfl (pc0 := 91) (pc' := 96) rfl (hb hby own_d3_91) rfl ((if0 _ _).trans (flt hc21).2.2.2) (by decide) (by decide) k) ?_
                      show own_Run p e below s₁ (mkF m 96 #[.val (.ref a0), .val (.long (4503599627370495 : Int64)), .second] []) _
                      refine own_step (fun t k => XS.aloadN X0.here hx rfl (hb hby own_d3_96) rfl rfl k) ?_
                      obtain ⟨_, _, ⟨T22, L22, kq22, nq22⟩, -, X22, ⟨Lc22, hQ22, lq22, yq22, zq22⟩, st22⟩ := Jvm.LawKit.callS X0 hx (y := (⟨"com/example/rxrelay/rxrelay/protocol/gm/Sm2FieldSubtractPinLaw", "belowP", "([J)Z"⟩ : MethodName)) hown (mvT hZ (hw _ (List.mem_of_getElem? (i := 17) rfl))) (mvT hZ (hw _ (List.mem_of_getElem? (i := 18) rfl))) (mvT hZ (hw _ (List.mem_of_getElem? (i := 2) rfl))) (mvT hZ (hw _ (List.mem_of_getElem? (i := 19) rfl))) (by decide) (backOf (W := 0) (rm4 l Z av0 hw [] a0 k0 v0 v1 v2 v3 v4 h0 n0 Z0 V0) hZ (hw _ (List.mem_of_getElem? (i := 19) rfl)) (hw _ (List.mem_of_getElem? (i := 2) rfl)) (by decide) (by decide)) (g := (mkF m 97 #[.val (.ref a0), .val (.long (4503599627370495 : Int64)), .second] [(.ref a0)])) rfl (by rw [hml]; rfl) (argsL := [(.ref a0)]) (rest := []) (lenOf own_pd191 rfl) rfl (by show 2 * 0 + _ ≤ _; exact Nat.le_of_eq rfl) (hb hby own_d3_97) (fun _ _ => ⟨rfl, e0, (by decide : 0 + 0 ≤ _), (by decide : 0 + 0 ≤ _)⟩)
                      dsimp only [Pt.U, Pt.locs, Pt.cells, Pt.slots] at X22 lq22 yq22 zq22 st22 hQ22
                      subst lq22 yq22 zq22
                      obtain ⟨rfl, N22q, e22⟩ := hQ22
                      have N22 := Fr.app N0 N22q
                      refine own_step st22 ?_
                      show own_Run p e below T22 (mkF m 100 #[.val (.ref a0), .val (.long (4503599627370495 : Int64)), .second] [(.int (own_r4 v0 v1 v2 v3 v4))]) _
                      exact own_retZ X22 hx hlk hret (hb hby own_d3_100) (by decide) (by decide) N22 e22
theorem own_pn1 : plainName "com/example/rxrelay/rxrelay/protocol/gm/Sm2Field" = true := by first | (simp [plainName, overriddenIn]; done) | decide +kernel
theorem own_d7_0 : decode prog_33_method_17_code 0 = .ok (.lload_n 2, 1) := by decide +kernel
theorem own_d7_1 : decode prog_33_method_17_code 1 = .ok (.lload_n 0, 1) := by decide +kernel
theorem own_d7_2 : decode prog_33_method_17_code 2 = .ok (.bipush 52, 2) := by decide +kernel
theorem own_d7_4 : decode prog_33_method_17_code 4 = .ok (.lshr, 1) := by decide +kernel
theorem own_d7_5 : decode prog_33_method_17_code 5 = .ok (.ladd, 1) := by decide +kernel
theorem own_d7_6 : decode prog_33_method_17_code 6 = .ok (.lstore_n 2, 1) := by decide +kernel
theorem own_d7_7 : decode prog_33_method_17_code 7 = .ok (.lload_n 0, 1) := by decide +kernel
theorem own_d7_8 : decode prog_33_method_17_code 8 = .ok (.ldc2_w 66, 3) := by decide +kernel
theorem own_d7_11 : decode prog_33_method_17_code 11 = .ok (.land, 1) := by decide +kernel
theorem own_d7_12 : decode prog_33_method_17_code 12 = .ok (.lstore_n 0, 1) := by decide +kernel
theorem own_d7_13 : decode prog_33_method_17_code 13 = .ok (.lload 4, 2) := by decide +kernel
theorem own_d7_15 : decode prog_33_method_17_code 15 = .ok (.lload_n 2, 1) := by decide +kernel
theorem own_d7_16 : decode prog_33_method_17_code 16 = .ok (.bipush 52, 2) := by decide +kernel
theorem own_d7_18 : decode prog_33_method_17_code 18 = .ok (.lshr, 1) := by decide +kernel
theorem own_d7_19 : decode prog_33_method_17_code 19 = .ok (.ladd, 1) := by decide +kernel
theorem own_d7_20 : decode prog_33_method_17_code 20 = .ok (.lstore 4, 2) := by decide +kernel
theorem own_d7_22 : decode prog_33_method_17_code 22 = .ok (.lload_n 2, 1) := by decide +kernel
theorem own_d7_23 : decode prog_33_method_17_code 23 = .ok (.ldc2_w 66, 3) := by decide +kernel
theorem own_d7_26 : decode prog_33_method_17_code 26 = .ok (.land, 1) := by decide +kernel
theorem own_d7_27 : decode prog_33_method_17_code 27 = .ok (.lstore_n 2, 1) := by decide +kernel
theorem own_d7_28 : decode prog_33_method_17_code 28 = .ok (.lload 6, 2) := by decide +kernel
theorem own_d7_30 : decode prog_33_method_17_code 30 = .ok (.lload 4, 2) := by decide +kernel
theorem own_d7_32 : decode prog_33_method_17_code 32 = .ok (.bipush 52, 2) := by decide +kernel
theorem own_d7_34 : decode prog_33_method_17_code 34 = .ok (.lshr, 1) := by decide +kernel
theorem own_d7_35 : decode prog_33_method_17_code 35 = .ok (.ladd, 1) := by decide +kernel
theorem own_d7_36 : decode prog_33_method_17_code 36 = .ok (.lstore 6, 2) := by decide +kernel
theorem own_d7_38 : decode prog_33_method_17_code 38 = .ok (.lload 4, 2) := by decide +kernel
theorem own_d7_40 : decode prog_33_method_17_code 40 = .ok (.ldc2_w 66, 3) := by decide +kernel
theorem own_d7_43 : decode prog_33_method_17_code 43 = .ok (.land, 1) := by decide +kernel
theorem own_d7_44 : decode prog_33_method_17_code 44 = .ok (.lstore 4, 2) := by decide +kernel
theorem own_d7_46 : decode prog_33_method_17_code 46 = .ok (.lload 8, 2) := by decide +kernel
theorem own_d7_48 : decode prog_33_method_17_code 48 = .ok (.lload 6, 2) := by decide +kernel
theorem own_d7_50 : decode prog_33_method_17_code 50 = .ok (.bipush 52, 2) := by decide +kernel
theorem own_d7_52 : decode prog_33_method_17_code 52 = .ok (.lshr, 1) := by decide +kernel
theorem own_d7_53 : decode prog_33_method_17_code 53 = .ok (.ladd, 1) := by decide +kernel
theorem own_d7_54 : decode prog_33_method_17_code 54 = .ok (.lstore 8, 2) := by decide +kernel
theorem own_d7_56 : decode prog_33_method_17_code 56 = .ok (.lload 6, 2) := by decide +kernel
theorem own_d7_58 : decode prog_33_method_17_code 58 = .ok (.ldc2_w 66, 3) := by decide +kernel
theorem own_d7_61 : decode prog_33_method_17_code 61 = .ok (.land, 1) := by decide +kernel
theorem own_d7_62 : decode prog_33_method_17_code 62 = .ok (.lstore 6, 2) := by decide +kernel
theorem own_d7_64 : decode prog_33_method_17_code 64 = .ok (.lload_n 0, 1) := by decide +kernel
theorem own_d7_65 : decode prog_33_method_17_code 65 = .ok (.getstatic 68, 3) := by decide +kernel
theorem own_d7_68 : decode prog_33_method_17_code 68 = .ok (.iconst 0, 1) := by decide +kernel
theorem own_d7_69 : decode prog_33_method_17_code 69 = .ok (.laload, 1) := by decide +kernel
theorem own_d7_70 : decode prog_33_method_17_code 70 = .ok (.lsub, 1) := by decide +kernel
theorem own_d7_71 : decode prog_33_method_17_code 71 = .ok (.lstore 11, 2) := by decide +kernel
theorem own_d7_73 : decode prog_33_method_17_code 73 = .ok (.lload_n 2, 1) := by decide +kernel
theorem own_d7_74 : decode prog_33_method_17_code 74 = .ok (.getstatic 68, 3) := by decide +kernel
theorem own_d7_77 : decode prog_33_method_17_code 77 = .ok (.iconst 1, 1) := by decide +kernel
theorem own_d7_78 : decode prog_33_method_17_code 78 = .ok (.laload, 1) := by decide +kernel
theorem own_d7_79 : decode prog_33_method_17_code 79 = .ok (.lsub, 1) := by decide +kernel
theorem own_d7_80 : decode prog_33_method_17_code 80 = .ok (.lload 11, 2) := by decide +kernel
theorem own_d7_82 : decode prog_33_method_17_code 82 = .ok (.bipush 52, 2) := by decide +kernel
theorem own_d7_84 : decode prog_33_method_17_code 84 = .ok (.lshr, 1) := by decide +kernel
theorem own_d7_85 : decode prog_33_method_17_code 85 = .ok (.ladd, 1) := by decide +kernel
theorem own_d7_86 : decode prog_33_method_17_code 86 = .ok (.lstore 13, 2) := by decide +kernel
theorem own_d7_88 : decode prog_33_method_17_code 88 = .ok (.lload 4, 2) := by decide +kernel
theorem own_d7_90 : decode prog_33_method_17_code 90 = .ok (.getstatic 68, 3) := by decide +kernel
theorem own_d7_93 : decode prog_33_method_17_code 93 = .ok (.iconst 2, 1) := by decide +kernel
theorem own_d7_94 : decode prog_33_method_17_code 94 = .ok (.laload, 1) := by decide +kernel
theorem own_d7_95 : decode prog_33_method_17_code 95 = .ok (.lsub, 1) := by decide +kernel
theorem own_d7_96 : decode prog_33_method_17_code 96 = .ok (.lload 13, 2) := by decide +kernel
theorem own_d7_98 : decode prog_33_method_17_code 98 = .ok (.bipush 52, 2) := by decide +kernel
theorem own_d7_100 : decode prog_33_method_17_code 100 = .ok (.lshr, 1) := by decide +kernel
theorem own_d7_101 : decode prog_33_method_17_code 101 = .ok (.ladd, 1) := by decide +kernel
theorem own_d7_102 : decode prog_33_method_17_code 102 = .ok (.lstore 15, 2) := by decide +kernel
theorem own_d7_104 : decode prog_33_method_17_code 104 = .ok (.lload 6, 2) := by decide +kernel
theorem own_d7_106 : decode prog_33_method_17_code 106 = .ok (.getstatic 68, 3) := by decide +kernel
theorem own_d7_109 : decode prog_33_method_17_code 109 = .ok (.iconst 3, 1) := by decide +kernel
theorem own_d7_110 : decode prog_33_method_17_code 110 = .ok (.laload, 1) := by decide +kernel
theorem own_d7_111 : decode prog_33_method_17_code 111 = .ok (.lsub, 1) := by decide +kernel
theorem own_d7_112 : decode prog_33_method_17_code 112 = .ok (.lload 15, 2) := by decide +kernel
theorem own_d7_114 : decode prog_33_method_17_code 114 = .ok (.bipush 52, 2) := by decide +kernel
theorem own_d7_116 : decode prog_33_method_17_code 116 = .ok (.lshr, 1) := by decide +kernel
theorem own_d7_117 : decode prog_33_method_17_code 117 = .ok (.ladd, 1) := by decide +kernel
theorem own_d7_118 : decode prog_33_method_17_code 118 = .ok (.lstore 17, 2) := by decide +kernel
theorem own_d7_120 : decode prog_33_method_17_code 120 = .ok (.lload 8, 2) := by decide +kernel
theorem own_d7_122 : decode prog_33_method_17_code 122 = .ok (.getstatic 68, 3) := by decide +kernel
theorem own_d7_125 : decode prog_33_method_17_code 125 = .ok (.iconst 4, 1) := by decide +kernel
theorem own_d7_126 : decode prog_33_method_17_code 126 = .ok (.laload, 1) := by decide +kernel
theorem own_d7_127 : decode prog_33_method_17_code 127 = .ok (.lsub, 1) := by decide +kernel
theorem own_d7_128 : decode prog_33_method_17_code 128 = .ok (.lload 17, 2) := by decide +kernel
theorem own_d7_130 : decode prog_33_method_17_code 130 = .ok (.bipush 52, 2) := by decide +kernel
theorem own_d7_132 : decode prog_33_method_17_code 132 = .ok (.lshr, 1) := by decide +kernel
theorem own_d7_133 : decode prog_33_method_17_code 133 = .ok (.ladd, 1) := by decide +kernel
theorem own_d7_134 : decode prog_33_method_17_code 134 = .ok (.lstore 19, 2) := by decide +kernel
theorem own_d7_136 : decode prog_33_method_17_code 136 = .ok (.lload 19, 2) := by decide +kernel
theorem own_d7_138 : decode prog_33_method_17_code 138 = .ok (.bipush 63, 2) := by decide +kernel
theorem own_d7_140 : decode prog_33_method_17_code 140 = .ok (.lshr, 1) := by decide +kernel
theorem own_d7_141 : decode prog_33_method_17_code 141 = .ok (.lstore 21, 2) := by decide +kernel
theorem own_d7_143 : decode prog_33_method_17_code 143 = .ok (.aload 10, 2) := by decide +kernel
theorem own_d7_145 : decode prog_33_method_17_code 145 = .ok (.iconst 0, 1) := by decide +kernel
theorem own_d7_146 : decode prog_33_method_17_code 146 = .ok (.lload_n 0, 1) := by decide +kernel
theorem own_d7_147 : decode prog_33_method_17_code 147 = .ok (.lload 21, 2) := by decide +kernel
theorem own_d7_149 : decode prog_33_method_17_code 149 = .ok (.land, 1) := by decide +kernel
theorem own_d7_150 : decode prog_33_method_17_code 150 = .ok (.lload 11, 2) := by decide +kernel
theorem own_d7_152 : decode prog_33_method_17_code 152 = .ok (.ldc2_w 66, 3) := by decide +kernel
theorem own_d7_155 : decode prog_33_method_17_code 155 = .ok (.land, 1) := by decide +kernel
theorem own_d7_156 : decode prog_33_method_17_code 156 = .ok (.lload 21, 2) := by decide +kernel
theorem own_d7_158 : decode prog_33_method_17_code 158 = .ok (.ldc2_w 60, 3) := by decide +kernel
theorem own_d7_161 : decode prog_33_method_17_code 161 = .ok (.lxor, 1) := by decide +kernel
theorem own_d7_162 : decode prog_33_method_17_code 162 = .ok (.land, 1) := by decide +kernel
theorem own_d7_163 : decode prog_33_method_17_code 163 = .ok (.lor, 1) := by decide +kernel
theorem own_d7_164 : decode prog_33_method_17_code 164 = .ok (.lastore, 1) := by decide +kernel
theorem own_d7_165 : decode prog_33_method_17_code 165 = .ok (.aload 10, 2) := by decide +kernel
theorem own_d7_167 : decode prog_33_method_17_code 167 = .ok (.iconst 1, 1) := by decide +kernel
theorem own_d7_168 : decode prog_33_method_17_code 168 = .ok (.lload_n 2, 1) := by decide +kernel
theorem own_d7_169 : decode prog_33_method_17_code 169 = .ok (.lload 21, 2) := by decide +kernel
theorem own_d7_171 : decode prog_33_method_17_code 171 = .ok (.land, 1) := by decide +kernel
theorem own_d7_172 : decode prog_33_method_17_code 172 = .ok (.lload 13, 2) := by decide +kernel
theorem own_d7_174 : decode prog_33_method_17_code 174 = .ok (.ldc2_w 66, 3) := by decide +kernel
theorem own_d7_177 : decode prog_33_method_17_code 177 = .ok (.land, 1) := by decide +kernel
theorem own_d7_178 : decode prog_33_method_17_code 178 = .ok (.lload 21, 2) := by decide +kernel
theorem own_d7_180 : decode prog_33_method_17_code 180 = .ok (.ldc2_w 60, 3) := by decide +kernel
theorem own_d7_183 : decode prog_33_method_17_code 183 = .ok (.lxor, 1) := by decide +kernel
theorem own_d7_184 : decode prog_33_method_17_code 184 = .ok (.land, 1) := by decide +kernel
theorem own_d7_185 : decode prog_33_method_17_code 185 = .ok (.lor, 1) := by decide +kernel
theorem own_d7_186 : decode prog_33_method_17_code 186 = .ok (.lastore, 1) := by decide +kernel
theorem own_d7_187 : decode prog_33_method_17_code 187 = .ok (.aload 10, 2) := by decide +kernel
theorem own_d7_189 : decode prog_33_method_17_code 189 = .ok (.iconst 2, 1) := by decide +kernel
theorem own_d7_190 : decode prog_33_method_17_code 190 = .ok (.lload 4, 2) := by decide +kernel
theorem own_d7_192 : decode prog_33_method_17_code 192 = .ok (.lload 21, 2) := by decide +kernel
theorem own_d7_194 : decode prog_33_method_17_code 194 = .ok (.land, 1) := by decide +kernel
theorem own_d7_195 : decode prog_33_method_17_code 195 = .ok (.lload 15, 2) := by decide +kernel
theorem own_d7_197 : decode prog_33_method_17_code 197 = .ok (.ldc2_w 66, 3) := by decide +kernel
theorem own_d7_200 : decode prog_33_method_17_code 200 = .ok (.land, 1) := by decide +kernel
theorem own_d7_201 : decode prog_33_method_17_code 201 = .ok (.lload 21, 2) := by decide +kernel
theorem own_d7_203 : decode prog_33_method_17_code 203 = .ok (.ldc2_w 60, 3) := by decide +kernel
theorem own_d7_206 : decode prog_33_method_17_code 206 = .ok (.lxor, 1) := by decide +kernel
theorem own_d7_207 : decode prog_33_method_17_code 207 = .ok (.land, 1) := by decide +kernel
theorem own_d7_208 : decode prog_33_method_17_code 208 = .ok (.lor, 1) := by decide +kernel
theorem own_d7_209 : decode prog_33_method_17_code 209 = .ok (.lastore, 1) := by decide +kernel
theorem own_d7_210 : decode prog_33_method_17_code 210 = .ok (.aload 10, 2) := by decide +kernel
theorem own_d7_212 : decode prog_33_method_17_code 212 = .ok (.iconst 3, 1) := by decide +kernel
theorem own_d7_213 : decode prog_33_method_17_code 213 = .ok (.lload 6, 2) := by decide +kernel
theorem own_d7_215 : decode prog_33_method_17_code 215 = .ok (.lload 21, 2) := by decide +kernel
theorem own_d7_217 : decode prog_33_method_17_code 217 = .ok (.land, 1) := by decide +kernel
theorem own_d7_218 : decode prog_33_method_17_code 218 = .ok (.lload 17, 2) := by decide +kernel
theorem own_d7_220 : decode prog_33_method_17_code 220 = .ok (.ldc2_w 66, 3) := by decide +kernel
theorem own_d7_223 : decode prog_33_method_17_code 223 = .ok (.land, 1) := by decide +kernel
theorem own_d7_224 : decode prog_33_method_17_code 224 = .ok (.lload 21, 2) := by decide +kernel
theorem own_d7_226 : decode prog_33_method_17_code 226 = .ok (.ldc2_w 60, 3) := by decide +kernel
theorem own_d7_229 : decode prog_33_method_17_code 229 = .ok (.lxor, 1) := by decide +kernel
theorem own_d7_230 : decode prog_33_method_17_code 230 = .ok (.land, 1) := by decide +kernel
theorem own_d7_231 : decode prog_33_method_17_code 231 = .ok (.lor, 1) := by decide +kernel
theorem own_d7_232 : decode prog_33_method_17_code 232 = .ok (.lastore, 1) := by decide +kernel
theorem own_d7_233 : decode prog_33_method_17_code 233 = .ok (.aload 10, 2) := by decide +kernel
theorem own_d7_235 : decode prog_33_method_17_code 235 = .ok (.iconst 4, 1) := by decide +kernel
theorem own_d7_236 : decode prog_33_method_17_code 236 = .ok (.lload 8, 2) := by decide +kernel
theorem own_d7_238 : decode prog_33_method_17_code 238 = .ok (.lload 21, 2) := by decide +kernel
theorem own_d7_240 : decode prog_33_method_17_code 240 = .ok (.land, 1) := by decide +kernel
theorem own_d7_241 : decode prog_33_method_17_code 241 = .ok (.lload 19, 2) := by decide +kernel
theorem own_d7_243 : decode prog_33_method_17_code 243 = .ok (.lload 21, 2) := by decide +kernel
theorem own_d7_245 : decode prog_33_method_17_code 245 = .ok (.ldc2_w 60, 3) := by decide +kernel
theorem own_d7_248 : decode prog_33_method_17_code 248 = .ok (.lxor, 1) := by decide +kernel
theorem own_d7_249 : decode prog_33_method_17_code 249 = .ok (.land, 1) := by decide +kernel
theorem own_d7_250 : decode prog_33_method_17_code 250 = .ok (.lor, 1) := by decide +kernel
theorem own_d7_251 : decode prog_33_method_17_code 251 = .ok (.lastore, 1) := by decide +kernel
theorem own_d7_252 : decode prog_33_method_17_code 252 = .ok (.return_, 1) := by decide +kernel
def own_f7_6 (q1 : Int64) (q0 : Int64) : Int64 := (q1 + (own_shrL q0 (52 : Int32)))
def own_f7_12 (q0 : Int64) : Int64 := (q0 &&& (4503599627370495 : Int64))
def own_f7_20 (q2 : Int64) (q1 : Int64) (q0 : Int64) : Int64 := (q2 + (own_shrL (own_f7_6 q1 q0) (52 : Int32)))
def own_f7_27 (q1 : Int64) (q0 : Int64) : Int64 := ((own_f7_6 q1 q0) &&& (4503599627370495 : Int64))
def own_f7_36 (q3 : Int64) (q2 : Int64) (q1 : Int64) (q0 : Int64) : Int64 := (q3 + (own_shrL (own_f7_20 q2 q1 q0) (52 : Int32)))
def own_f7_44 (q2 : Int64) (q1 : Int64) (q0 : Int64) : Int64 := ((own_f7_20 q2 q1 q0) &&& (4503599627370495 : Int64))
def own_f7_54 (q4 : Int64) (q3 : Int64) (q2 : Int64) (q1 : Int64) (q0 : Int64) : Int64 := (q4 + (own_shrL (own_f7_36 q3 q2 q1 q0) (52 : Int32)))
def own_f7_62 (q3 : Int64) (q2 : Int64) (q1 : Int64) (q0 : Int64) : Int64 := ((own_f7_36 q3 q2 q1 q0) &&& (4503599627370495 : Int64))
def own_f7_71 (q0 : Int64) : Int64 := ((own_f7_12 q0) - (4503599627370495 : Int64))
def own_f7_86 (q1 : Int64) (q0 : Int64) : Int64 := (((own_f7_27 q1 q0) - (4486007441330175 : Int64)) + (own_shrL (own_f7_71 q0) (52 : Int32)))
def own_f7_102 (q2 : Int64) (q1 : Int64) (q0 : Int64) : Int64 := (((own_f7_44 q2 q1 q0) - (4503599627370495 : Int64)) + (own_shrL (own_f7_86 q1 q0) (52 : Int32)))
def own_f7_118 (q3 : Int64) (q2 : Int64) (q1 : Int64) (q0 : Int64) : Int64 := (((own_f7_62 q3 q2 q1 q0) - (4503599627370495 : Int64)) + (own_shrL (own_f7_102 q2 q1 q0) (52 : Int32)))
def own_f7_134 (q4 : Int64) (q3 : Int64) (q2 : Int64) (q1 : Int64) (q0 : Int64) : Int64 := (((own_f7_54 q4 q3 q2 q1 q0) - (281474976645119 : Int64)) + (own_shrL (own_f7_118 q3 q2 q1 q0) (52 : Int32)))
def own_f7_141 (q4 : Int64) (q3 : Int64) (q2 : Int64) (q1 : Int64) (q0 : Int64) : Int64 := (own_shrL (own_f7_134 q4 q3 q2 q1 q0) (63 : Int32))
def own_f7_v0_0 (q0 : Int64) (q4 : Int64) (q3 : Int64) (q2 : Int64) (q1 : Int64) : Int64 := (((own_f7_12 q0) &&& (own_f7_141 q4 q3 q2 q1 q0)) ||| (((own_f7_71 q0) &&& (4503599627370495 : Int64)) &&& ((own_f7_141 q4 q3 q2 q1 q0) ^^^ (-1 : Int64))))
def own_f7_v0_1 (q1 : Int64) (q0 : Int64) (q4 : Int64) (q3 : Int64) (q2 : Int64) : Int64 := (((own_f7_27 q1 q0) &&& (own_f7_141 q4 q3 q2 q1 q0)) ||| (((own_f7_86 q1 q0) &&& (4503599627370495 : Int64)) &&& ((own_f7_141 q4 q3 q2 q1 q0) ^^^ (-1 : Int64))))
def own_f7_v0_2 (q2 : Int64) (q1 : Int64) (q0 : Int64) (q4 : Int64) (q3 : Int64) : Int64 := (((own_f7_44 q2 q1 q0) &&& (own_f7_141 q4 q3 q2 q1 q0)) ||| (((own_f7_102 q2 q1 q0) &&& (4503599627370495 : Int64)) &&& ((own_f7_141 q4 q3 q2 q1 q0) ^^^ (-1 : Int64))))
def own_f7_v0_3 (q3 : Int64) (q2 : Int64) (q1 : Int64) (q0 : Int64) (q4 : Int64) : Int64 := (((own_f7_62 q3 q2 q1 q0) &&& (own_f7_141 q4 q3 q2 q1 q0)) ||| (((own_f7_118 q3 q2 q1 q0) &&& (4503599627370495 : Int64)) &&& ((own_f7_141 q4 q3 q2 q1 q0) ^^^ (-1 : Int64))))
def own_f7_v0_4 (q4 : Int64) (q3 : Int64) (q2 : Int64) (q1 : Int64) (q0 : Int64) : Int64 := (((own_f7_54 q4 q3 q2 q1 q0) &&& (own_f7_141 q4 q3 q2 q1 q0)) ||| ((own_f7_134 q4 q3 q2 q1 q0) &&& ((own_f7_141 q4 q3 q2 q1 q0) ^^^ (-1 : Int64))))
theorem own_ef7 (m : MethodId) (q0 : Int64) (q1 : Int64) (q2 : Int64) (q3 : Int64) (q4 : Int64) (a5 : Addr) : entryFrame m #[(.long q0), (.long q1), (.long q2), (.long q3), (.long q4), (.ref a5)] 23 = (mkF m 0 #[.val (.long q0), .second, .val (.long q1), .second, .val (.long q2), .second, .val (.long q3), .second, .val (.long q4), .second, .val (.ref a5), .unset, .unset, .unset, .unset, .unset, .unset, .unset, .unset, .unset, .unset, .unset, .unset] []) := by first | (simp [entryFrame, mkF, argsToLocals, Value.category]; done) | rfl
set_option maxRecDepth 65536 in
set_option maxHeartbeats 40000000 in
theorem rm7 (l : Launch) (Z : State) (av0 : Array Value) (hw : ∀ d ∈ tables_1, d.before av0 Z = true) (ws : List Jvm.Cond) (q0 : Int64) (q1 : Int64) (q2 : Int64) (q3 : Int64) (q4 : Int64) (a5 : Addr) (pl : Addr) (kp : ClassId) (k5 : ClassId) (w0 : Int64) (w1 : Int64) (w2 : Int64) (w3 : Int64) (w4 : Int64) (h0 : Heap) (n0 : Nat) (Z0 : n0 ≤ h0.size) (g5 : n0 ≤ a5) (nep : pl ≠ a5) (V5 : Arv Z h0 a5 k5 .long (5 : Int32) [(.long w0), (.long w1), (.long w2), (.long w3), (.long w4)] (.long (0 : Int64))) (Sp : Sta Z h0 "com/example/rxrelay/rxrelay/protocol/gm/Sm2Field" "P_LIMBS" "[J" (.ref pl)) (Vp : Arv Z h0 pl kp .long (5 : Int32) [(.long (4503599627370495 : Int64)), (.long (4486007441330175 : Int64)), (.long (4503599627370495 : Int64)), (.long (4503599627370495 : Int64)), (.long (281474976645119 : Int64))] (.long (0 : Int64))) :
    MetFree l (⟨"com/example/rxrelay/rxrelay/protocol/gm/Sm2Field", "reduceOnce", "(JJJJJ[J)V"⟩ : MethodName) (head1 (Jvm.Cond.code (⟨"com/example/rxrelay/rxrelay/protocol/gm/Sm2Field", "reduceOnce", "(JJJJJ[J)V"⟩ : MethodName) prog_33_method_17_code 23 none :: ws) ({ frames := 0, cells := 0, slots := 0, locals := 0 } : Room)) (fun a U => a = #[(.long q0), (.long q1), (.long q2), (.long q3), (.long q4), (.ref a5)] ∧ Z.Warmed39 U.vm ∧ U.heap = h0) (fun _ _ _ _ _ => True) (fun _ U o U' => ∃ v L, o = .returned v ∧ own_Q n0 (fun h => Keep h0 h [a5] ∧ Arv Z h a5 k5 .long (5 : Int32) [(.long (own_f7_v0_0 q0 q4 q3 q2 q1)), (.long (own_f7_v0_1 q1 q0 q4 q3 q2)), (.long (own_f7_v0_2 q2 q1 q0 q4 q3)), (.long (own_f7_v0_3 q3 q2 q1 q0 q4)), (.long (own_f7_v0_4 q4 q3 q2 q1 q0))] (.long (0 : Int64))) none v U'.heap L ∧ FrameEnd U o U' L ({ frames := 0, cells := 0, slots := 0, locals := 0 } : Room).cells ({ frames := 0, cells := 0, slots := 0, locals := 0 } : Room).slots) := by
  refine MetFree.of_bodySF (plainFor_of_name own_pn1) hisR ?_
  intro p e s m args below meth c s₁ Bd hml0 hP hK
  obtain ⟨rfl, hZ, hh⟩ := hP
  have hx := Bd.exec
  have hby := Bd.bytes
  have hml : c.maxLocals = 23 := hml0
  have hown : s.vm.findClass "com/example/rxrelay/rxrelay/protocol/gm/Sm2Field" = some m.cls := findClass_of_methodNamed Bd.named
  have hnm := (name_of_methodNamed Bd.named Bd.method).1
  have hret := Bd.returns
  have hlk : meth.locks = false := BodyLoose.notSynchronized Bd
  have X0 : Stand p l e ({ frames := 0, cells := 0, slots := 0, locals := 0 } : Room) s m #[(.long q0), (.long q1), (.long q2), (.long q3), (.long q4), (.ref a5)] below meth c s₁ [] 0 0 := Stand.of_body Bd
  have e0 : s₁.heap = h0 := by rw [← hh, Bd.state]; rfl
  have N0 := Fr.nil n0
  clear Bd hh hK
  refine own_fin ?_
  refine own_entry (own_ef7 m q0 q1 q2 q3 q4 a5) ?_
  show own_Run p e below s₁ (mkF m 0 #[.val (.long q0), .second, .val (.long q1), .second, .val (.long q2), .second, .val (.long q3), .second, .val (.long q4), .second, .val (.ref a5), .unset, .unset, .unset, .unset, .unset, .unset, .unset, .unset, .unset, .unset, .unset, .unset] []) _
  refine own_step (fun t k => XS.lloadN X0.here hx rfl (hb hby own_d7_0) rfl  k) ?_
  refine own_step (fun t k => XS.lloadN X0.here hx rfl (hb hby own_d7_1) rfl  k) ?_
  refine own_step (fun t k => XS.bipush X0.here hx rfl (hb hby own_d7_2) k) ?_
  show own_Run p e below s₁ (mkF m 4 #[.val (.long q0), .second, .val (.long q1), .second, .val (.long q2), .second, .val (.long q3), .second, .val (.long q4), .second, .val (.ref a5), .unset, .unset, .unset, .unset, .unset, .unset, .unset, .unset, .unset, .unset, .unset, .unset] [(.int (52 : Int32)), (.long q0), (.long q1)]) _
  refine own_step (fun t k => XS.lshr X0.here hx rfl (hb hby own_d7_4) rfl k) ?_
  show own_Run p e below s₁ (mkF m 5 #[.val (.long q0), .second, .val (.long q1), .second, .val (.long q2), .second, .val (.long q3), .second, .val (.long q4), .second, .val (.ref a5), .unset, .unset, .unset, .unset, .unset, .unset, .unset, .unset, .unset, .unset, .unset, .unset] [(.long (own_shrL q0 (52 : Int32))), (.long q1)]) _
  refine own_step (fun t k => XS.ladd X0.here hx rfl (hb hby own_d7_5) rfl k) ?_
  show own_Run p e below s₁ (mkF m 6 #[.val (.long q0), .second, .val (.long q1), .second, .val (.long q2), .second, .val (.long q3), .second, .val (.long q4), .second, .val (.ref a5), .unset, .unset, .unset, .unset, .unset, .unset, .unset, .unset, .unset, .unset, .unset, .unset] [(.long (q1 + (own_shrL q0 (52 : Int32))))]) _
  obtain ⟨t35, ht35⟩ : ∃ z : Int64, z = (q1 + (own_shrL q0 (52 : Int32))) := ⟨_, rfl⟩
  refine own_step (fun t k => XS.lstoreN X0.here hx rfl (hb hby own_d7_6) rfl (l' := #[.val (.long q0), .second, .val (.long t35), .second, .val (.long q2), .second, .val (.long q3), .second, .val (.long q4), .second, .val (.ref a5), .unset, .unset, .unset, .unset, .unset, .unset, .unset, .unset, .unset, .unset, .unset, .unset]) (by subst ht35; rfl) k) ?_
  show own_Run p e below s₁ (mkF m 7 #[.val (.long q0), .second, .val (.long t35), .second, .val (.long q2), .second, .val (.long q3), .second, .val (.long q4), .second, .val (.ref a5), .unset, .unset, .unset, .unset, .unset, .unset, .unset, .unset, .unset, .unset, .unset, .unset] []) _
  refine own_step (fun t k => XS.lloadN X0.here hx rfl (hb hby own_d7_7) rfl  k) ?_
  refine own_step (fun t k => X0.ldc2Long hx hown (mvT hZ (hw _ (List.mem_of_getElem? (i := 25) rfl))) (g := (mkF m 8 #[.val (.long q0), .second, .val (.long t35), .second, .val (.long q2), .second, .val (.long q3), .second, .val (.long q4), .second, .val (.ref a5), .unset, .unset, .unset, .unset, .unset, .unset, .unset, .unset, .unset, .unset, .unset, .unset] [(.long q0)])) rfl (hb hby own_d7_8) t k) ?_
  show own_Run p e below s₁ (mkF m 11 #[.val (.long q0), .second, .val (.long t35), .second, .val (.long q2), .second, .val (.long q3), .second, .val (.long q4), .second, .val (.ref a5), .unset, .unset, .unset, .unset, .unset, .unset, .unset, .unset, .unset, .unset, .unset, .unset] [(.long (4503599627370495 : Int64)), (.long q0)]) _
  refine own_step (fun t k => XS.land X0.here hx rfl (hb hby own_d7_11) rfl k) ?_
  show own_Run p e below s₁ (mkF m 12 #[.val (.long q0), .second, .val (.long t35), .second, .val (.long q2), .second, .val (.long q3), .second, .val (.long q4), .second, .val (.ref a5), .unset, .unset, .unset, .unset, .unset, .unset, .unset, .unset, .unset, .unset, .unset, .unset] [(.long (q0 &&& (4503599627370495 : Int64)))]) _
  obtain ⟨t36, ht36⟩ : ∃ z : Int64, z = (q0 &&& (4503599627370495 : Int64)) := ⟨_, rfl⟩
  refine own_step (fun t k => XS.lstoreN X0.here hx rfl (hb hby own_d7_12) rfl (l' := #[.val (.long t36), .second, .val (.long t35), .second, .val (.long q2), .second, .val (.long q3), .second, .val (.long q4), .second, .val (.ref a5), .unset, .unset, .unset, .unset, .unset, .unset, .unset, .unset, .unset, .unset, .unset, .unset]) (by subst ht36; rfl) k) ?_
  show own_Run p e below s₁ (mkF m 13 #[.val (.long t36), .second, .val (.long t35), .second, .val (.long q2), .second, .val (.long q3), .second, .val (.long q4), .second, .val (.ref a5), .unset, .unset, .unset, .unset, .unset, .unset, .unset, .unset, .unset, .unset, .unset, .unset] []) _
  refine own_step (fun t k => XS.lload X0.here hx rfl (hb hby own_d7_13) rfl  k) ?_
  refine own_step (fun t k => XS.lloadN X0.here hx rfl (hb hby own_d7_15) rfl  k) ?_
  refine own_step (fun t k => XS.bipush X0.here hx rfl (hb hby own_d7_16) k) ?_
  show own_Run p e below s₁ (mkF m 18 #[.val (.long t36), .second, .val (.long t35), .second, .val (.long q2), .second, .val (.long q3), .second, .val (.long q4), .second, .val (.ref a5), .unset, .unset, .unset, .unset, .unset, .unset, .unset, .unset, .unset, .unset, .unset, .unset] [(.int (52 : Int32)), (.long t35), (.long q2)]) _
  refine own_step (fun t k => XS.lshr X0.here hx rfl (hb hby own_d7_18) rfl k) ?_
  show own_Run p e below s₁ (mkF m 19 #[.val (.long t36), .second, .val (.long t35), .second, .val (.long q2), .second, .val (.long q3), .second, .val (.long q4), .second, .val (.ref a5), .unset, .unset, .unset, .unset, .unset, .unset, .unset, .unset, .unset, .unset, .unset, .unset] [(.long (own_shrL t35 (52 : Int32))), (.long q2)]) _
  refine own_step (fun t k => XS.ladd X0.here hx rfl (hb hby own_d7_19) rfl k) ?_
  show own_Run p e below s₁ (mkF m 20 #[.val (.long t36), .second, .val (.long t35), .second, .val (.long q2), .second, .val (.long q3), .second, .val (.long q4), .second, .val (.ref a5), .unset, .unset, .unset, .unset, .unset, .unset, .unset, .unset, .unset, .unset, .unset, .unset] [(.long (q2 + (own_shrL t35 (52 : Int32))))]) _
  obtain ⟨t37, ht37⟩ : ∃ z : Int64, z = (q2 + (own_shrL t35 (52 : Int32))) := ⟨_, rfl⟩
  refine own_step (fun t k => XS.lstore X0.here hx rfl (hb hby own_d7_20) rfl (l' := #[.val (.long t36), .second, .val (.long t35), .second, .val (.long t37), .second, .val (.long q3), .second, .val (.long q4), .second, .val (.ref a5), .unset, .unset, .unset, .unset, .unset, .unset, .unset, .unset, .unset, .unset, .unset, .unset]) (by subst ht37; rfl) k) ?_
  show own_Run p e below s₁ (mkF m 22 #[.val (.long t36), .second, .val (.long t35), .second, .val (.long t37), .second, .val (.long q3), .second, .val (.long q4), .second, .val (.ref a5), .unset, .unset, .unset, .unset, .unset, .unset, .unset, .unset, .unset, .unset, .unset, .unset] []) _
  refine own_step (fun t k => XS.lloadN X0.here hx rfl (hb hby own_d7_22) rfl  k) ?_
  refine own_step (fun t k => X0.ldc2Long hx hown (mvT hZ (hw _ (List.mem_of_getElem? (i := 25) rfl))) (g := (mkF m 23 #[.val (.long t36), .second, .val (.long t35), .second, .val (.long t37), .second, .val (.long q3), .second, .val (.long q4), .second, .val (.ref a5), .unset, .unset, .unset, .unset, .unset, .unset, .unset, .unset, .unset, .unset, .unset, .unset] [(.long t35)])) rfl (hb hby own_d7_23) t k) ?_
  show own_Run p e below s₁ (mkF m 26 #[.val (.long t36), .second, .val (.long t35), .second, .val (.long t37), .second, .val (.long q3), .second, .val (.long q4), .second, .val (.ref a5), .unset, .unset, .unset, .unset, .unset, .unset, .unset, .unset, .unset, .unset, .unset, .unset] [(.long (4503599627370495 : Int64)), (.long t35)]) _
  refine own_step (fun t k => XS.land X0.here hx rfl (hb hby own_d7_26) rfl k) ?_
  show own_Run p e below s₁ (mkF m 27 #[.val (.long t36), .second, .val (.long t35), .second, .val (.long t37), .second, .val (.long q3), .second, .val (.long q4), .second, .val (.ref a5), .unset, .unset, .unset, .unset, .unset, .unset, .unset, .unset, .unset, .unset, .unset, .unset] [(.long (t35 &&& (4503599627370495 : Int64)))]) _
  obtain ⟨t38, ht38⟩ : ∃ z : Int64, z = (t35 &&& (4503599627370495 : Int64)) := ⟨_, rfl⟩
  refine own_step (fun t k => XS.lstoreN X0.here hx rfl (hb hby own_d7_27) rfl (l' := #[.val (.long t36), .second, .val (.long t38), .second, .val (.long t37), .second, .val (.long q3), .second, .val (.long q4), .second, .val (.ref a5), .unset, .unset, .unset, .unset, .unset, .unset, .unset, .unset, .unset, .unset, .unset, .unset]) (by subst ht38; rfl) k) ?_
  show own_Run p e below s₁ (mkF m 28 #[.val (.long t36), .second, .val (.long t38), .second, .val (.long t37), .second, .val (.long q3), .second, .val (.long q4), .second, .val (.ref a5), .unset, .unset, .unset, .unset, .unset, .unset, .unset, .unset, .unset, .unset, .unset, .unset] []) _
  refine own_step (fun t k => XS.lload X0.here hx rfl (hb hby own_d7_28) rfl  k) ?_
  refine own_step (fun t k => XS.lload X0.here hx rfl (hb hby own_d7_30) rfl  k) ?_
  refine own_step (fun t k => XS.bipush X0.here hx rfl (hb hby own_d7_32) k) ?_
  show own_Run p e below s₁ (mkF m 34 #[.val (.long t36), .second, .val (.long t38), .second, .val (.long t37), .second, .val (.long q3), .second, .val (.long q4), .second, .val (.ref a5), .unset, .unset, .unset, .unset, .unset, .unset, .unset, .unset, .unset, .unset, .unset, .unset] [(.int (52 : Int32)), (.long t37), (.long q3)]) _
  refine own_step (fun t k => XS.lshr X0.here hx rfl (hb hby own_d7_34) rfl k) ?_
  show own_Run p e below s₁ (mkF m 35 #[.val (.long t36), .second, .val (.long t38), .second, .val (.long t37), .second, .val (.long q3), .second, .val (.long q4), .second, .val (.ref a5), .unset, .unset, .unset, .unset, .unset, .unset, .unset, .unset, .unset, .unset, .unset, .unset] [(.long (own_shrL t37 (52 : Int32))), (.long q3)]) _
  refine own_step (fun t k => XS.ladd X0.here hx rfl (hb hby own_d7_35) rfl k) ?_
  show own_Run p e below s₁ (mkF m 36 #[.val (.long t36), .second, .val (.long t38), .second, .val (.long t37), .second, .val (.long q3), .second, .val (.long q4), .second, .val (.ref a5), .unset, .unset, .unset, .unset, .unset, .unset, .unset, .unset, .unset, .unset, .unset, .unset] [(.long (q3 + (own_shrL t37 (52 : Int32))))]) _
  obtain ⟨t39, ht39⟩ : ∃ z : Int64, z = (q3 + (own_shrL t37 (52 : Int32))) := ⟨_, rfl⟩
  refine own_step (fun t k => XS.lstore X0.here hx rfl (hb hby own_d7_36) rfl (l' := #[.val (.long t36), .second, .val (.long t38), .second, .val (.long t37), .second, .val (.long t39), .second, .val (.long q4), .second, .val (.ref a5), .unset, .unset, .unset, .unset, .unset, .unset, .unset, .unset, .unset, .unset, .unset, .unset]) (by subst ht39; rfl) k) ?_
  show own_Run p e below s₁ (mkF m 38 #[.val (.long t36), .second, .val (.long t38), .second, .val (.long t37), .second, .val (.long t39), .second, .val (.long q4), .second, .val (.ref a5), .unset, .unset, .unset, .unset, .unset, .unset, .unset, .unset, .unset, .unset, .unset, .unset] []) _
  refine own_step (fun t k => XS.lload X0.here hx rfl (hb hby own_d7_38) rfl  k) ?_
  refine own_step (fun t k => X0.ldc2Long hx hown (mvT hZ (hw _ (List.mem_of_getElem? (i := 25) rfl))) (g := (mkF m 40 #[.val (.long t36), .second, .val (.long t38), .second, .val (.long t37), .second, .val (.long t39), .second, .val (.long q4), .second, .val (.ref a5), .unset, .unset, .unset, .unset, .unset, .unset, .unset, .unset, .unset, .unset, .unset, .unset] [(.long t37)])) rfl (hb hby own_d7_40) t k) ?_
  show own_Run p e below s₁ (mkF m 43 #[.val (.long t36), .second, .val (.long t38), .second, .val (.long t37), .second, .val (.long t39), .second, .val (.long q4), .second, .val (.ref a5), .unset, .unset, .unset, .unset, .unset, .unset, .unset, .unset, .unset, .unset, .unset, .unset] [(.long (4503599627370495 : Int64)), (.long t37)]) _
  refine own_step (fun t k => XS.land X0.here hx rfl (hb hby own_d7_43) rfl k) ?_
  show own_Run p e below s₁ (mkF m 44 #[.val (.long t36), .second, .val (.long t38), .second, .val (.long t37), .second, .val (.long t39), .second, .val (.long q4), .second, .val (.ref a5), .unset, .unset, .unset, .unset, .unset, .unset, .unset, .unset, .unset, .unset, .unset, .unset] [(.long (t37 &&& (4503599627370495 : Int64)))]) _
  obtain ⟨t40, ht40⟩ : ∃ z : Int64, z = (t37 &&& (4503599627370495 : Int64)) := ⟨_, rfl⟩
  refine own_step (fun t k => XS.lstore X0.here hx rfl (hb hby own_d7_44) rfl (l' := #[.val (.long t36), .second, .val (.long t38), .second, .val (.long t40), .second, .val (.long t39), .second, .val (.long q4), .second, .val (.ref a5), .unset, .unset, .unset, .unset, .unset, .unset, .unset, .unset, .unset, .unset, .unset, .unset]) (by subst ht40; rfl) k) ?_
  show own_Run p e below s₁ (mkF m 46 #[.val (.long t36), .second, .val (.long t38), .second, .val (.long t40), .second, .val (.long t39), .second, .val (.long q4), .second, .val (.ref a5), .unset, .unset, .unset, .unset, .unset, .unset, .unset, .unset, .unset, .unset, .unset, .unset] []) _
  refine own_step (fun t k => XS.lload X0.here hx rfl (hb hby own_d7_46) rfl  k) ?_
  refine own_step (fun t k => XS.lload X0.here hx rfl (hb hby own_d7_48) rfl  k) ?_
  refine own_step (fun t k => XS.bipush X0.here hx rfl (hb hby own_d7_50) k) ?_
  show own_Run p e below s₁ (mkF m 52 #[.val (.long t36), .second, .val (.long t38), .second, .val (.long t40), .second, .val (.long t39), .second, .val (.long q4), .second, .val (.ref a5), .unset, .unset, .unset, .unset, .unset, .unset, .unset, .unset, .unset, .unset, .unset, .unset] [(.int (52 : Int32)), (.long t39), (.long q4)]) _
  refine own_step (fun t k => XS.lshr X0.here hx rfl (hb hby own_d7_52) rfl k) ?_
  show own_Run p e below s₁ (mkF m 53 #[.val (.long t36), .second, .val (.long t38), .second, .val (.long t40), .second, .val (.long t39), .second, .val (.long q4), .second, .val (.ref a5), .unset, .unset, .unset, .unset, .unset, .unset, .unset, .unset, .unset, .unset, .unset, .unset] [(.long (own_shrL t39 (52 : Int32))), (.long q4)]) _
  refine own_step (fun t k => XS.ladd X0.here hx rfl (hb hby own_d7_53) rfl k) ?_
  show own_Run p e below s₁ (mkF m 54 #[.val (.long t36), .second, .val (.long t38), .second, .val (.long t40), .second, .val (.long t39), .second, .val (.long q4), .second, .val (.ref a5), .unset, .unset, .unset, .unset, .unset, .unset, .unset, .unset, .unset, .unset, .unset, .unset] [(.long (q4 + (own_shrL t39 (52 : Int32))))]) _
  obtain ⟨t41, ht41⟩ : ∃ z : Int64, z = (q4 + (own_shrL t39 (52 : Int32))) := ⟨_, rfl⟩
  refine own_step (fun t k => XS.lstore X0.here hx rfl (hb hby own_d7_54) rfl (l' := #[.val (.long t36), .second, .val (.long t38), .second, .val (.long t40), .second, .val (.long t39), .second, .val (.long t41), .second, .val (.ref a5), .unset, .unset, .unset, .unset, .unset, .unset, .unset, .unset, .unset, .unset, .unset, .unset]) (by subst ht41; rfl) k) ?_
  show own_Run p e below s₁ (mkF m 56 #[.val (.long t36), .second, .val (.long t38), .second, .val (.long t40), .second, .val (.long t39), .second, .val (.long t41), .second, .val (.ref a5), .unset, .unset, .unset, .unset, .unset, .unset, .unset, .unset, .unset, .unset, .unset, .unset] []) _
  refine own_step (fun t k => XS.lload X0.here hx rfl (hb hby own_d7_56) rfl  k) ?_
  refine own_step (fun t k => X0.ldc2Long hx hown (mvT hZ (hw _ (List.mem_of_getElem? (i := 25) rfl))) (g := (mkF m 58 #[.val (.long t36), .second, .val (.long t38), .second, .val (.long t40), .second, .val (.long t39), .second, .val (.long t41), .second, .val (.ref a5), .unset, .unset, .unset, .unset, .unset, .unset, .unset, .unset, .unset, .unset, .unset, .unset] [(.long t39)])) rfl (hb hby own_d7_58) t k) ?_
  show own_Run p e below s₁ (mkF m 61 #[.val (.long t36), .second, .val (.long t38), .second, .val (.long t40), .second, .val (.long t39), .second, .val (.long t41), .second, .val (.ref a5), .unset, .unset, .unset, .unset, .unset, .unset, .unset, .unset, .unset, .unset, .unset, .unset] [(.long (4503599627370495 : Int64)), (.long t39)]) _
  refine own_step (fun t k => XS.land X0.here hx rfl (hb hby own_d7_61) rfl k) ?_
  show own_Run p e below s₁ (mkF m 62 #[.val (.long t36), .second, .val (.long t38), .second, .val (.long t40), .second, .val (.long t39), .second, .val (.long t41), .second, .val (.ref a5), .unset, .unset, .unset, .unset, .unset, .unset, .unset, .unset, .unset, .unset, .unset, .unset] [(.long (t39 &&& (4503599627370495 : Int64)))]) _
  obtain ⟨t42, ht42⟩ : ∃ z : Int64, z = (t39 &&& (4503599627370495 : Int64)) := ⟨_, rfl⟩
  refine own_step (fun t k => XS.lstore X0.here hx rfl (hb hby own_d7_62) rfl (l' := #[.val (.long t36), .second, .val (.long t38), .second, .val (.long t40), .second, .val (.long t42), .second, .val (.long t41), .second, .val (.ref a5), .unset, .unset, .unset, .unset, .unset, .unset, .unset, .unset, .unset, .unset, .unset, .unset]) (by subst ht42; rfl) k) ?_
  show own_Run p e below s₁ (mkF m 64 #[.val (.long t36), .second, .val (.long t38), .second, .val (.long t40), .second, .val (.long t42), .second, .val (.long t41), .second, .val (.ref a5), .unset, .unset, .unset, .unset, .unset, .unset, .unset, .unset, .unset, .unset, .unset, .unset] []) _
  refine own_step (fun t k => XS.lloadN X0.here hx rfl (hb hby own_d7_64) rfl  k) ?_
  obtain ⟨T43, X43, e43, st43⟩ := getS2 X0 hx hZ hown (host := "") (Or.inl (hw _ (List.mem_of_getElem? (i := 26) rfl))) Via.refl e0 Sp (g := (mkF m 65 #[.val (.long t36), .second, .val (.long t38), .second, .val (.long t40), .second, .val (.long t42), .second, .val (.long t41), .second, .val (.ref a5), .unset, .unset, .unset, .unset, .unset, .unset, .unset, .unset, .unset, .unset, .unset, .unset] [(.long t36)])) rfl (hb hby own_d7_65)
  refine own_step st43 ?_
  show own_Run p e below T43 (mkF m 68 #[.val (.long t36), .second, .val (.long t38), .second, .val (.long t40), .second, .val (.long t42), .second, .val (.long t41), .second, .val (.ref a5), .unset, .unset, .unset, .unset, .unset, .unset, .unset, .unset, .unset, .unset, .unset, .unset] [(.ref pl), (.long t36)]) _
  refine own_step (fun t k => XS.iconst X43.here hx rfl (hb hby own_d7_68) k) ?_
  refine own_step (own_ldJ X43 hx hZ e43 Vp (j := (0 : Int32)) (v := (.long (4503599627370495 : Int64))) ⟨by decide, by decide⟩ rfl (g := (mkF m 69 #[.val (.long t36), .second, .val (.long t38), .second, .val (.long t40), .second, .val (.long t42), .second, .val (.long t41), .second, .val (.ref a5), .unset, .unset, .unset, .unset, .unset, .unset, .unset, .unset, .unset, .unset, .unset, .unset] [(.int (0 : Int32)), (.ref pl), (.long t36)])) rfl rfl (hb hby own_d7_69)) ?_
  show own_Run p e below T43 (mkF m 70 #[.val (.long t36), .second, .val (.long t38), .second, .val (.long t40), .second, .val (.long t42), .second, .val (.long t41), .second, .val (.ref a5), .unset, .unset, .unset, .unset, .unset, .unset, .unset, .unset, .unset, .unset, .unset, .unset] [(.long (4503599627370495 : Int64)), (.long t36)]) _
  refine own_step (fun t k => XS.lsub X43.here hx rfl (hb hby own_d7_70) rfl k) ?_
  show own_Run p e below T43 (mkF m 71 #[.val (.long t36), .second, .val (.long t38), .second, .val (.long t40), .second, .val (.long t42), .second, .val (.long t41), .second, .val (.ref a5), .unset, .unset, .unset, .unset, .unset, .unset, .unset, .unset, .unset, .unset, .unset, .unset] [(.long (t36 - (4503599627370495 : Int64)))]) _
  obtain ⟨t44, ht44⟩ : ∃ z : Int64, z = (t36 - (4503599627370495 : Int64)) := ⟨_, rfl⟩
  refine own_step (fun t k => XS.lstore X43.here hx rfl (hb hby own_d7_71) rfl (l' := #[.val (.long t36), .second, .val (.long t38), .second, .val (.long t40), .second, .val (.long t42), .second, .val (.long t41), .second, .val (.ref a5), .val (.long t44), .second, .unset, .unset, .unset, .unset, .unset, .unset, .unset, .unset, .unset, .unset]) (by subst ht44; rfl) k) ?_
  show own_Run p e below T43 (mkF m 73 #[.val (.long t36), .second, .val (.long t38), .second, .val (.long t40), .second, .val (.long t42), .second, .val (.long t41), .second, .val (.ref a5), .val (.long t44), .second, .unset, .unset, .unset, .unset, .unset, .unset, .unset, .unset, .unset, .unset] []) _
  refine own_step (fun t k => XS.lloadN X43.here hx rfl (hb hby own_d7_73) rfl  k) ?_
  obtain ⟨T45, X45, e45, st45⟩ := getS2 X43 hx hZ hown (host := "") (Or.inl (hw _ (List.mem_of_getElem? (i := 26) rfl))) Via.refl e43 Sp (g := (mkF m 74 #[.val (.long t36), .second, .val (.long t38), .second, .val (.long t40), .second, .val (.long t42), .second, .val (.long t41), .second, .val (.ref a5), .val (.long t44), .second, .unset, .unset, .unset, .unset, .unset, .unset, .unset, .unset, .unset, .unset] [(.long t38)])) rfl (hb hby own_d7_74)
  refine own_step st45 ?_
  show own_Run p e below T45 (mkF m 77 #[.val (.long t36), .second, .val (.long t38), .second, .val (.long t40), .second, .val (.long t42), .second, .val (.long t41), .second, .val (.ref a5), .val (.long t44), .second, .unset, .unset, .unset, .unset, .unset, .unset, .unset, .unset, .unset, .unset] [(.ref pl), (.long t38)]) _
  refine own_step (fun t k => XS.iconst X45.here hx rfl (hb hby own_d7_77) k) ?_
  refine own_step (own_ldJ X45 hx hZ e45 Vp (j := (1 : Int32)) (v := (.long (4486007441330175 : Int64))) ⟨by decide, by decide⟩ rfl (g := (mkF m 78 #[.val (.long t36), .second, .val (.long t38), .second, .val (.long t40), .second, .val (.long t42), .second, .val (.long t41), .second, .val (.ref a5), .val (.long t44), .second, .unset, .unset, .unset, .unset, .unset, .unset, .unset, .unset, .unset, .unset] [(.int (1 : Int32)), (.ref pl), (.long t38)])) rfl rfl (hb hby own_d7_78)) ?_
  show own_Run p e below T45 (mkF m 79 #[.val (.long t36), .second, .val (.long t38), .second, .val (.long t40), .second, .val (.long t42), .second, .val (.long t41), .second, .val (.ref a5), .val (.long t44), .second, .unset, .unset, .unset, .unset, .unset, .unset, .unset, .unset, .unset, .unset] [(.long (4486007441330175 : Int64)), (.long t38)]) _
  refine own_step (fun t k => XS.lsub X45.here hx rfl (hb hby own_d7_79) rfl k) ?_
  show own_Run p e below T45 (mkF m 80 #[.val (.long t36), .second, .val (.long t38), .second, .val (.long t40), .second, .val (.long t42), .second, .val (.long t41), .second, .val (.ref a5), .val (.long t44), .second, .unset, .unset, .unset, .unset, .unset, .unset, .unset, .unset, .unset, .unset] [(.long (t38 - (4486007441330175 : Int64)))]) _
  refine own_step (fun t k => XS.lload X45.here hx rfl (hb hby own_d7_80) rfl  k) ?_
  refine own_step (fun t k => XS.bipush X45.here hx rfl (hb hby own_d7_82) k) ?_
  refine own_step (fun t k => XS.lshr X45.here hx rfl (hb hby own_d7_84) rfl k) ?_
  show own_Run p e below T45 (mkF m 85 #[.val (.long t36), .second, .val (.long t38), .second, .val (.long t40), .second, .val (.long t42), .second, .val (.long t41), .second, .val (.ref a5), .val (.long t44), .second, .unset, .unset, .unset, .unset, .unset, .unset, .unset, .unset, .unset, .unset] [(.long (own_shrL t44 (52 : Int32))), (.long (t38 - (4486007441330175 : Int64)))]) _
  refine own_step (fun t k => XS.ladd X45.here hx rfl (hb hby own_d7_85) rfl k) ?_
  show own_Run p e below T45 (mkF m 86 #[.val (.long t36), .second, .val (.long t38), .second, .val (.long t40), .second, .val (.long t42), .second, .val (.long t41), .second, .val (.ref a5), .val (.long t44), .second, .unset, .unset, .unset, .unset, .unset, .unset, .unset, .unset, .unset, .unset] [(.long ((t38 - (4486007441330175 : Int64)) + (own_shrL t44 (52 : Int32))))]) _
  obtain ⟨t46, ht46⟩ : ∃ z : Int64, z = ((t38 - (4486007441330175 : Int64)) + (own_shrL t44 (52 : Int32))) := ⟨_, rfl⟩
  refine own_step (fun t k => XS.lstore X45.here hx rfl (hb hby own_d7_86) rfl (l' := #[.val (.long t36), .second, .val (.long t38), .second, .val (.long t40), .second, .val (.long t42), .second, .val (.long t41), .second, .val (.ref a5), .val (.long t44), .second, .val (.long t46), .second, .unset, .unset, .unset, .unset, .unset, .unset, .unset, .unset]) (by subst ht46; rfl) k) ?_
  show own_Run p e below T45 (mkF m 88 #[.val (.long t36), .second, .val (.long t38), .second, .val (.long t40), .second, .val (.long t42), .second, .val (.long t41), .second, .val (.ref a5), .val (.long t44), .second, .val (.long t46), .second, .unset, .unset, .unset, .unset, .unset, .unset, .unset, .unset] []) _
  refine own_step (fun t k => XS.lload X45.here hx rfl (hb hby own_d7_88) rfl  k) ?_
  obtain ⟨T47, X47, e47, st47⟩ := getS2 X45 hx hZ hown (host := "") (Or.inl (hw _ (List.mem_of_getElem? (i := 26) rfl))) Via.refl e45 Sp (g := (mkF m 90 #[.val (.long t36), .second, .val (.long t38), .second, .val (.long t40), .second, .val (.long t42), .second, .val (.long t41), .second, .val (.ref a5), .val (.long t44), .second, .val (.long t46), .second, .unset, .unset, .unset, .unset, .unset, .unset, .unset, .unset] [(.long t40)])) rfl (hb hby own_d7_90)
  refine own_step st47 ?_
  show own_Run p e below T47 (mkF m 93 #[.val (.long t36), .second, .val (.long t38), .second, .val (.long t40), .second, .val (.long t42), .second, .val (.long t41), .second, .val (.ref a5), .val (.long t44), .second, .val (.long t46), .second, .unset, .unset, .unset, .unset, .unset, .unset, .unset, .unset] [(.ref pl), (.long t40)]) _
  refine own_step (fun t k => XS.iconst X47.here hx rfl (hb hby own_d7_93) k) ?_
  refine own_step (own_ldJ X47 hx hZ e47 Vp (j := (2 : Int32)) (v := (.long (4503599627370495 : Int64))) ⟨by decide, by decide⟩ rfl (g := (mkF m 94 #[.val (.long t36), .second, .val (.long t38), .second, .val (.long t40), .second, .val (.long t42), .second, .val (.long t41), .second, .val (.ref a5), .val (.long t44), .second, .val (.long t46), .second, .unset, .unset, .unset, .unset, .unset, .unset, .unset, .unset] [(.int (2 : Int32)), (.ref pl), (.long t40)])) rfl rfl (hb hby own_d7_94)) ?_
  show own_Run p e below T47 (mkF m 95 #[.val (.long t36), .second, .val (.long t38), .second, .val (.long t40), .second, .val (.long t42), .second, .val (.long t41), .second, .val (.ref a5), .val (.long t44), .second, .val (.long t46), .second, .unset, .unset, .unset, .unset, .unset, .unset, .unset, .unset] [(.long (4503599627370495 : Int64)), (.long t40)]) _
  refine own_step (fun t k => XS.lsub X47.here hx rfl (hb hby own_d7_95) rfl k) ?_
  show own_Run p e below T47 (mkF m 96 #[.val (.long t36), .second, .val (.long t38), .second, .val (.long t40), .second, .val (.long t42), .second, .val (.long t41), .second, .val (.ref a5), .val (.long t44), .second, .val (.long t46), .second, .unset, .unset, .unset, .unset, .unset, .unset, .unset, .unset] [(.long (t40 - (4503599627370495 : Int64)))]) _
  refine own_step (fun t k => XS.lload X47.here hx rfl (hb hby own_d7_96) rfl  k) ?_
  refine own_step (fun t k => XS.bipush X47.here hx rfl (hb hby own_d7_98) k) ?_
  refine own_step (fun t k => XS.lshr X47.here hx rfl (hb hby own_d7_100) rfl k) ?_
  show own_Run p e below T47 (mkF m 101 #[.val (.long t36), .second, .val (.long t38), .second, .val (.long t40), .second, .val (.long t42), .second, .val (.long t41), .second, .val (.ref a5), .val (.long t44), .second, .val (.long t46), .second, .unset, .unset, .unset, .unset, .unset, .unset, .unset, .unset] [(.long (own_shrL t46 (52 : Int32))), (.long (t40 - (4503599627370495 : Int64)))]) _
  refine own_step (fun t k => XS.ladd X47.here hx rfl (hb hby own_d7_101) rfl k) ?_
  show own_Run p e below T47 (mkF m 102 #[.val (.long t36), .second, .val (.long t38), .second, .val (.long t40), .second, .val (.long t42), .second, .val (.long t41), .second, .val (.ref a5), .val (.long t44), .second, .val (.long t46), .second, .unset, .unset, .unset, .unset, .unset, .unset, .unset, .unset] [(.long ((t40 - (4503599627370495 : Int64)) + (own_shrL t46 (52 : Int32))))]) _
  obtain ⟨t48, ht48⟩ : ∃ z : Int64, z = ((t40 - (4503599627370495 : Int64)) + (own_shrL t46 (52 : Int32))) := ⟨_, rfl⟩
  refine own_step (fun t k => XS.lstore X47.here hx rfl (hb hby own_d7_102) rfl (l' := #[.val (.long t36), .second, .val (.long t38), .second, .val (.long t40), .second, .val (.long t42), .second, .val (.long t41), .second, .val (.ref a5), .val (.long t44), .second, .val (.long t46), .second, .val (.long t48), .second, .unset, .unset, .unset, .unset, .unset, .unset]) (by subst ht48; rfl) k) ?_
  show own_Run p e below T47 (mkF m 104 #[.val (.long t36), .second, .val (.long t38), .second, .val (.long t40), .second, .val (.long t42), .second, .val (.long t41), .second, .val (.ref a5), .val (.long t44), .second, .val (.long t46), .second, .val (.long t48), .second, .unset, .unset, .unset, .unset, .unset, .unset] []) _
  refine own_step (fun t k => XS.lload X47.here hx rfl (hb hby own_d7_104) rfl  k) ?_
  obtain ⟨T49, X49, e49, st49⟩ := getS2 X47 hx hZ hown (host := "") (Or.inl (hw _ (List.mem_of_getElem? (i := 26) rfl))) Via.refl e47 Sp (g := (mkF m 106 #[.val (.long t36), .second, .val (.long t38), .second, .val (.long t40), .second, .val (.long t42), .second, .val (.long t41), .second, .val (.ref a5), .val (.long t44), .second, .val (.long t46), .second, .val (.long t48), .second, .unset, .unset, .unset, .unset, .unset, .unset] [(.long t42)])) rfl (hb hby own_d7_106)
  refine own_step st49 ?_
  show own_Run p e below T49 (mkF m 109 #[.val (.long t36), .second, .val (.long t38), .second, .val (.long t40), .second, .val (.long t42), .second, .val (.long t41), .second, .val (.ref a5), .val (.long t44), .second, .val (.long t46), .second, .val (.long t48), .second, .unset, .unset, .unset, .unset, .unset, .unset] [(.ref pl), (.long t42)]) _
  refine own_step (fun t k => XS.iconst X49.here hx rfl (hb hby own_d7_109) k) ?_
  refine own_step (own_ldJ X49 hx hZ e49 Vp (j := (3 : Int32)) (v := (.long (4503599627370495 : Int64))) ⟨by decide, by decide⟩ rfl (g := (mkF m 110 #[.val (.long t36), .second, .val (.long t38), .second, .val (.long t40), .second, .val (.long t42), .second, .val (.long t41), .second, .val (.ref a5), .val (.long t44), .second, .val (.long t46), .second, .val (.long t48), .second, .unset, .unset, .unset, .unset, .unset, .unset] [(.int (3 : Int32)), (.ref pl), (.long t42)])) rfl rfl (hb hby own_d7_110)) ?_
  show own_Run p e below T49 (mkF m 111 #[.val (.long t36), .second, .val (.long t38), .second, .val (.long t40), .second, .val (.long t42), .second, .val (.long t41), .second, .val (.ref a5), .val (.long t44), .second, .val (.long t46), .second, .val (.long t48), .second, .unset, .unset, .unset, .unset, .unset, .unset] [(.long (4503599627370495 : Int64)), (.long t42)]) _
  refine own_step (fun t k => XS.lsub X49.here hx rfl (hb hby own_d7_111) rfl k) ?_
  show own_Run p e below T49 (mkF m 112 #[.val (.long t36), .second, .val (.long t38), .second, .val (.long t40), .second, .val (.long t42), .second, .val (.long t41), .second, .val (.ref a5), .val (.long t44), .second, .val (.long t46), .second, .val (.long t48), .second, .unset, .unset, .unset, .unset, .unset, .unset] [(.long (t42 - (4503599627370495 : Int64)))]) _
  refine own_step (fun t k => XS.lload X49.here hx rfl (hb hby own_d7_112) rfl  k) ?_
  refine own_step (fun t k => XS.bipush X49.here hx rfl (hb hby own_d7_114) k) ?_
  refine own_step (fun t k => XS.lshr X49.here hx rfl (hb hby own_d7_116) rfl k) ?_
  show own_Run p e below T49 (mkF m 117 #[.val (.long t36), .second, .val (.long t38), .second, .val (.long t40), .second, .val (.long t42), .second, .val (.long t41), .second, .val (.ref a5), .val (.long t44), .second, .val (.long t46), .second, .val (.long t48), .second, .unset, .unset, .unset, .unset, .unset, .unset] [(.long (own_shrL t48 (52 : Int32))), (.long (t42 - (4503599627370495 : Int64)))]) _
  refine own_step (fun t k => XS.ladd X49.here hx rfl (hb hby own_d7_117) rfl k) ?_
  show own_Run p e below T49 (mkF m 118 #[.val (.long t36), .second, .val (.long t38), .second, .val (.long t40), .second, .val (.long t42), .second, .val (.long t41), .second, .val (.ref a5), .val (.long t44), .second, .val (.long t46), .second, .val (.long t48), .second, .unset, .unset, .unset, .unset, .unset, .unset] [(.long ((t42 - (4503599627370495 : Int64)) + (own_shrL t48 (52 : Int32))))]) _
  obtain ⟨t50, ht50⟩ : ∃ z : Int64, z = ((t42 - (4503599627370495 : Int64)) + (own_shrL t48 (52 : Int32))) := ⟨_, rfl⟩
  refine own_step (fun t k => XS.lstore X49.here hx rfl (hb hby own_d7_118) rfl (l' := #[.val (.long t36), .second, .val (.long t38), .second, .val (.long t40), .second, .val (.long t42), .second, .val (.long t41), .second, .val (.ref a5), .val (.long t44), .second, .val (.long t46), .second, .val (.long t48), .second, .val (.long t50), .second, .unset, .unset, .unset, .unset]) (by subst ht50; rfl) k) ?_
  show own_Run p e below T49 (mkF m 120 #[.val (.long t36), .second, .val (.long t38), .second, .val (.long t40), .second, .val (.long t42), .second, .val (.long t41), .second, .val (.ref a5), .val (.long t44), .second, .val (.long t46), .second, .val (.long t48), .second, .val (.long t50), .second, .unset, .unset, .unset, .unset] []) _
  refine own_step (fun t k => XS.lload X49.here hx rfl (hb hby own_d7_120) rfl  k) ?_
  obtain ⟨T51, X51, e51, st51⟩ := getS2 X49 hx hZ hown (host := "") (Or.inl (hw _ (List.mem_of_getElem? (i := 26) rfl))) Via.refl e49 Sp (g := (mkF m 122 #[.val (.long t36), .second, .val (.long t38), .second, .val (.long t40), .second, .val (.long t42), .second, .val (.long t41), .second, .val (.ref a5), .val (.long t44), .second, .val (.long t46), .second, .val (.long t48), .second, .val (.long t50), .second, .unset, .unset, .unset, .unset] [(.long t41)])) rfl (hb hby own_d7_122)
  refine own_step st51 ?_
  show own_Run p e below T51 (mkF m 125 #[.val (.long t36), .second, .val (.long t38), .second, .val (.long t40), .second, .val (.long t42), .second, .val (.long t41), .second, .val (.ref a5), .val (.long t44), .second, .val (.long t46), .second, .val (.long t48), .second, .val (.long t50), .second, .unset, .unset, .unset, .unset] [(.ref pl), (.long t41)]) _
  refine own_step (fun t k => XS.iconst X51.here hx rfl (hb hby own_d7_125) k) ?_
  refine own_step (own_ldJ X51 hx hZ e51 Vp (j := (4 : Int32)) (v := (.long (281474976645119 : Int64))) ⟨by decide, by decide⟩ rfl (g := (mkF m 126 #[.val (.long t36), .second, .val (.long t38), .second, .val (.long t40), .second, .val (.long t42), .second, .val (.long t41), .second, .val (.ref a5), .val (.long t44), .second, .val (.long t46), .second, .val (.long t48), .second, .val (.long t50), .second, .unset, .unset, .unset, .unset] [(.int (4 : Int32)), (.ref pl), (.long t41)])) rfl rfl (hb hby own_d7_126)) ?_
  show own_Run p e below T51 (mkF m 127 #[.val (.long t36), .second, .val (.long t38), .second, .val (.long t40), .second, .val (.long t42), .second, .val (.long t41), .second, .val (.ref a5), .val (.long t44), .second, .val (.long t46), .second, .val (.long t48), .second, .val (.long t50), .second, .unset, .unset, .unset, .unset] [(.long (281474976645119 : Int64)), (.long t41)]) _
  refine own_step (fun t k => XS.lsub X51.here hx rfl (hb hby own_d7_127) rfl k) ?_
  show own_Run p e below T51 (mkF m 128 #[.val (.long t36), .second, .val (.long t38), .second, .val (.long t40), .second, .val (.long t42), .second, .val (.long t41), .second, .val (.ref a5), .val (.long t44), .second, .val (.long t46), .second, .val (.long t48), .second, .val (.long t50), .second, .unset, .unset, .unset, .unset] [(.long (t41 - (281474976645119 : Int64)))]) _
  refine own_step (fun t k => XS.lload X51.here hx rfl (hb hby own_d7_128) rfl  k) ?_
  refine own_step (fun t k => XS.bipush X51.here hx rfl (hb hby own_d7_130) k) ?_
  refine own_step (fun t k => XS.lshr X51.here hx rfl (hb hby own_d7_132) rfl k) ?_
  show own_Run p e below T51 (mkF m 133 #[.val (.long t36), .second, .val (.long t38), .second, .val (.long t40), .second, .val (.long t42), .second, .val (.long t41), .second, .val (.ref a5), .val (.long t44), .second, .val (.long t46), .second, .val (.long t48), .second, .val (.long t50), .second, .unset, .unset, .unset, .unset] [(.long (own_shrL t50 (52 : Int32))), (.long (t41 - (281474976645119 : Int64)))]) _
  refine own_step (fun t k => XS.ladd X51.here hx rfl (hb hby own_d7_133) rfl k) ?_
  show own_Run p e below T51 (mkF m 134 #[.val (.long t36), .second, .val (.long t38), .second, .val (.long t40), .second, .val (.long t42), .second, .val (.long t41), .second, .val (.ref a5), .val (.long t44), .second, .val (.long t46), .second, .val (.long t48), .second, .val (.long t50), .second, .unset, .unset, .unset, .unset] [(.long ((t41 - (281474976645119 : Int64)) + (own_shrL t50 (52 : Int32))))]) _
  obtain ⟨t52, ht52⟩ : ∃ z : Int64, z = ((t41 - (281474976645119 : Int64)) + (own_shrL t50 (52 : Int32))) := ⟨_, rfl⟩
  refine own_step (fun t k => XS.lstore X51.here hx rfl (hb hby own_d7_134) rfl (l' := #[.val (.long t36), .second, .val (.long t38), .second, .val (.long t40), .second, .val (.long t42), .second, .val (.long t41), .second, .val (.ref a5), .val (.long t44), .second, .val (.long t46), .second, .val (.long t48), .second, .val (.long t50), .second, .val (.long t52), .second, .unset, .unset]) (by subst ht52; rfl) k) ?_
  show own_Run p e below T51 (mkF m 136 #[.val (.long t36), .second, .val (.long t38), .second, .val (.long t40), .second, .val (.long t42), .second, .val (.long t41), .second, .val (.ref a5), .val (.long t44), .second, .val (.long t46), .second, .val (.long t48), .second, .val (.long t50), .second, .val (.long t52), .second, .unset, .unset] []) _
  refine own_step (fun t k => XS.lload X51.here hx rfl (hb hby own_d7_136) rfl  k) ?_
  refine own_step (fun t k => XS.bipush X51.here hx rfl (hb hby own_d7_138) k) ?_
  refine own_step (fun t k => XS.lshr X51.here hx rfl (hb hby own_d7_140) rfl k) ?_
  show own_Run p e below T51 (mkF m 141 #[.val (.long t36), .second, .val (.long t38), .second, .val (.long t40), .second, .val (.long t42), .second, .val (.long t41), .second, .val (.ref a5), .val (.long t44), .second, .val (.long t46), .second, .val (.long t48), .second, .val (.long t50), .second, .val (.long t52), .second, .unset, .unset] [(.long (own_shrL t52 (63 : Int32)))]) _
  obtain ⟨t53, ht53⟩ : ∃ z : Int64, z = (own_shrL t52 (63 : Int32)) := ⟨_, rfl⟩
  refine own_step (fun t k => XS.lstore X51.here hx rfl (hb hby own_d7_141) rfl (l' := #[.val (.long t36), .second, .val (.long t38), .second, .val (.long t40), .second, .val (.long t42), .second, .val (.long t41), .second, .val (.ref a5), .val (.long t44), .second, .val (.long t46), .second, .val (.long t48), .second, .val (.long t50), .second, .val (.long t52), .second, .val (.long t53), .second]) (by subst ht53; rfl) k) ?_
  show own_Run p e below T51 (mkF m 143 #[.val (.long t36), .second, .val (.long t38), .second, .val (.long t40), .second, .val (.long t42), .second, .val (.long t41), .second, .val (.ref a5), .val (.long t44), .second, .val (.long t46), .second, .val (.long t48), .second, .val (.long t50), .second, .val (.long t52), .second, .val (.long t53), .second] []) _
  refine own_step (fun t k => XS.aload X51.here hx rfl (hb hby own_d7_143) rfl rfl k) ?_
  refine own_step (fun t k => XS.iconst X51.here hx rfl (hb hby own_d7_145) k) ?_
  refine own_step (fun t k => XS.lloadN X51.here hx rfl (hb hby own_d7_146) rfl  k) ?_
  show own_Run p e below T51 (mkF m 147 #[.val (.long t36), .second, .val (.long t38), .second, .val (.long t40), .second, .val (.long t42), .second, .val (.long t41), .second, .val (.ref a5), .val (.long t44), .second, .val (.long t46), .second, .val (.long t48), .second, .val (.long t50), .second, .val (.long t52), .second, .val (.long t53), .second] [(.long t36), (.int (0 : Int32)), (.ref a5)]) _
  refine own_step (fun t k => XS.lload X51.here hx rfl (hb hby own_d7_147) rfl  k) ?_
  refine own_step (fun t k => XS.land X51.here hx rfl (hb hby own_d7_149) rfl k) ?_
  show own_Run p e below T51 (mkF m 150 #[.val (.long t36), .second, .val (.long t38), .second, .val (.long t40), .second, .val (.long t42), .second, .val (.long t41), .second, .val (.ref a5), .val (.long t44), .second, .val (.long t46), .second, .val (.long t48), .second, .val (.long t50), .second, .val (.long t52), .second, .val (.long t53), .second] [(.long (t36 &&& t53)), (.int (0 : Int32)), (.ref a5)]) _
  refine own_step (fun t k => XS.lload X51.here hx rfl (hb hby own_d7_150) rfl  k) ?_
  refine own_step (fun t k => X51.ldc2Long hx hown (mvT hZ (hw _ (List.mem_of_getElem? (i := 25) rfl))) (g := (mkF m 152 #[.val (.long t36), .second, .val (.long t38), .second, .val (.long t40), .second, .val (.long t42), .second, .val (.long t41), .second, .val (.ref a5), .val (.long t44), .second, .val (.long t46), .second, .val (.long t48), .second, .val (.long t50), .second, .val (.long t52), .second, .val (.long t53), .second] [(.long t44), (.long (t36 &&& t53)), (.int (0 : Int32)), (.ref a5)])) rfl (hb hby own_d7_152) t k) ?_
  show own_Run p e below T51 (mkF m 155 #[.val (.long t36), .second, .val (.long t38), .second, .val (.long t40), .second, .val (.long t42), .second, .val (.long t41), .second, .val (.ref a5), .val (.long t44), .second, .val (.long t46), .second, .val (.long t48), .second, .val (.long t50), .second, .val (.long t52), .second, .val (.long t53), .second] [(.long (4503599627370495 : Int64)), (.long t44), (.long (t36 &&& t53)), (.int (0 : Int32)), (.ref a5)]) _
  refine own_step (fun t k => XS.land X51.here hx rfl (hb hby own_d7_155) rfl k) ?_
  show own_Run p e below T51 (mkF m 156 #[.val (.long t36), .second, .val (.long t38), .second, .val (.long t40), .second, .val (.long t42), .second, .val (.long t41), .second, .val (.ref a5), .val (.long t44), .second, .val (.long t46), .second, .val (.long t48), .second, .val (.long t50), .second, .val (.long t52), .second, .val (.long t53), .second] [(.long (t44 &&& (4503599627370495 : Int64))), (.long (t36 &&& t53)), (.int (0 : Int32)), (.ref a5)]) _
  refine own_step (fun t k => XS.lload X51.here hx rfl (hb hby own_d7_156) rfl  k) ?_
  refine own_step (fun t k => X51.ldc2Long hx hown (mvT hZ (hw _ (List.mem_of_getElem? (i := 34) rfl))) (g := (mkF m 158 #[.val (.long t36), .second, .val (.long t38), .second, .val (.long t40), .second, .val (.long t42), .second, .val (.long t41), .second, .val (.ref a5), .val (.long t44), .second, .val (.long t46), .second, .val (.long t48), .second, .val (.long t50), .second, .val (.long t52), .second, .val (.long t53), .second] [(.long t53), (.long (t44 &&& (4503599627370495 : Int64))), (.long (t36 &&& t53)), (.int (0 : Int32)), (.ref a5)])) rfl (hb hby own_d7_158) t k) ?_
  show own_Run p e below T51 (mkF m 161 #[.val (.long t36), .second, .val (.long t38), .second, .val (.long t40), .second, .val (.long t42), .second, .val (.long t41), .second, .val (.ref a5), .val (.long t44), .second, .val (.long t46), .second, .val (.long t48), .second, .val (.long t50), .second, .val (.long t52), .second, .val (.long t53), .second] [(.long (-1 : Int64)), (.long t53), (.long (t44 &&& (4503599627370495 : Int64))), (.long (t36 &&& t53)), (.int (0 : Int32)), (.ref a5)]) _
  refine own_step (fun t k => XS.lxor X51.here hx rfl (hb hby own_d7_161) rfl k) ?_
  show own_Run p e below T51 (mkF m 162 #[.val (.long t36), .second, .val (.long t38), .second, .val (.long t40), .second, .val (.long t42), .second, .val (.long t41), .second, .val (.ref a5), .val (.long t44), .second, .val (.long t46), .second, .val (.long t48), .second, .val (.long t50), .second, .val (.long t52), .second, .val (.long t53), .second] [(.long (t53 ^^^ (-1 : Int64))), (.long (t44 &&& (4503599627370495 : Int64))), (.long (t36 &&& t53)), (.int (0 : Int32)), (.ref a5)]) _
  refine own_step (fun t k => XS.land X51.here hx rfl (hb hby own_d7_162) rfl k) ?_
  show own_Run p e below T51 (mkF m 163 #[.val (.long t36), .second, .val (.long t38), .second, .val (.long t40), .second, .val (.long t42), .second, .val (.long t41), .second, .val (.ref a5), .val (.long t44), .second, .val (.long t46), .second, .val (.long t48), .second, .val (.long t50), .second, .val (.long t52), .second, .val (.long t53), .second] [(.long ((t44 &&& (4503599627370495 : Int64)) &&& (t53 ^^^ (-1 : Int64)))), (.long (t36 &&& t53)), (.int (0 : Int32)), (.ref a5)]) _
  refine own_step (fun t k => XS.lor X51.here hx rfl (hb hby own_d7_163) rfl k) ?_
  show own_Run p e below T51 (mkF m 164 #[.val (.long t36), .second, .val (.long t38), .second, .val (.long t40), .second, .val (.long t42), .second, .val (.long t41), .second, .val (.ref a5), .val (.long t44), .second, .val (.long t46), .second, .val (.long t48), .second, .val (.long t50), .second, .val (.long t52), .second, .val (.long t53), .second] [(.long ((t36 &&& t53) ||| ((t44 &&& (4503599627370495 : Int64)) &&& (t53 ^^^ (-1 : Int64))))), (.int (0 : Int32)), (.ref a5)]) _
  obtain ⟨T54, h54, L54, X54, e54, N54, W54, V54, st54⟩ := own_stJ X51 hx hZ e51 V5 N0 g5 (j := (0 : Int32)) ⟨by decide, by decide⟩ 0 rfl (Nat.le_of_ble_eq_true rfl) (g := (mkF m 164 #[.val (.long t36), .second, .val (.long t38), .second, .val (.long t40), .second, .val (.long t42), .second, .val (.long t41), .second, .val (.ref a5), .val (.long t44), .second, .val (.long t46), .second, .val (.long t48), .second, .val (.long t50), .second, .val (.long t52), .second, .val (.long t53), .second] [(.long ((t36 &&& t53) ||| ((t44 &&& (4503599627370495 : Int64)) &&& (t53 ^^^ (-1 : Int64))))), (.int (0 : Int32)), (.ref a5)])) rfl rfl (hb hby own_d7_164)
  have V54x : Arv Z h54 a5 k5 .long (5 : Int32) [(.long ((t36 &&& t53) ||| ((t44 &&& (4503599627370495 : Int64)) &&& (t53 ^^^ (-1 : Int64))))), (.long w1), (.long w2), (.long w3), (.long w4)] (.long (0 : Int64)) := V54
  have f55 := Sta.wr W54 Sp
  have f56 := Vp.other W54 nep
  have Zn54 : n0 ≤ h54.size := Nat.le_trans Z0 (Keep.of_wr W54).1
  have K54 : Keep h0 h54 [a5] := (Keep.refl h0 [a5]).wr W54 (Or.inl (List.mem_of_getElem? (i := 0) rfl))
  refine own_step st54 ?_
  show own_Run p e below T54 (mkF m 165 #[.val (.long t36), .second, .val (.long t38), .second, .val (.long t40), .second, .val (.long t42), .second, .val (.long t41), .second, .val (.ref a5), .val (.long t44), .second, .val (.long t46), .second, .val (.long t48), .second, .val (.long t50), .second, .val (.long t52), .second, .val (.long t53), .second] []) _
  refine own_step (fun t k => XS.aload X54.here hx rfl (hb hby own_d7_165) rfl rfl k) ?_
  refine own_step (fun t k => XS.iconst X54.here hx rfl (hb hby own_d7_167) k) ?_
  refine own_step (fun t k => XS.lloadN X54.here hx rfl (hb hby own_d7_168) rfl  k) ?_
  show own_Run p e below T54 (mkF m 169 #[.val (.long t36), .second, .val (.long t38), .second, .val (.long t40), .second, .val (.long t42), .second, .val (.long t41), .second, .val (.ref a5), .val (.long t44), .second, .val (.long t46), .second, .val (.long t48), .second, .val (.long t50), .second, .val (.long t52), .second, .val (.long t53), .second] [(.long t38), (.int (1 : Int32)), (.ref a5)]) _
  refine own_step (fun t k => XS.lload X54.here hx rfl (hb hby own_d7_169) rfl  k) ?_
  refine own_step (fun t k => XS.land X54.here hx rfl (hb hby own_d7_171) rfl k) ?_
  show own_Run p e below T54 (mkF m 172 #[.val (.long t36), .second, .val (.long t38), .second, .val (.long t40), .second, .val (.long t42), .second, .val (.long t41), .second, .val (.ref a5), .val (.long t44), .second, .val (.long t46), .second, .val (.long t48), .second, .val (.long t50), .second, .val (.long t52), .second, .val (.long t53), .second] [(.long (t38 &&& t53)), (.int (1 : Int32)), (.ref a5)]) _
  refine own_step (fun t k => XS.lload X54.here hx rfl (hb hby own_d7_172) rfl  k) ?_
  refine own_step (fun t k => X54.ldc2Long hx hown (mvT hZ (hw _ (List.mem_of_getElem? (i := 25) rfl))) (g := (mkF m 174 #[.val (.long t36), .second, .val (.long t38), .second, .val (.long t40), .second, .val (.long t42), .second, .val (.long t41), .second, .val (.ref a5), .val (.long t44), .second, .val (.long t46), .second, .val (.long t48), .second, .val (.long t50), .second, .val (.long t52), .second, .val (.long t53), .second] [(.long t46), (.long (t38 &&& t53)), (.int (1 : Int32)), (.ref a5)])) rfl (hb hby own_d7_174) t k) ?_
  show own_Run p e below T54 (mkF m 177 #[.val (.long t36), .second, .val (.long t38), .second, .val (.long t40), .second, .val (.long t42), .second, .val (.long t41), .second, .val (.ref a5), .val (.long t44), .second, .val (.long t46), .second, .val (.long t48), .second, .val (.long t50), .second, .val (.long t52), .second, .val (.long t53), .second] [(.long (4503599627370495 : Int64)), (.long t46), (.long (t38 &&& t53)), (.int (1 : Int32)), (.ref a5)]) _
  refine own_step (fun t k => XS.land X54.here hx rfl (hb hby own_d7_177) rfl k) ?_
  show own_Run p e below T54 (mkF m 178 #[.val (.long t36), .second, .val (.long t38), .second, .val (.long t40), .second, .val (.long t42), .second, .val (.long t41), .second, .val (.ref a5), .val (.long t44), .second, .val (.long t46), .second, .val (.long t48), .second, .val (.long t50), .second, .val (.long t52), .second, .val (.long t53), .second] [(.long (t46 &&& (4503599627370495 : Int64))), (.long (t38 &&& t53)), (.int (1 : Int32)), (.ref a5)]) _
  refine own_step (fun t k => XS.lload X54.here hx rfl (hb hby own_d7_178) rfl  k) ?_
  refine own_step (fun t k => X54.ldc2Long hx hown (mvT hZ (hw _ (List.mem_of_getElem? (i := 34) rfl))) (g := (mkF m 180 #[.val (.long t36), .second, .val (.long t38), .second, .val (.long t40), .second, .val (.long t42), .second, .val (.long t41), .second, .val (.ref a5), .val (.long t44), .second, .val (.long t46), .second, .val (.long t48), .second, .val (.long t50), .second, .val (.long t52), .second, .val (.long t53), .second] [(.long t53), (.long (t46 &&& (4503599627370495 : Int64))), (.long (t38 &&& t53)), (.int (1 : Int32)), (.ref a5)])) rfl (hb hby own_d7_180) t k) ?_
  show own_Run p e below T54 (mkF m 183 #[.val (.long t36), .second, .val (.long t38), .second, .val (.long t40), .second, .val (.long t42), .second, .val (.long t41), .second, .val (.ref a5), .val (.long t44), .second, .val (.long t46), .second, .val (.long t48), .second, .val (.long t50), .second, .val (.long t52), .second, .val (.long t53), .second] [(.long (-1 : Int64)), (.long t53), (.long (t46 &&& (4503599627370495 : Int64))), (.long (t38 &&& t53)), (.int (1 : Int32)), (.ref a5)]) _
  refine own_step (fun t k => XS.lxor X54.here hx rfl (hb hby own_d7_183) rfl k) ?_
  show own_Run p e below T54 (mkF m 184 #[.val (.long t36), .second, .val (.long t38), .second, .val (.long t40), .second, .val (.long t42), .second, .val (.long t41), .second, .val (.ref a5), .val (.long t44), .second, .val (.long t46), .second, .val (.long t48), .second, .val (.long t50), .second, .val (.long t52), .second, .val (.long t53), .second] [(.long (t53 ^^^ (-1 : Int64))), (.long (t46 &&& (4503599627370495 : Int64))), (.long (t38 &&& t53)), (.int (1 : Int32)), (.ref a5)]) _
  refine own_step (fun t k => XS.land X54.here hx rfl (hb hby own_d7_184) rfl k) ?_
  show own_Run p e below T54 (mkF m 185 #[.val (.long t36), .second, .val (.long t38), .second, .val (.long t40), .second, .val (.long t42), .second, .val (.long t41), .second, .val (.ref a5), .val (.long t44), .second, .val (.long t46), .second, .val (.long t48), .second, .val (.long t50), .second, .val (.long t52), .second, .val (.long t53), .second] [(.long ((t46 &&& (4503599627370495 : Int64)) &&& (t53 ^^^ (-1 : Int64)))), (.long (t38 &&& t53)), (.int (1 : Int32)), (.ref a5)]) _
  refine own_step (fun t k => XS.lor X54.here hx rfl (hb hby own_d7_185) rfl k) ?_
  show own_Run p e below T54 (mkF m 186 #[.val (.long t36), .second, .val (.long t38), .second, .val (.long t40), .second, .val (.long t42), .second, .val (.long t41), .second, .val (.ref a5), .val (.long t44), .second, .val (.long t46), .second, .val (.long t48), .second, .val (.long t50), .second, .val (.long t52), .second, .val (.long t53), .second] [(.long ((t38 &&& t53) ||| ((t46 &&& (4503599627370495 : Int64)) &&& (t53 ^^^ (-1 : Int64))))), (.int (1 : Int32)), (.ref a5)]) _
  obtain ⟨T57, h57, L57, X57, e57, N57, W57, V57, st57⟩ := own_stJ X54 hx hZ e54 V54x N54 g5 (j := (1 : Int32)) ⟨by decide, by decide⟩ 1 rfl (Nat.le_of_ble_eq_true rfl) (g := (mkF m 186 #[.val (.long t36), .second, .val (.long t38), .second, .val (.long t40), .second, .val (.long t42), .second, .val (.long t41), .second, .val (.ref a5), .val (.long t44), .second, .val (.long t46), .second, .val (.long t48), .second, .val (.long t50), .second, .val (.long t52), .second, .val (.long t53), .second] [(.long ((t38 &&& t53) ||| ((t46 &&& (4503599627370495 : Int64)) &&& (t53 ^^^ (-1 : Int64))))), (.int (1 : Int32)), (.ref a5)])) rfl rfl (hb hby own_d7_186)
  have V57x : Arv Z h57 a5 k5 .long (5 : Int32) [(.long ((t36 &&& t53) ||| ((t44 &&& (4503599627370495 : Int64)) &&& (t53 ^^^ (-1 : Int64))))), (.long ((t38 &&& t53) ||| ((t46 &&& (4503599627370495 : Int64)) &&& (t53 ^^^ (-1 : Int64))))), (.long w2), (.long w3), (.long w4)] (.long (0 : Int64)) := V57
  have f58 := Sta.wr W57 f55
  have f59 := f56.other W57 nep
  have Zn57 : n0 ≤ h57.size := Nat.le_trans Zn54 (Keep.of_wr W57).1
  have K57 : Keep h0 h57 [a5] := K54.wr W57 (Or.inl (List.mem_of_getElem? (i := 0) rfl))
  refine own_step st57 ?_
  show own_Run p e below T57 (mkF m 187 #[.val (.long t36), .second, .val (.long t38), .second, .val (.long t40), .second, .val (.long t42), .second, .val (.long t41), .second, .val (.ref a5), .val (.long t44), .second, .val (.long t46), .second, .val (.long t48), .second, .val (.long t50), .second, .val (.long t52), .second, .val (.long t53), .second] []) _
  refine own_step (fun t k => XS.aload X57.here hx rfl (hb hby own_d7_187) rfl rfl k) ?_
  refine own_step (fun t k => XS.iconst X57.here hx rfl (hb hby own_d7_189) k) ?_
  refine own_step (fun t k => XS.lload X57.here hx rfl (hb hby own_d7_190) rfl  k) ?_
  show own_Run p e below T57 (mkF m 192 #[.val (.long t36), .second, .val (.long t38), .second, .val (.long t40), .second, .val (.long t42), .second, .val (.long t41), .second, .val (.ref a5), .val (.long t44), .second, .val (.long t46), .second, .val (.long t48), .second, .val (.long t50), .second, .val (.long t52), .second, .val (.long t53), .second] [(.long t40), (.int (2 : Int32)), (.ref a5)]) _
  refine own_step (fun t k => XS.lload X57.here hx rfl (hb hby own_d7_192) rfl  k) ?_
  refine own_step (fun t k => XS.land X57.here hx rfl (hb hby own_d7_194) rfl k) ?_
  show own_Run p e below T57 (mkF m 195 #[.val (.long t36), .second, .val (.long t38), .second, .val (.long t40), .second, .val (.long t42), .second, .val (.long t41), .second, .val (.ref a5), .val (.long t44), .second, .val (.long t46), .second, .val (.long t48), .second, .val (.long t50), .second, .val (.long t52), .second, .val (.long t53), .second] [(.long (t40 &&& t53)), (.int (2 : Int32)), (.ref a5)]) _
  refine own_step (fun t k => XS.lload X57.here hx rfl (hb hby own_d7_195) rfl  k) ?_
  refine own_step (fun t k => X57.ldc2Long hx hown (mvT hZ (hw _ (List.mem_of_getElem? (i := 25) rfl))) (g := (mkF m 197 #[.val (.long t36), .second, .val (.long t38), .second, .val (.long t40), .second, .val (.long t42), .second, .val (.long t41), .second, .val (.ref a5), .val (.long t44), .second, .val (.long t46), .second, .val (.long t48), .second, .val (.long t50), .second, .val (.long t52), .second, .val (.long t53), .second] [(.long t48), (.long (t40 &&& t53)), (.int (2 : Int32)), (.ref a5)])) rfl (hb hby own_d7_197) t k) ?_
  show own_Run p e below T57 (mkF m 200 #[.val (.long t36), .second, .val (.long t38), .second, .val (.long t40), .second, .val (.long t42), .second, .val (.long t41), .second, .val (.ref a5), .val (.long t44), .second, .val (.long t46), .second, .val (.long t48), .second, .val (.long t50), .second, .val (.long t52), .second, .val (.long t53), .second] [(.long (4503599627370495 : Int64)), (.long t48), (.long (t40 &&& t53)), (.int (2 : Int32)), (.ref a5)]) _
  refine own_step (fun t k => XS.land X57.here hx rfl (hb hby own_d7_200) rfl k) ?_
  show own_Run p e below T57 (mkF m 201 #[.val (.long t36), .second, .val (.long t38), .second, .val (.long t40), .second, .val (.long t42), .second, .val (.long t41), .second, .val (.ref a5), .val (.long t44), .second, .val (.long t46), .second, .val (.long t48), .second, .val (.long t50), .second, .val (.long t52), .second, .val (.long t53), .second] [(.long (t48 &&& (4503599627370495 : Int64))), (.long (t40 &&& t53)), (.int (2 : Int32)), (.ref a5)]) _
  refine own_step (fun t k => XS.lload X57.here hx rfl (hb hby own_d7_201) rfl  k) ?_
  refine own_step (fun t k => X57.ldc2Long hx hown (mvT hZ (hw _ (List.mem_of_getElem? (i := 34) rfl))) (g := (mkF m 203 #[.val (.long t36), .second, .val (.long t38), .second, .val (.long t40), .second, .val (.long t42), .second, .val (.long t41), .second, .val (.ref a5), .val (.long t44), .second, .val (.long t46), .second, .val (.long t48), .second, .val (.long t50), .second, .val (.long t52), .second, .val (.long t53), .second] [(.long t53), (.long (t48 &&& (4503599627370495 : Int64))), (.long (t40 &&& t53)), (.int (2 : Int32)), (.ref a5)])) rfl (hb hby own_d7_203) t k) ?_
  show own_Run p e below T57 (mkF m 206 #[.val (.long t36), .second, .val (.long t38), .second, .val (.long t40), .second, .val (.long t42), .second, .val (.long t41), .second, .val (.ref a5), .val (.long t44), .second, .val (.long t46), .second, .val (.long t48), .second, .val (.long t50), .second, .val (.long t52), .second, .val (.long t53), .second] [(.long (-1 : Int64)), (.long t53), (.long (t48 &&& (4503599627370495 : Int64))), (.long (t40 &&& t53)), (.int (2 : Int32)), (.ref a5)]) _
  refine own_step (fun t k => XS.lxor X57.here hx rfl (hb hby own_d7_206) rfl k) ?_
  show own_Run p e below T57 (mkF m 207 #[.val (.long t36), .second, .val (.long t38), .second, .val (.long t40), .second, .val (.long t42), .second, .val (.long t41), .second, .val (.ref a5), .val (.long t44), .second, .val (.long t46), .second, .val (.long t48), .second, .val (.long t50), .second, .val (.long t52), .second, .val (.long t53), .second] [(.long (t53 ^^^ (-1 : Int64))), (.long (t48 &&& (4503599627370495 : Int64))), (.long (t40 &&& t53)), (.int (2 : Int32)), (.ref a5)]) _
  refine own_step (fun t k => XS.land X57.here hx rfl (hb hby own_d7_207) rfl k) ?_
  show own_Run p e below T57 (mkF m 208 #[.val (.long t36), .second, .val (.long t38), .second, .val (.long t40), .second, .val (.long t42), .second, .val (.long t41), .second, .val (.ref a5), .val (.long t44), .second, .val (.long t46), .second, .val (.long t48), .second, .val (.long t50), .second, .val (.long t52), .second, .val (.long t53), .second] [(.long ((t48 &&& (4503599627370495 : Int64)) &&& (t53 ^^^ (-1 : Int64)))), (.long (t40 &&& t53)), (.int (2 : Int32)), (.ref a5)]) _
  refine own_step (fun t k => XS.lor X57.here hx rfl (hb hby own_d7_208) rfl k) ?_
  show own_Run p e below T57 (mkF m 209 #[.val (.long t36), .second, .val (.long t38), .second, .val (.long t40), .second, .val (.long t42), .second, .val (.long t41), .second, .val (.ref a5), .val (.long t44), .second, .val (.long t46), .second, .val (.long t48), .second, .val (.long t50), .second, .val (.long t52), .second, .val (.long t53), .second] [(.long ((t40 &&& t53) ||| ((t48 &&& (4503599627370495 : Int64)) &&& (t53 ^^^ (-1 : Int64))))), (.int (2 : Int32)), (.ref a5)]) _
  obtain ⟨T60, h60, L60, X60, e60, N60, W60, V60, st60⟩ := own_stJ X57 hx hZ e57 V57x N57 g5 (j := (2 : Int32)) ⟨by decide, by decide⟩ 2 rfl (Nat.le_of_ble_eq_true rfl) (g := (mkF m 209 #[.val (.long t36), .second, .val (.long t38), .second, .val (.long t40), .second, .val (.long t42), .second, .val (.long t41), .second, .val (.ref a5), .val (.long t44), .second, .val (.long t46), .second, .val (.long t48), .second, .val (.long t50), .second, .val (.long t52), .second, .val (.long t53), .second] [(.long ((t40 &&& t53) ||| ((t48 &&& (4503599627370495 : Int64)) &&& (t53 ^^^ (-1 : Int64))))), (.int (2 : Int32)), (.ref a5)])) rfl rfl (hb hby own_d7_209)
  have V60x : Arv Z h60 a5 k5 .long (5 : Int32) [(.long ((t36 &&& t53) ||| ((t44 &&& (4503599627370495 : Int64)) &&& (t53 ^^^ (-1 : Int64))))), (.long ((t38 &&& t53) ||| ((t46 &&& (4503599627370495 : Int64)) &&& (t53 ^^^ (-1 : Int64))))), (.long ((t40 &&& t53) ||| ((t48 &&& (4503599627370495 : Int64)) &&& (t53 ^^^ (-1 : Int64))))), (.long w3), (.long w4)] (.long (0 : Int64)) := V60
  have f61 := Sta.wr W60 f58
  have f62 := f59.other W60 nep
  have Zn60 : n0 ≤ h60.size := Nat.le_trans Zn57 (Keep.of_wr W60).1
  have K60 : Keep h0 h60 [a5] := K57.wr W60 (Or.inl (List.mem_of_getElem? (i := 0) rfl))
  refine own_step st60 ?_
  show own_Run p e below T60 (mkF m 210 #[.val (.long t36), .second, .val (.long t38), .second, .val (.long t40), .second, .val (.long t42), .second, .val (.long t41), .second, .val (.ref a5), .val (.long t44), .second, .val (.long t46), .second, .val (.long t48), .second, .val (.long t50), .second, .val (.long t52), .second, .val (.long t53), .second] []) _
  refine own_step (fun t k => XS.aload X60.here hx rfl (hb hby own_d7_210) rfl rfl k) ?_
  refine own_step (fun t k => XS.iconst X60.here hx rfl (hb hby own_d7_212) k) ?_
  refine own_step (fun t k => XS.lload X60.here hx rfl (hb hby own_d7_213) rfl  k) ?_
  show own_Run p e below T60 (mkF m 215 #[.val (.long t36), .second, .val (.long t38), .second, .val (.long t40), .second, .val (.long t42), .second, .val (.long t41), .second, .val (.ref a5), .val (.long t44), .second, .val (.long t46), .second, .val (.long t48), .second, .val (.long t50), .second, .val (.long t52), .second, .val (.long t53), .second] [(.long t42), (.int (3 : Int32)), (.ref a5)]) _
  refine own_step (fun t k => XS.lload X60.here hx rfl (hb hby own_d7_215) rfl  k) ?_
  refine own_step (fun t k => XS.land X60.here hx rfl (hb hby own_d7_217) rfl k) ?_
  show own_Run p e below T60 (mkF m 218 #[.val (.long t36), .second, .val (.long t38), .second, .val (.long t40), .second, .val (.long t42), .second, .val (.long t41), .second, .val (.ref a5), .val (.long t44), .second, .val (.long t46), .second, .val (.long t48), .second, .val (.long t50), .second, .val (.long t52), .second, .val (.long t53), .second] [(.long (t42 &&& t53)), (.int (3 : Int32)), (.ref a5)]) _
  refine own_step (fun t k => XS.lload X60.here hx rfl (hb hby own_d7_218) rfl  k) ?_
  refine own_step (fun t k => X60.ldc2Long hx hown (mvT hZ (hw _ (List.mem_of_getElem? (i := 25) rfl))) (g := (mkF m 220 #[.val (.long t36), .second, .val (.long t38), .second, .val (.long t40), .second, .val (.long t42), .second, .val (.long t41), .second, .val (.ref a5), .val (.long t44), .second, .val (.long t46), .second, .val (.long t48), .second, .val (.long t50), .second, .val (.long t52), .second, .val (.long t53), .second] [(.long t50), (.long (t42 &&& t53)), (.int (3 : Int32)), (.ref a5)])) rfl (hb hby own_d7_220) t k) ?_
  show own_Run p e below T60 (mkF m 223 #[.val (.long t36), .second, .val (.long t38), .second, .val (.long t40), .second, .val (.long t42), .second, .val (.long t41), .second, .val (.ref a5), .val (.long t44), .second, .val (.long t46), .second, .val (.long t48), .second, .val (.long t50), .second, .val (.long t52), .second, .val (.long t53), .second] [(.long (4503599627370495 : Int64)), (.long t50), (.long (t42 &&& t53)), (.int (3 : Int32)), (.ref a5)]) _
  refine own_step (fun t k => XS.land X60.here hx rfl (hb hby own_d7_223) rfl k) ?_
  show own_Run p e below T60 (mkF m 224 #[.val (.long t36), .second, .val (.long t38), .second, .val (.long t40), .second, .val (.long t42), .second, .val (.long t41), .second, .val (.ref a5), .val (.long t44), .second, .val (.long t46), .second, .val (.long t48), .second, .val (.long t50), .second, .val (.long t52), .second, .val (.long t53), .second] [(.long (t50 &&& (4503599627370495 : Int64))), (.long (t42 &&& t53)), (.int (3 : Int32)), (.ref a5)]) _
  refine own_step (fun t k => XS.lload X60.here hx rfl (hb hby own_d7_224) rfl  k) ?_
  refine own_step (fun t k => X60.ldc2Long hx hown (mvT hZ (hw _ (List.mem_of_getElem? (i := 34) rfl))) (g := (mkF m 226 #[.val (.long t36), .second, .val (.long t38), .second, .val (.long t40), .second, .val (.long t42), .second, .val (.long t41), .second, .val (.ref a5), .val (.long t44), .second, .val (.long t46), .second, .val (.long t48), .second, .val (.long t50), .second, .val (.long t52), .second, .val (.long t53), .second] [(.long t53), (.long (t50 &&& (4503599627370495 : Int64))), (.long (t42 &&& t53)), (.int (3 : Int32)), (.ref a5)])) rfl (hb hby own_d7_226) t k) ?_
  show own_Run p e below T60 (mkF m 229 #[.val (.long t36), .second, .val (.long t38), .second, .val (.long t40), .second, .val (.long t42), .second, .val (.long t41), .second, .val (.ref a5), .val (.long t44), .second, .val (.long t46), .second, .val (.long t48), .second, .val (.long t50), .second, .val (.long t52), .second, .val (.long t53), .second] [(.long (-1 : Int64)), (.long t53), (.long (t50 &&& (4503599627370495 : Int64))), (.long (t42 &&& t53)), (.int (3 : Int32)), (.ref a5)]) _
  refine own_step (fun t k => XS.lxor X60.here hx rfl (hb hby own_d7_229) rfl k) ?_
  show own_Run p e below T60 (mkF m 230 #[.val (.long t36), .second, .val (.long t38), .second, .val (.long t40), .second, .val (.long t42), .second, .val (.long t41), .second, .val (.ref a5), .val (.long t44), .second, .val (.long t46), .second, .val (.long t48), .second, .val (.long t50), .second, .val (.long t52), .second, .val (.long t53), .second] [(.long (t53 ^^^ (-1 : Int64))), (.long (t50 &&& (4503599627370495 : Int64))), (.long (t42 &&& t53)), (.int (3 : Int32)), (.ref a5)]) _
  refine own_step (fun t k => XS.land X60.here hx rfl (hb hby own_d7_230) rfl k) ?_
  show own_Run p e below T60 (mkF m 231 #[.val (.long t36), .second, .val (.long t38), .second, .val (.long t40), .second, .val (.long t42), .second, .val (.long t41), .second, .val (.ref a5), .val (.long t44), .second, .val (.long t46), .second, .val (.long t48), .second, .val (.long t50), .second, .val (.long t52), .second, .val (.long t53), .second] [(.long ((t50 &&& (4503599627370495 : Int64)) &&& (t53 ^^^ (-1 : Int64)))), (.long (t42 &&& t53)), (.int (3 : Int32)), (.ref a5)]) _
  refine own_step (fun t k => XS.lor X60.here hx rfl (hb hby own_d7_231) rfl k) ?_
  show own_Run p e below T60 (mkF m 232 #[.val (.long t36), .second, .val (.long t38), .second, .val (.long t40), .second, .val (.long t42), .second, .val (.long t41), .second, .val (.ref a5), .val (.long t44), .second, .val (.long t46), .second, .val (.long t48), .second, .val (.long t50), .second, .val (.long t52), .second, .val (.long t53), .second] [(.long ((t42 &&& t53) ||| ((t50 &&& (4503599627370495 : Int64)) &&& (t53 ^^^ (-1 : Int64))))), (.int (3 : Int32)), (.ref a5)]) _
  obtain ⟨T63, h63, L63, X63, e63, N63, W63, V63, st63⟩ := own_stJ X60 hx hZ e60 V60x N60 g5 (j := (3 : Int32)) ⟨by decide, by decide⟩ 3 rfl (Nat.le_of_ble_eq_true rfl) (g := (mkF m 232 #[.val (.long t36), .second, .val (.long t38), .second, .val (.long t40), .second, .val (.long t42), .second, .val (.long t41), .second, .val (.ref a5), .val (.long t44), .second, .val (.long t46), .second, .val (.long t48), .second, .val (.long t50), .second, .val (.long t52), .second, .val (.long t53), .second] [(.long ((t42 &&& t53) ||| ((t50 &&& (4503599627370495 : Int64)) &&& (t53 ^^^ (-1 : Int64))))), (.int (3 : Int32)), (.ref a5)])) rfl rfl (hb hby own_d7_232)
  have V63x : Arv Z h63 a5 k5 .long (5 : Int32) [(.long ((t36 &&& t53) ||| ((t44 &&& (4503599627370495 : Int64)) &&& (t53 ^^^ (-1 : Int64))))), (.long ((t38 &&& t53) ||| ((t46 &&& (4503599627370495 : Int64)) &&& (t53 ^^^ (-1 : Int64))))), (.long ((t40 &&& t53) ||| ((t48 &&& (4503599627370495 : Int64)) &&& (t53 ^^^ (-1 : Int64))))), (.long ((t42 &&& t53) ||| ((t50 &&& (4503599627370495 : Int64)) &&& (t53 ^^^ (-1 : Int64))))), (.long w4)] (.long (0 : Int64)) := V63
  have f64 := Sta.wr W63 f61
  have f65 := f62.other W63 nep
  have Zn63 : n0 ≤ h63.size := Nat.le_trans Zn60 (Keep.of_wr W63).1
  have K63 : Keep h0 h63 [a5] := K60.wr W63 (Or.inl (List.mem_of_getElem? (i := 0) rfl))
  refine own_step st63 ?_
  show own_Run p e below T63 (mkF m 233 #[.val (.long t36), .second, .val (.long t38), .second, .val (.long t40), .second, .val (.long t42), .second, .val (.long t41), .second, .val (.ref a5), .val (.long t44), .second, .val (.long t46), .second, .val (.long t48), .second, .val (.long t50), .second, .val (.long t52), .second, .val (.long t53), .second] []) _
  refine own_step (fun t k => XS.aload X63.here hx rfl (hb hby own_d7_233) rfl rfl k) ?_
  refine own_step (fun t k => XS.iconst X63.here hx rfl (hb hby own_d7_235) k) ?_
  refine own_step (fun t k => XS.lload X63.here hx rfl (hb hby own_d7_236) rfl  k) ?_
  show own_Run p e below T63 (mkF m 238 #[.val (.long t36), .second, .val (.long t38), .second, .val (.long t40), .second, .val (.long t42), .second, .val (.long t41), .second, .val (.ref a5), .val (.long t44), .second, .val (.long t46), .second, .val (.long t48), .second, .val (.long t50), .second, .val (.long t52), .second, .val (.long t53), .second] [(.long t41), (.int (4 : Int32)), (.ref a5)]) _
  refine own_step (fun t k => XS.lload X63.here hx rfl (hb hby own_d7_238) rfl  k) ?_
  refine own_step (fun t k => XS.land X63.here hx rfl (hb hby own_d7_240) rfl k) ?_
  show own_Run p e below T63 (mkF m 241 #[.val (.long t36), .second, .val (.long t38), .second, .val (.long t40), .second, .val (.long t42), .second, .val (.long t41), .second, .val (.ref a5), .val (.long t44), .second, .val (.long t46), .second, .val (.long t48), .second, .val (.long t50), .second, .val (.long t52), .second, .val (.long t53), .second] [(.long (t41 &&& t53)), (.int (4 : Int32)), (.ref a5)]) _
  refine own_step (fun t k => XS.lload X63.here hx rfl (hb hby own_d7_241) rfl  k) ?_
  refine own_step (fun t k => XS.lload X63.here hx rfl (hb hby own_d7_243) rfl  k) ?_
  refine own_step (fun t k => X63.ldc2Long hx hown (mvT hZ (hw _ (List.mem_of_getElem? (i := 34) rfl))) (g := (mkF m 245 #[.val (.long t36), .second, .val (.long t38), .second, .val (.long t40), .second, .val (.long t42), .second, .val (.long t41), .second, .val (.ref a5), .val (.long t44), .second, .val (.long t46), .second, .val (.long t48), .second, .val (.long t50), .second, .val (.long t52), .second, .val (.long t53), .second] [(.long t53), (.long t52), (.long (t41 &&& t53)), (.int (4 : Int32)), (.ref a5)])) rfl (hb hby own_d7_245) t k) ?_
  show own_Run p e below T63 (mkF m 248 #[.val (.long t36), .second, .val (.long t38), .second, .val (.long t40), .second, .val (.long t42), .second, .val (.long t41), .second, .val (.ref a5), .val (.long t44), .second, .val (.long t46), .second, .val (.long t48), .second, .val (.long t50), .second, .val (.long t52), .second, .val (.long t53), .second] [(.long (-1 : Int64)), (.long t53), (.long t52), (.long (t41 &&& t53)), (.int (4 : Int32)), (.ref a5)]) _
  refine own_step (fun t k => XS.lxor X63.here hx rfl (hb hby own_d7_248) rfl k) ?_
  show own_Run p e below T63 (mkF m 249 #[.val (.long t36), .second, .val (.long t38), .second, .val (.long t40), .second, .val (.long t42), .second, .val (.long t41), .second, .val (.ref a5), .val (.long t44), .second, .val (.long t46), .second, .val (.long t48), .second, .val (.long t50), .second, .val (.long t52), .second, .val (.long t53), .second] [(.long (t53 ^^^ (-1 : Int64))), (.long t52), (.long (t41 &&& t53)), (.int (4 : Int32)), (.ref a5)]) _
  refine own_step (fun t k => XS.land X63.here hx rfl (hb hby own_d7_249) rfl k) ?_
  show own_Run p e below T63 (mkF m 250 #[.val (.long t36), .second, .val (.long t38), .second, .val (.long t40), .second, .val (.long t42), .second, .val (.long t41), .second, .val (.ref a5), .val (.long t44), .second, .val (.long t46), .second, .val (.long t48), .second, .val (.long t50), .second, .val (.long t52), .second, .val (.long t53), .second] [(.long (t52 &&& (t53 ^^^ (-1 : Int64)))), (.long (t41 &&& t53)), (.int (4 : Int32)), (.ref a5)]) _
  refine own_step (fun t k => XS.lor X63.here hx rfl (hb hby own_d7_250) rfl k) ?_
  show own_Run p e below T63 (mkF m 251 #[.val (.long t36), .second, .val (.long t38), .second, .val (.long t40), .second, .val (.long t42), .second, .val (.long t41), .second, .val (.ref a5), .val (.long t44), .second, .val (.long t46), .second, .val (.long t48), .second, .val (.long t50), .second, .val (.long t52), .second, .val (.long t53), .second] [(.long ((t41 &&& t53) ||| (t52 &&& (t53 ^^^ (-1 : Int64))))), (.int (4 : Int32)), (.ref a5)]) _
  obtain ⟨T66, h66, L66, X66, e66, N66, W66, V66, st66⟩ := own_stJ X63 hx hZ e63 V63x N63 g5 (j := (4 : Int32)) ⟨by decide, by decide⟩ 4 rfl (Nat.le_of_ble_eq_true rfl) (g := (mkF m 251 #[.val (.long t36), .second, .val (.long t38), .second, .val (.long t40), .second, .val (.long t42), .second, .val (.long t41), .second, .val (.ref a5), .val (.long t44), .second, .val (.long t46), .second, .val (.long t48), .second, .val (.long t50), .second, .val (.long t52), .second, .val (.long t53), .second] [(.long ((t41 &&& t53) ||| (t52 &&& (t53 ^^^ (-1 : Int64))))), (.int (4 : Int32)), (.ref a5)])) rfl rfl (hb hby own_d7_251)
  have V66x : Arv Z h66 a5 k5 .long (5 : Int32) [(.long ((t36 &&& t53) ||| ((t44 &&& (4503599627370495 : Int64)) &&& (t53 ^^^ (-1 : Int64))))), (.long ((t38 &&& t53) ||| ((t46 &&& (4503599627370495 : Int64)) &&& (t53 ^^^ (-1 : Int64))))), (.long ((t40 &&& t53) ||| ((t48 &&& (4503599627370495 : Int64)) &&& (t53 ^^^ (-1 : Int64))))), (.long ((t42 &&& t53) ||| ((t50 &&& (4503599627370495 : Int64)) &&& (t53 ^^^ (-1 : Int64))))), (.long ((t41 &&& t53) ||| (t52 &&& (t53 ^^^ (-1 : Int64)))))] (.long (0 : Int64)) := V66
  have f67 := Sta.wr W66 f64
  have f68 := f65.other W66 nep
  have Zn66 : n0 ≤ h66.size := Nat.le_trans Zn63 (Keep.of_wr W66).1
  have K66 : Keep h0 h66 [a5] := K63.wr W66 (Or.inl (List.mem_of_getElem? (i := 0) rfl))
  refine own_step st66 ?_
  show own_Run p e below T66 (mkF m 252 #[.val (.long t36), .second, .val (.long t38), .second, .val (.long t40), .second, .val (.long t42), .second, .val (.long t41), .second, .val (.ref a5), .val (.long t44), .second, .val (.long t46), .second, .val (.long t48), .second, .val (.long t50), .second, .val (.long t52), .second, .val (.long t53), .second] []) _
  subst ht53
  subst ht52
  subst ht50
  subst ht48
  subst ht46
  subst ht44
  subst ht42
  subst ht41
  subst ht40
  subst ht39
  subst ht38
  subst ht37
  subst ht36
  subst ht35
  exact own_retV X66 hx hlk hret (hb hby own_d7_252) (by decide) (by decide) N66 (by rw [e66]; exact ⟨K66, V66x⟩)
theorem own_pd426 : parseMethodDescriptor "(JJJJJ[J)V" = some ⟨[.long, .long, .long, .long, .long, (.array .long)], none⟩ := by decide +kernel
theorem own_d6_0 : decode prog_33_method_9_code 0 = .ok (.aload_n 0, 1) := by decide +kernel
theorem own_d6_1 : decode prog_33_method_9_code 1 = .ok (.iconst 0, 1) := by decide +kernel
theorem own_d6_2 : decode prog_33_method_9_code 2 = .ok (.laload, 1) := by decide +kernel
theorem own_d6_3 : decode prog_33_method_9_code 3 = .ok (.aload_n 1, 1) := by decide +kernel
theorem own_d6_4 : decode prog_33_method_9_code 4 = .ok (.iconst 0, 1) := by decide +kernel
theorem own_d6_5 : decode prog_33_method_9_code 5 = .ok (.laload, 1) := by decide +kernel
theorem own_d6_6 : decode prog_33_method_9_code 6 = .ok (.ladd, 1) := by decide +kernel
theorem own_d6_7 : decode prog_33_method_9_code 7 = .ok (.aload_n 0, 1) := by decide +kernel
theorem own_d6_8 : decode prog_33_method_9_code 8 = .ok (.iconst 1, 1) := by decide +kernel
theorem own_d6_9 : decode prog_33_method_9_code 9 = .ok (.laload, 1) := by decide +kernel
theorem own_d6_10 : decode prog_33_method_9_code 10 = .ok (.aload_n 1, 1) := by decide +kernel
theorem own_d6_11 : decode prog_33_method_9_code 11 = .ok (.iconst 1, 1) := by decide +kernel
theorem own_d6_12 : decode prog_33_method_9_code 12 = .ok (.laload, 1) := by decide +kernel
theorem own_d6_13 : decode prog_33_method_9_code 13 = .ok (.ladd, 1) := by decide +kernel
theorem own_d6_14 : decode prog_33_method_9_code 14 = .ok (.aload_n 0, 1) := by decide +kernel
theorem own_d6_15 : decode prog_33_method_9_code 15 = .ok (.iconst 2, 1) := by decide +kernel
theorem own_d6_16 : decode prog_33_method_9_code 16 = .ok (.laload, 1) := by decide +kernel
theorem own_d6_17 : decode prog_33_method_9_code 17 = .ok (.aload_n 1, 1) := by decide +kernel
theorem own_d6_18 : decode prog_33_method_9_code 18 = .ok (.iconst 2, 1) := by decide +kernel
theorem own_d6_19 : decode prog_33_method_9_code 19 = .ok (.laload, 1) := by decide +kernel
theorem own_d6_20 : decode prog_33_method_9_code 20 = .ok (.ladd, 1) := by decide +kernel
theorem own_d6_21 : decode prog_33_method_9_code 21 = .ok (.aload_n 0, 1) := by decide +kernel
theorem own_d6_22 : decode prog_33_method_9_code 22 = .ok (.iconst 3, 1) := by decide +kernel
theorem own_d6_23 : decode prog_33_method_9_code 23 = .ok (.laload, 1) := by decide +kernel
theorem own_d6_24 : decode prog_33_method_9_code 24 = .ok (.aload_n 1, 1) := by decide +kernel
theorem own_d6_25 : decode prog_33_method_9_code 25 = .ok (.iconst 3, 1) := by decide +kernel
theorem own_d6_26 : decode prog_33_method_9_code 26 = .ok (.laload, 1) := by decide +kernel
theorem own_d6_27 : decode prog_33_method_9_code 27 = .ok (.ladd, 1) := by decide +kernel
theorem own_d6_28 : decode prog_33_method_9_code 28 = .ok (.aload_n 0, 1) := by decide +kernel
theorem own_d6_29 : decode prog_33_method_9_code 29 = .ok (.iconst 4, 1) := by decide +kernel
theorem own_d6_30 : decode prog_33_method_9_code 30 = .ok (.laload, 1) := by decide +kernel
theorem own_d6_31 : decode prog_33_method_9_code 31 = .ok (.aload_n 1, 1) := by decide +kernel
theorem own_d6_32 : decode prog_33_method_9_code 32 = .ok (.iconst 4, 1) := by decide +kernel
theorem own_d6_33 : decode prog_33_method_9_code 33 = .ok (.laload, 1) := by decide +kernel
theorem own_d6_34 : decode prog_33_method_9_code 34 = .ok (.ladd, 1) := by decide +kernel
theorem own_d6_35 : decode prog_33_method_9_code 35 = .ok (.aload_n 2, 1) := by decide +kernel
theorem own_d6_36 : decode prog_33_method_9_code 36 = .ok (.invokestatic 62, 3) := by decide +kernel
theorem own_d6_39 : decode prog_33_method_9_code 39 = .ok (.return_, 1) := by decide +kernel
def own_f6_c36_0_0 (u0 : Int64) (v0 : Int64) (u4 : Int64) (v4 : Int64) (u3 : Int64) (v3 : Int64) (u2 : Int64) (v2 : Int64) (u1 : Int64) (v1 : Int64) : Int64 := (own_f7_v0_0 (u0 + v0) (u4 + v4) (u3 + v3) (u2 + v2) (u1 + v1))
def own_f6_c36_0_1 (u1 : Int64) (v1 : Int64) (u0 : Int64) (v0 : Int64) (u4 : Int64) (v4 : Int64) (u3 : Int64) (v3 : Int64) (u2 : Int64) (v2 : Int64) : Int64 := (own_f7_v0_1 (u1 + v1) (u0 + v0) (u4 + v4) (u3 + v3) (u2 + v2))
def own_f6_c36_0_2 (u2 : Int64) (v2 : Int64) (u1 : Int64) (v1 : Int64) (u0 : Int64) (v0 : Int64) (u4 : Int64) (v4 : Int64) (u3 : Int64) (v3 : Int64) : Int64 := (own_f7_v0_2 (u2 + v2) (u1 + v1) (u0 + v0) (u4 + v4) (u3 + v3))
def own_f6_c36_0_3 (u3 : Int64) (v3 : Int64) (u2 : Int64) (v2 : Int64) (u1 : Int64) (v1 : Int64) (u0 : Int64) (v0 : Int64) (u4 : Int64) (v4 : Int64) : Int64 := (own_f7_v0_3 (u3 + v3) (u2 + v2) (u1 + v1) (u0 + v0) (u4 + v4))
def own_f6_c36_0_4 (u4 : Int64) (v4 : Int64) (u3 : Int64) (v3 : Int64) (u2 : Int64) (v2 : Int64) (u1 : Int64) (v1 : Int64) (u0 : Int64) (v0 : Int64) : Int64 := (own_f7_v0_4 (u4 + v4) (u3 + v3) (u2 + v2) (u1 + v1) (u0 + v0))
theorem own_ef6 (m : MethodId) (a0 : Addr) (a1 : Addr) (a2 : Addr) : entryFrame m #[(.ref a0), (.ref a1), (.ref a2)] 3 = (mkF m 0 #[.val (.ref a0), .val (.ref a1), .val (.ref a2)] []) := by first | (simp [entryFrame, mkF, argsToLocals, Value.category]; done) | rfl
set_option maxRecDepth 65536 in
set_option maxHeartbeats 40000000 in
theorem rm6 (l : Launch) (Z : State) (av0 : Array Value) (hw : ∀ d ∈ tables_1, d.before av0 Z = true) (ws : List Jvm.Cond) (a0 : Addr) (a1 : Addr) (a2 : Addr) (pl : Addr) (kp : ClassId) (k0 : ClassId) (k1 : ClassId) (k2 : ClassId) (u0 : Int64) (u1 : Int64) (u2 : Int64) (u3 : Int64) (u4 : Int64) (v0 : Int64) (v1 : Int64) (v2 : Int64) (v3 : Int64) (v4 : Int64) (w0 : Int64) (w1 : Int64) (w2 : Int64) (w3 : Int64) (w4 : Int64) (h0 : Heap) (n0 : Nat) (Z0 : n0 ≤ h0.size) (g2 : n0 ≤ a2) (nep : pl ≠ a2) (ne0 : a0 ≠ a2) (ne1 : a1 ≠ a2) (V0 : Arv Z h0 a0 k0 .long (5 : Int32) [(.long u0), (.long u1), (.long u2), (.long u3), (.long u4)] (.long (0 : Int64))) (V1 : Arv Z h0 a1 k1 .long (5 : Int32) [(.long v0), (.long v1), (.long v2), (.long v3), (.long v4)] (.long (0 : Int64))) (V2 : Arv Z h0 a2 k2 .long (5 : Int32) [(.long w0), (.long w1), (.long w2), (.long w3), (.long w4)] (.long (0 : Int64))) (Sp : Sta Z h0 "com/example/rxrelay/rxrelay/protocol/gm/Sm2Field" "P_LIMBS" "[J" (.ref pl)) (Vp : Arv Z h0 pl kp .long (5 : Int32) [(.long (4503599627370495 : Int64)), (.long (4486007441330175 : Int64)), (.long (4503599627370495 : Int64)), (.long (4503599627370495 : Int64)), (.long (281474976645119 : Int64))] (.long (0 : Int64))) :
    MetFree l (⟨"com/example/rxrelay/rxrelay/protocol/gm/Sm2Field", "add", "([J[J[J)V"⟩ : MethodName) (head1 (Jvm.Cond.code (⟨"com/example/rxrelay/rxrelay/protocol/gm/Sm2Field", "add", "([J[J[J)V"⟩ : MethodName) prog_33_method_9_code 3 none :: ws) ({ frames := 1, cells := 0, slots := 0, locals := 34 } : Room)) (fun a U => a = #[(.ref a0), (.ref a1), (.ref a2)] ∧ Z.Warmed39 U.vm ∧ U.heap = h0) (fun _ _ _ _ _ => True) (fun _ U o U' => ∃ v L, o = .returned v ∧ own_Q n0 (fun h => Keep h0 h [a2] ∧ Arv Z h a2 k2 .long (5 : Int32) [(.long (own_f6_c36_0_0 u0 v0 u4 v4 u3 v3 u2 v2 u1 v1)), (.long (own_f6_c36_0_1 u1 v1 u0 v0 u4 v4 u3 v3 u2 v2)), (.long (own_f6_c36_0_2 u2 v2 u1 v1 u0 v0 u4 v4 u3 v3)), (.long (own_f6_c36_0_3 u3 v3 u2 v2 u1 v1 u0 v0 u4 v4)), (.long (own_f6_c36_0_4 u4 v4 u3 v3 u2 v2 u1 v1 u0 v0))] (.long (0 : Int64))) none v U'.heap L ∧ FrameEnd U o U' L ({ frames := 1, cells := 0, slots := 0, locals := 34 } : Room).cells ({ frames := 1, cells := 0, slots := 0, locals := 34 } : Room).slots) := by
  refine MetFree.of_bodySF (plainFor_of_name own_pn1) hisR ?_
  intro p e s m args below meth c s₁ Bd hml0 hP hK
  obtain ⟨rfl, hZ, hh⟩ := hP
  have hx := Bd.exec
  have hby := Bd.bytes
  have hml : c.maxLocals = 3 := hml0
  have hown : s.vm.findClass "com/example/rxrelay/rxrelay/protocol/gm/Sm2Field" = some m.cls := findClass_of_methodNamed Bd.named
  have hnm := (name_of_methodNamed Bd.named Bd.method).1
  have hret := Bd.returns
  have hlk : meth.locks = false := BodyLoose.notSynchronized Bd
  have X0 : Stand p l e ({ frames := 1, cells := 0, slots := 0, locals := 34 } : Room) s m #[(.ref a0), (.ref a1), (.ref a2)] below meth c s₁ [] 0 0 := Stand.of_body Bd
  have e0 : s₁.heap = h0 := by rw [← hh, Bd.state]; rfl
  have N0 := Fr.nil n0
  clear Bd hh hK
  refine own_fin ?_
  refine own_entry (own_ef6 m a0 a1 a2) ?_
  show own_Run p e below s₁ (mkF m 0 #[.val (.ref a0), .val (.ref a1), .val (.ref a2)] []) _
  refine own_step (fun t k => XS.aloadN X0.here hx rfl (hb hby own_d6_0) rfl rfl k) ?_
  show own_Run p e below s₁ (mkF m 1 #[.val (.ref a0), .val (.ref a1), .val (.ref a2)] [(.ref a0)]) _
  refine own_step (fun t k => XS.iconst X0.here hx rfl (hb hby own_d6_1) k) ?_
  show own_Run p e below s₁ (mkF m 2 #[.val (.ref a0), .val (.ref a1), .val (.ref a2)] [(.int (0 : Int32)), (.ref a0)]) _
  refine own_step (own_ldJ X0 hx hZ e0 V0 (j := (0 : Int32)) (v := (.long u0)) ⟨by decide, by decide⟩ rfl (g := (mkF m 2 #[.val (.ref a0), .val (.ref a1), .val (.ref a2)] [(.int (0 : Int32)), (.ref a0)])) rfl rfl (hb hby own_d6_2)) ?_
  show own_Run p e below s₁ (mkF m 3 #[.val (.ref a0), .val (.ref a1), .val (.ref a2)] [(.long u0)]) _
  refine own_step (fun t k => XS.aloadN X0.here hx rfl (hb hby own_d6_3) rfl rfl k) ?_
  show own_Run p e below s₁ (mkF m 4 #[.val (.ref a0), .val (.ref a1), .val (.ref a2)] [(.ref a1), (.long u0)]) _
  refine own_step (fun t k => XS.iconst X0.here hx rfl (hb hby own_d6_4) k) ?_
  show own_Run p e below s₁ (mkF m 5 #[.val (.ref a0), .val (.ref a1), .val (.ref a2)] [(.int (0 : Int32)), (.ref a1), (.long u0)]) _
  refine own_step (own_ldJ X0 hx hZ e0 V1 (j := (0 : Int32)) (v := (.long v0)) ⟨by decide, by decide⟩ rfl (g := (mkF m 5 #[.val (.ref a0), .val (.ref a1), .val (.ref a2)] [(.int (0 : Int32)), (.ref a1), (.long u0)])) rfl rfl (hb hby own_d6_5)) ?_
  show own_Run p e below s₁ (mkF m 6 #[.val (.ref a0), .val (.ref a1), .val (.ref a2)] [(.long v0), (.long u0)]) _
  refine own_step (fun t k => XS.ladd X0.here hx rfl (hb hby own_d6_6) rfl k) ?_
  show own_Run p e below s₁ (mkF m 7 #[.val (.ref a0), .val (.ref a1), .val (.ref a2)] [(.long (u0 + v0))]) _
  refine own_step (fun t k => XS.aloadN X0.here hx rfl (hb hby own_d6_7) rfl rfl k) ?_
  show own_Run p e below s₁ (mkF m 8 #[.val (.ref a0), .val (.ref a1), .val (.ref a2)] [(.ref a0), (.long (u0 + v0))]) _
  refine own_step (fun t k => XS.iconst X0.here hx rfl (hb hby own_d6_8) k) ?_
  show own_Run p e below s₁ (mkF m 9 #[.val (.ref a0), .val (.ref a1), .val (.ref a2)] [(.int (1 : Int32)), (.ref a0), (.long (u0 + v0))]) _
  refine own_step (own_ldJ X0 hx hZ e0 V0 (j := (1 : Int32)) (v := (.long u1)) ⟨by decide, by decide⟩ rfl (g := (mkF m 9 #[.val (.ref a0), .val (.ref a1), .val (.ref a2)] [(.int (1 : Int32)), (.ref a0), (.long (u0 + v0))])) rfl rfl (hb hby own_d6_9)) ?_
  show own_Run p e below s₁ (mkF m 10 #[.val (.ref a0), .val (.ref a1), .val (.ref a2)] [(.long u1), (.long (u0 + v0))]) _
  refine own_step (fun t k => XS.aloadN X0.here hx rfl (hb hby own_d6_10) rfl rfl k) ?_
  show own_Run p e below s₁ (mkF m 11 #[.val (.ref a0), .val (.ref a1), .val (.ref a2)] [(.ref a1), (.long u1), (.long (u0 + v0))]) _
  refine own_step (fun t k => XS.iconst X0.here hx rfl (hb hby own_d6_11) k) ?_
  show own_Run p e below s₁ (mkF m 12 #[.val (.ref a0), .val (.ref a1), .val (.ref a2)] [(.int (1 : Int32)), (.ref a1), (.long u1), (.long (u0 + v0))]) _
  refine own_step (own_ldJ X0 hx hZ e0 V1 (j := (1 : Int32)) (v := (.long v1)) ⟨by decide, by decide⟩ rfl (g := (mkF m 12 #[.val (.ref a0), .val (.ref a1), .val (.ref a2)] [(.int (1 : Int32)), (.ref a1), (.long u1), (.long (u0 + v0))])) rfl rfl (hb hby own_d6_12)) ?_
  show own_Run p e below s₁ (mkF m 13 #[.val (.ref a0), .val (.ref a1), .val (.ref a2)] [(.long v1), (.long u1), (.long (u0 + v0))]) _
  refine own_step (fun t k => XS.ladd X0.here hx rfl (hb hby own_d6_13) rfl k) ?_
  show own_Run p e below s₁ (mkF m 14 #[.val (.ref a0), .val (.ref a1), .val (.ref a2)] [(.long (u1 + v1)), (.long (u0 + v0))]) _
  refine own_step (fun t k => XS.aloadN X0.here hx rfl (hb hby own_d6_14) rfl rfl k) ?_
  show own_Run p e below s₁ (mkF m 15 #[.val (.ref a0), .val (.ref a1), .val (.ref a2)] [(.ref a0), (.long (u1 + v1)), (.long (u0 + v0))]) _
  refine own_step (fun t k => XS.iconst X0.here hx rfl (hb hby own_d6_15) k) ?_
  show own_Run p e below s₁ (mkF m 16 #[.val (.ref a0), .val (.ref a1), .val (.ref a2)] [(.int (2 : Int32)), (.ref a0), (.long (u1 + v1)), (.long (u0 + v0))]) _
  refine own_step (own_ldJ X0 hx hZ e0 V0 (j := (2 : Int32)) (v := (.long u2)) ⟨by decide, by decide⟩ rfl (g := (mkF m 16 #[.val (.ref a0), .val (.ref a1), .val (.ref a2)] [(.int (2 : Int32)), (.ref a0), (.long (u1 + v1)), (.long (u0 + v0))])) rfl rfl (hb hby own_d6_16)) ?_
  show own_Run p e below s₁ (mkF m 17 #[.val (.ref a0), .val (.ref a1), .val (.ref a2)] [(.long u2), (.long (u1 + v1)), (.long (u0 + v0))]) _
  refine own_step (fun t k => XS.aloadN X0.here hx rfl (hb hby own_d6_17) rfl rfl k) ?_
  show own_Run p e below s₁ (mkF m 18 #[.val (.ref a0), .val (.ref a1), .val (.ref a2)] [(.ref a1), (.long u2), (.long (u1 + v1)), (.long (u0 + v0))]) _
  refine own_step (fun t k => XS.iconst X0.here hx rfl (hb hby own_d6_18) k) ?_
  show own_Run p e below s₁ (mkF m 19 #[.val (.ref a0), .val (.ref a1), .val (.ref a2)] [(.int (2 : Int32)), (.ref a1), (.long u2), (.long (u1 + v1)), (.long (u0 + v0))]) _
  refine own_step (own_ldJ X0 hx hZ e0 V1 (j := (2 : Int32)) (v := (.long v2)) ⟨by decide, by decide⟩ rfl (g := (mkF m 19 #[.val (.ref a0), .val (.ref a1), .val (.ref a2)] [(.int (2 : Int32)), (.ref a1), (.long u2), (.long (u1 + v1)), (.long (u0 + v0))])) rfl rfl (hb hby own_d6_19)) ?_
  show own_Run p e below s₁ (mkF m 20 #[.val (.ref a0), .val (.ref a1), .val (.ref a2)] [(.long v2), (.long u2), (.long (u1 + v1)), (.long (u0 + v0))]) _
  refine own_step (fun t k => XS.ladd X0.here hx rfl (hb hby own_d6_20) rfl k) ?_
  show own_Run p e below s₁ (mkF m 21 #[.val (.ref a0), .val (.ref a1), .val (.ref a2)] [(.long (u2 + v2)), (.long (u1 + v1)), (.long (u0 + v0))]) _
  refine own_step (fun t k => XS.aloadN X0.here hx rfl (hb hby own_d6_21) rfl rfl k) ?_
  show own_Run p e below s₁ (mkF m 22 #[.val (.ref a0), .val (.ref a1), .val (.ref a2)] [(.ref a0), (.long (u2 + v2)), (.long (u1 + v1)), (.long (u0 + v0))]) _
  refine own_step (fun t k => XS.iconst X0.here hx rfl (hb hby own_d6_22) k) ?_
  show own_Run p e below s₁ (mkF m 23 #[.val (.ref a0), .val (.ref a1), .val (.ref a2)] [(.int (3 : Int32)), (.ref a0), (.long (u2 + v2)), (.long (u1 + v1)), (.long (u0 + v0))]) _
  refine own_step (own_ldJ X0 hx hZ e0 V0 (j := (3 : Int32)) (v := (.long u3)) ⟨by decide, by decide⟩ rfl (g := (mkF m 23 #[.val (.ref a0), .val (.ref a1), .val (.ref a2)] [(.int (3 : Int32)), (.ref a0), (.long (u2 + v2)), (.long (u1 + v1)), (.long (u0 + v0))])) rfl rfl (hb hby own_d6_23)) ?_
  show own_Run p e below s₁ (mkF m 24 #[.val (.ref a0), .val (.ref a1), .val (.ref a2)] [(.long u3), (.long (u2 + v2)), (.long (u1 + v1)), (.long (u0 + v0))]) _
  refine own_step (fun t k => XS.aloadN X0.here hx rfl (hb hby own_d6_24) rfl rfl k) ?_
  show own_Run p e below s₁ (mkF m 25 #[.val (.ref a0), .val (.ref a1), .val (.ref a2)] [(.ref a1), (.long u3), (.long (u2 + v2)), (.long (u1 + v1)), (.long (u0 + v0))]) _
  refine own_step (fun t k => XS.iconst X0.here hx rfl (hb hby own_d6_25) k) ?_
  show own_Run p e below s₁ (mkF m 26 #[.val (.ref a0), .val (.ref a1), .val (.ref a2)] [(.int (3 : Int32)), (.ref a1), (.long u3), (.long (u2 + v2)), (.long (u1 + v1)), (.long (u0 + v0))]) _
  refine own_step (own_ldJ X0 hx hZ e0 V1 (j := (3 : Int32)) (v := (.long v3)) ⟨by decide, by decide⟩ rfl (g := (mkF m 26 #[.val (.ref a0), .val (.ref a1), .val (.ref a2)] [(.int (3 : Int32)), (.ref a1), (.long u3), (.long (u2 + v2)), (.long (u1 + v1)), (.long (u0 + v0))])) rfl rfl (hb hby own_d6_26)) ?_
  show own_Run p e below s₁ (mkF m 27 #[.val (.ref a0), .val (.ref a1), .val (.ref a2)] [(.long v3), (.long u3), (.long (u2 + v2)), (.long (u1 + v1)), (.long (u0 + v0))]) _
  refine own_step (fun t k => XS.ladd X0.here hx rfl (hb hby own_d6_27) rfl k) ?_
  show own_Run p e below s₁ (mkF m 28 #[.val (.ref a0), .val (.ref a1), .val (.ref a2)] [(.long (u3 + v3)), (.long (u2 + v2)), (.long (u1 + v1)), (.long (u0 + v0))]) _
  refine own_step (fun t k => XS.aloadN X0.here hx rfl (hb hby own_d6_28) rfl rfl k) ?_
  show own_Run p e below s₁ (mkF m 29 #[.val (.ref a0), .val (.ref a1), .val (.ref a2)] [(.ref a0), (.long (u3 + v3)), (.long (u2 + v2)), (.long (u1 + v1)), (.long (u0 + v0))]) _
  refine own_step (fun t k => XS.iconst X0.here hx rfl (hb hby own_d6_29) k) ?_
  show own_Run p e below s₁ (mkF m 30 #[.val (.ref a0), .val (.ref a1), .val (.ref a2)] [(.int (4 : Int32)), (.ref a0), (.long (u3 + v3)), (.long (u2 + v2)), (.long (u1 + v1)), (.long (u0 + v0))]) _
  refine own_step (own_ldJ X0 hx hZ e0 V0 (j := (4 : Int32)) (v := (.long u4)) ⟨by decide, by decide⟩ rfl (g := (mkF m 30 #[.val (.ref a0), .val (.ref a1), .val (.ref a2)] [(.int (4 : Int32)), (.ref a0), (.long (u3 + v3)), (.long (u2 + v2)), (.long (u1 + v1)), (.long (u0 + v0))])) rfl rfl (hb hby own_d6_30)) ?_
  show own_Run p e below s₁ (mkF m 31 #[.val (.ref a0), .val (.ref a1), .val (.ref a2)] [(.long u4), (.long (u3 + v3)), (.long (u2 + v2)), (.long (u1 + v1)), (.long (u0 + v0))]) _
  refine own_step (fun t k => XS.aloadN X0.here hx rfl (hb hby own_d6_31) rfl rfl k) ?_
  show own_Run p e below s₁ (mkF m 32 #[.val (.ref a0), .val (.ref a1), .val (.ref a2)] [(.ref a1), (.long u4), (.long (u3 + v3)), (.long (u2 + v2)), (.long (u1 + v1)), (.long (u0 + v0))]) _
  refine own_step (fun t k => XS.iconst X0.here hx rfl (hb hby own_d6_32) k) ?_
  show own_Run p e below s₁ (mkF m 33 #[.val (.ref a0), .val (.ref a1), .val (.ref a2)] [(.int (4 : Int32)), (.ref a1), (.long u4), (.long (u3 + v3)), (.long (u2 + v2)), (.long (u1 + v1)), (.long (u0 + v0))]) _
  refine own_step (own_ldJ X0 hx hZ e0 V1 (j := (4 : Int32)) (v := (.long v4)) ⟨by decide, by decide⟩ rfl (g := (mkF m 33 #[.val (.ref a0), .val (.ref a1), .val (.ref a2)] [(.int (4 : Int32)), (.ref a1), (.long u4), (.long (u3 + v3)), (.long (u2 + v2)), (.long (u1 + v1)), (.long (u0 + v0))])) rfl rfl (hb hby own_d6_33)) ?_
  show own_Run p e below s₁ (mkF m 34 #[.val (.ref a0), .val (.ref a1), .val (.ref a2)] [(.long v4), (.long u4), (.long (u3 + v3)), (.long (u2 + v2)), (.long (u1 + v1)), (.long (u0 + v0))]) _
  refine own_step (fun t k => XS.ladd X0.here hx rfl (hb hby own_d6_34) rfl k) ?_
  show own_Run p e below s₁ (mkF m 35 #[.val (.ref a0), .val (.ref a1), .val (.ref a2)] [(.long (u4 + v4)), (.long (u3 + v3)), (.long (u2 + v2)), (.long (u1 + v1)), (.long (u0 + v0))]) _
  refine own_step (fun t k => XS.aloadN X0.here hx rfl (hb hby own_d6_35) rfl rfl k) ?_
  show own_Run p e below s₁ (mkF m 36 #[.val (.ref a0), .val (.ref a1), .val (.ref a2)] [(.ref a2), (.long (u4 + v4)), (.long (u3 + v3)), (.long (u2 + v2)), (.long (u1 + v1)), (.long (u0 + v0))]) _
  obtain ⟨_, _, ⟨T6, L6, kq6, nq6⟩, -, X6, ⟨Lc6, hQ6, lq6, yq6, zq6⟩, st6⟩ := Jvm.LawKit.callS X0 hx (y := (⟨"com/example/rxrelay/rxrelay/protocol/gm/Sm2Field", "reduceOnce", "(JJJJJ[J)V"⟩ : MethodName)) hown (mvT hZ (hw _ (List.mem_of_getElem? (i := 31) rfl))) (mvT hZ (hw _ (List.mem_of_getElem? (i := 32) rfl))) (mvT hZ (hw _ (List.mem_of_getElem? (i := 23) rfl))) (mvT hZ (hw _ (List.mem_of_getElem? (i := 33) rfl))) (by decide) (backOf (W := 0) (rm7 l Z av0 hw [] (u0 + v0) (u1 + v1) (u2 + v2) (u3 + v3) (u4 + v4) a2 pl kp k2 w0 w1 w2 w3 w4 h0 n0 Z0 g2 nep V2 Sp Vp) hZ (hw _ (List.mem_of_getElem? (i := 33) rfl)) (hw _ (List.mem_of_getElem? (i := 23) rfl)) (by decide) (by decide)) (g := (mkF m 36 #[.val (.ref a0), .val (.ref a1), .val (.ref a2)] [(.ref a2), (.long (u4 + v4)), (.long (u3 + v3)), (.long (u2 + v2)), (.long (u1 + v1)), (.long (u0 + v0))])) rfl (by rw [hml]; rfl) (argsL := [(.long (u0 + v0)), (.long (u1 + v1)), (.long (u2 + v2)), (.long (u3 + v3)), (.long (u4 + v4)), (.ref a2)]) (rest := []) (lenOf own_pd426 rfl) rfl (by show 2 * 0 + _ ≤ _; exact Nat.le_of_eq rfl) (hb hby own_d6_36) (fun _ _ => ⟨rfl, e0, (by decide : 0 + 0 ≤ _), (by decide : 0 + 0 ≤ _)⟩)
  dsimp only [Pt.U, Pt.locs, Pt.cells, Pt.slots] at X6 lq6 yq6 zq6 st6 hQ6
  subst lq6 yq6 zq6
  obtain ⟨rfl, N6q, K6, P6_0⟩ := hQ6
  have N6 := Fr.app N0 N6q
  have Zn6 : n0 ≤ T6.heap.size := Nat.le_trans Z0 K6.1
  have P6_0x : Arv Z T6.heap a2 k2 .long (5 : Int32) [(.long (own_f6_c36_0_0 u0 v0 u4 v4 u3 v3 u2 v2 u1 v1)), (.long (own_f6_c36_0_1 u1 v1 u0 v0 u4 v4 u3 v3 u2 v2)), (.long (own_f6_c36_0_2 u2 v2 u1 v1 u0 v0 u4 v4 u3 v3)), (.long (own_f6_c36_0_3 u3 v3 u2 v2 u1 v1 u0 v0 u4 v4)), (.long (own_f6_c36_0_4 u4 v4 u3 v3 u2 v2 u1 v1 u0 v0))] (.long (0 : Int64)) := P6_0
  have f7 := V0.keep K6 (ninS ne0 nin0)
  have f8 := V1.keep K6 (ninS ne1 nin0)
  have f9 := own_keepS Sp K6 (allS (own_plV V2) all0)
  have f10 := Vp.keep K6 (ninS nep nin0)
  have KK6 : Keep h0 T6.heap [a2] := (Keep.refl h0 [a2]).trans K6 (allS (Or.inl (List.mem_of_getElem? (i := 0) rfl)) all0)
  refine own_step st6 ?_
  show own_Run p e below T6 (mkF m 39 #[.val (.ref a0), .val (.ref a1), .val (.ref a2)] []) _
  exact own_retV X6 hx hlk hret (hb hby own_d6_39) (by decide) (by decide) N6 (by exact ⟨KK6, P6_0x⟩)
theorem own_d5_0 : decode prog_33_method_10_code 0 = .ok (.aload_n 0, 1) := by decide +kernel
theorem own_d5_1 : decode prog_33_method_10_code 1 = .ok (.iconst 0, 1) := by decide +kernel
theorem own_d5_2 : decode prog_33_method_10_code 2 = .ok (.laload, 1) := by decide +kernel
theorem own_d5_3 : decode prog_33_method_10_code 3 = .ok (.aload_n 1, 1) := by decide +kernel
theorem own_d5_4 : decode prog_33_method_10_code 4 = .ok (.iconst 0, 1) := by decide +kernel
theorem own_d5_5 : decode prog_33_method_10_code 5 = .ok (.laload, 1) := by decide +kernel
theorem own_d5_6 : decode prog_33_method_10_code 6 = .ok (.lsub, 1) := by decide +kernel
theorem own_d5_7 : decode prog_33_method_10_code 7 = .ok (.lstore_n 3, 1) := by decide +kernel
theorem own_d5_8 : decode prog_33_method_10_code 8 = .ok (.aload_n 0, 1) := by decide +kernel
theorem own_d5_9 : decode prog_33_method_10_code 9 = .ok (.iconst 1, 1) := by decide +kernel
theorem own_d5_10 : decode prog_33_method_10_code 10 = .ok (.laload, 1) := by decide +kernel
theorem own_d5_11 : decode prog_33_method_10_code 11 = .ok (.aload_n 1, 1) := by decide +kernel
theorem own_d5_12 : decode prog_33_method_10_code 12 = .ok (.iconst 1, 1) := by decide +kernel
theorem own_d5_13 : decode prog_33_method_10_code 13 = .ok (.laload, 1) := by decide +kernel
theorem own_d5_14 : decode prog_33_method_10_code 14 = .ok (.lsub, 1) := by decide +kernel
theorem own_d5_15 : decode prog_33_method_10_code 15 = .ok (.lload_n 3, 1) := by decide +kernel
theorem own_d5_16 : decode prog_33_method_10_code 16 = .ok (.bipush 52, 2) := by decide +kernel
theorem own_d5_18 : decode prog_33_method_10_code 18 = .ok (.lshr, 1) := by decide +kernel
theorem own_d5_19 : decode prog_33_method_10_code 19 = .ok (.ladd, 1) := by decide +kernel
theorem own_d5_20 : decode prog_33_method_10_code 20 = .ok (.lstore 5, 2) := by decide +kernel
theorem own_d5_22 : decode prog_33_method_10_code 22 = .ok (.aload_n 0, 1) := by decide +kernel
theorem own_d5_23 : decode prog_33_method_10_code 23 = .ok (.iconst 2, 1) := by decide +kernel
theorem own_d5_24 : decode prog_33_method_10_code 24 = .ok (.laload, 1) := by decide +kernel
theorem own_d5_25 : decode prog_33_method_10_code 25 = .ok (.aload_n 1, 1) := by decide +kernel
theorem own_d5_26 : decode prog_33_method_10_code 26 = .ok (.iconst 2, 1) := by decide +kernel
theorem own_d5_27 : decode prog_33_method_10_code 27 = .ok (.laload, 1) := by decide +kernel
theorem own_d5_28 : decode prog_33_method_10_code 28 = .ok (.lsub, 1) := by decide +kernel
theorem own_d5_29 : decode prog_33_method_10_code 29 = .ok (.lload 5, 2) := by decide +kernel
theorem own_d5_31 : decode prog_33_method_10_code 31 = .ok (.bipush 52, 2) := by decide +kernel
theorem own_d5_33 : decode prog_33_method_10_code 33 = .ok (.lshr, 1) := by decide +kernel
theorem own_d5_34 : decode prog_33_method_10_code 34 = .ok (.ladd, 1) := by decide +kernel
theorem own_d5_35 : decode prog_33_method_10_code 35 = .ok (.lstore 7, 2) := by decide +kernel
theorem own_d5_37 : decode prog_33_method_10_code 37 = .ok (.aload_n 0, 1) := by decide +kernel
theorem own_d5_38 : decode prog_33_method_10_code 38 = .ok (.iconst 3, 1) := by decide +kernel
theorem own_d5_39 : decode prog_33_method_10_code 39 = .ok (.laload, 1) := by decide +kernel
theorem own_d5_40 : decode prog_33_method_10_code 40 = .ok (.aload_n 1, 1) := by decide +kernel
theorem own_d5_41 : decode prog_33_method_10_code 41 = .ok (.iconst 3, 1) := by decide +kernel
theorem own_d5_42 : decode prog_33_method_10_code 42 = .ok (.laload, 1) := by decide +kernel
theorem own_d5_43 : decode prog_33_method_10_code 43 = .ok (.lsub, 1) := by decide +kernel
theorem own_d5_44 : decode prog_33_method_10_code 44 = .ok (.lload 7, 2) := by decide +kernel
theorem own_d5_46 : decode prog_33_method_10_code 46 = .ok (.bipush 52, 2) := by decide +kernel
theorem own_d5_48 : decode prog_33_method_10_code 48 = .ok (.lshr, 1) := by decide +kernel
theorem own_d5_49 : decode prog_33_method_10_code 49 = .ok (.ladd, 1) := by decide +kernel
theorem own_d5_50 : decode prog_33_method_10_code 50 = .ok (.lstore 9, 2) := by decide +kernel
theorem own_d5_52 : decode prog_33_method_10_code 52 = .ok (.aload_n 0, 1) := by decide +kernel
theorem own_d5_53 : decode prog_33_method_10_code 53 = .ok (.iconst 4, 1) := by decide +kernel
theorem own_d5_54 : decode prog_33_method_10_code 54 = .ok (.laload, 1) := by decide +kernel
theorem own_d5_55 : decode prog_33_method_10_code 55 = .ok (.aload_n 1, 1) := by decide +kernel
theorem own_d5_56 : decode prog_33_method_10_code 56 = .ok (.iconst 4, 1) := by decide +kernel
theorem own_d5_57 : decode prog_33_method_10_code 57 = .ok (.laload, 1) := by decide +kernel
theorem own_d5_58 : decode prog_33_method_10_code 58 = .ok (.lsub, 1) := by decide +kernel
theorem own_d5_59 : decode prog_33_method_10_code 59 = .ok (.lload 9, 2) := by decide +kernel
theorem own_d5_61 : decode prog_33_method_10_code 61 = .ok (.bipush 52, 2) := by decide +kernel
theorem own_d5_63 : decode prog_33_method_10_code 63 = .ok (.lshr, 1) := by decide +kernel
theorem own_d5_64 : decode prog_33_method_10_code 64 = .ok (.ladd, 1) := by decide +kernel
theorem own_d5_65 : decode prog_33_method_10_code 65 = .ok (.lstore 11, 2) := by decide +kernel
theorem own_d5_67 : decode prog_33_method_10_code 67 = .ok (.lload 11, 2) := by decide +kernel
theorem own_d5_69 : decode prog_33_method_10_code 69 = .ok (.bipush 63, 2) := by decide +kernel
theorem own_d5_71 : decode prog_33_method_10_code 71 = .ok (.lshr, 1) := by decide +kernel
theorem own_d5_72 : decode prog_33_method_10_code 72 = .ok (.lstore 13, 2) := by decide +kernel
theorem own_d5_74 : decode prog_33_method_10_code 74 = .ok (.lload_n 3, 1) := by decide +kernel
theorem own_d5_75 : decode prog_33_method_10_code 75 = .ok (.ldc2_w 66, 3) := by decide +kernel
theorem own_d5_78 : decode prog_33_method_10_code 78 = .ok (.land, 1) := by decide +kernel
theorem own_d5_79 : decode prog_33_method_10_code 79 = .ok (.getstatic 68, 3) := by decide +kernel
theorem own_d5_82 : decode prog_33_method_10_code 82 = .ok (.iconst 0, 1) := by decide +kernel
theorem own_d5_83 : decode prog_33_method_10_code 83 = .ok (.laload, 1) := by decide +kernel
theorem own_d5_84 : decode prog_33_method_10_code 84 = .ok (.lload 13, 2) := by decide +kernel
theorem own_d5_86 : decode prog_33_method_10_code 86 = .ok (.land, 1) := by decide +kernel
theorem own_d5_87 : decode prog_33_method_10_code 87 = .ok (.ladd, 1) := by decide +kernel
theorem own_d5_88 : decode prog_33_method_10_code 88 = .ok (.lstore_n 3, 1) := by decide +kernel
theorem own_d5_89 : decode prog_33_method_10_code 89 = .ok (.lload 5, 2) := by decide +kernel
theorem own_d5_91 : decode prog_33_method_10_code 91 = .ok (.ldc2_w 66, 3) := by decide +kernel
theorem own_d5_94 : decode prog_33_method_10_code 94 = .ok (.land, 1) := by decide +kernel
theorem own_d5_95 : decode prog_33_method_10_code 95 = .ok (.getstatic 68, 3) := by decide +kernel
theorem own_d5_98 : decode prog_33_method_10_code 98 = .ok (.iconst 1, 1) := by decide +kernel
theorem own_d5_99 : decode prog_33_method_10_code 99 = .ok (.laload, 1) := by decide +kernel
theorem own_d5_100 : decode prog_33_method_10_code 100 = .ok (.lload 13, 2) := by decide +kernel
theorem own_d5_102 : decode prog_33_method_10_code 102 = .ok (.land, 1) := by decide +kernel
theorem own_d5_103 : decode prog_33_method_10_code 103 = .ok (.ladd, 1) := by decide +kernel
theorem own_d5_104 : decode prog_33_method_10_code 104 = .ok (.lload_n 3, 1) := by decide +kernel
theorem own_d5_105 : decode prog_33_method_10_code 105 = .ok (.bipush 52, 2) := by decide +kernel
theorem own_d5_107 : decode prog_33_method_10_code 107 = .ok (.lshr, 1) := by decide +kernel
theorem own_d5_108 : decode prog_33_method_10_code 108 = .ok (.ladd, 1) := by decide +kernel
theorem own_d5_109 : decode prog_33_method_10_code 109 = .ok (.lstore 5, 2) := by decide +kernel
theorem own_d5_111 : decode prog_33_method_10_code 111 = .ok (.lload 7, 2) := by decide +kernel
theorem own_d5_113 : decode prog_33_method_10_code 113 = .ok (.ldc2_w 66, 3) := by decide +kernel
theorem own_d5_116 : decode prog_33_method_10_code 116 = .ok (.land, 1) := by decide +kernel
theorem own_d5_117 : decode prog_33_method_10_code 117 = .ok (.getstatic 68, 3) := by decide +kernel
theorem own_d5_120 : decode prog_33_method_10_code 120 = .ok (.iconst 2, 1) := by decide +kernel
theorem own_d5_121 : decode prog_33_method_10_code 121 = .ok (.laload, 1) := by decide +kernel
theorem own_d5_122 : decode prog_33_method_10_code 122 = .ok (.lload 13, 2) := by decide +kernel
theorem own_d5_124 : decode prog_33_method_10_code 124 = .ok (.land, 1) := by decide +kernel
theorem own_d5_125 : decode prog_33_method_10_code 125 = .ok (.ladd, 1) := by decide +kernel
theorem own_d5_126 : decode prog_33_method_10_code 126 = .ok (.lload 5, 2) := by decide +kernel
theorem own_d5_128 : decode prog_33_method_10_code 128 = .ok (.bipush 52, 2) := by decide +kernel
theorem own_d5_130 : decode prog_33_method_10_code 130 = .ok (.lshr, 1) := by decide +kernel
theorem own_d5_131 : decode prog_33_method_10_code 131 = .ok (.ladd, 1) := by decide +kernel
theorem own_d5_132 : decode prog_33_method_10_code 132 = .ok (.lstore 7, 2) := by decide +kernel
theorem own_d5_134 : decode prog_33_method_10_code 134 = .ok (.lload 9, 2) := by decide +kernel
theorem own_d5_136 : decode prog_33_method_10_code 136 = .ok (.ldc2_w 66, 3) := by decide +kernel
theorem own_d5_139 : decode prog_33_method_10_code 139 = .ok (.land, 1) := by decide +kernel
theorem own_d5_140 : decode prog_33_method_10_code 140 = .ok (.getstatic 68, 3) := by decide +kernel
theorem own_d5_143 : decode prog_33_method_10_code 143 = .ok (.iconst 3, 1) := by decide +kernel
theorem own_d5_144 : decode prog_33_method_10_code 144 = .ok (.laload, 1) := by decide +kernel
theorem own_d5_145 : decode prog_33_method_10_code 145 = .ok (.lload 13, 2) := by decide +kernel
theorem own_d5_147 : decode prog_33_method_10_code 147 = .ok (.land, 1) := by decide +kernel
theorem own_d5_148 : decode prog_33_method_10_code 148 = .ok (.ladd, 1) := by decide +kernel
theorem own_d5_149 : decode prog_33_method_10_code 149 = .ok (.lload 7, 2) := by decide +kernel
theorem own_d5_151 : decode prog_33_method_10_code 151 = .ok (.bipush 52, 2) := by decide +kernel
theorem own_d5_153 : decode prog_33_method_10_code 153 = .ok (.lshr, 1) := by decide +kernel
theorem own_d5_154 : decode prog_33_method_10_code 154 = .ok (.ladd, 1) := by decide +kernel
theorem own_d5_155 : decode prog_33_method_10_code 155 = .ok (.lstore 9, 2) := by decide +kernel
theorem own_d5_157 : decode prog_33_method_10_code 157 = .ok (.lload 11, 2) := by decide +kernel
theorem own_d5_159 : decode prog_33_method_10_code 159 = .ok (.getstatic 68, 3) := by decide +kernel
theorem own_d5_162 : decode prog_33_method_10_code 162 = .ok (.iconst 4, 1) := by decide +kernel
theorem own_d5_163 : decode prog_33_method_10_code 163 = .ok (.laload, 1) := by decide +kernel
theorem own_d5_164 : decode prog_33_method_10_code 164 = .ok (.lload 13, 2) := by decide +kernel
theorem own_d5_166 : decode prog_33_method_10_code 166 = .ok (.land, 1) := by decide +kernel
theorem own_d5_167 : decode prog_33_method_10_code 167 = .ok (.ladd, 1) := by decide +kernel
theorem own_d5_168 : decode prog_33_method_10_code 168 = .ok (.lload 9, 2) := by decide +kernel
theorem own_d5_170 : decode prog_33_method_10_code 170 = .ok (.bipush 52, 2) := by decide +kernel
theorem own_d5_172 : decode prog_33_method_10_code 172 = .ok (.lshr, 1) := by decide +kernel
theorem own_d5_173 : decode prog_33_method_10_code 173 = .ok (.ladd, 1) := by decide +kernel
theorem own_d5_174 : decode prog_33_method_10_code 174 = .ok (.lstore 11, 2) := by decide +kernel
theorem own_d5_176 : decode prog_33_method_10_code 176 = .ok (.aload_n 2, 1) := by decide +kernel
theorem own_d5_177 : decode prog_33_method_10_code 177 = .ok (.iconst 0, 1) := by decide +kernel
theorem own_d5_178 : decode prog_33_method_10_code 178 = .ok (.lload_n 3, 1) := by decide +kernel
theorem own_d5_179 : decode prog_33_method_10_code 179 = .ok (.ldc2_w 66, 3) := by decide +kernel
theorem own_d5_182 : decode prog_33_method_10_code 182 = .ok (.land, 1) := by decide +kernel
theorem own_d5_183 : decode prog_33_method_10_code 183 = .ok (.lastore, 1) := by decide +kernel
theorem own_d5_184 : decode prog_33_method_10_code 184 = .ok (.aload_n 2, 1) := by decide +kernel
theorem own_d5_185 : decode prog_33_method_10_code 185 = .ok (.iconst 1, 1) := by decide +kernel
theorem own_d5_186 : decode prog_33_method_10_code 186 = .ok (.lload 5, 2) := by decide +kernel
theorem own_d5_188 : decode prog_33_method_10_code 188 = .ok (.ldc2_w 66, 3) := by decide +kernel
theorem own_d5_191 : decode prog_33_method_10_code 191 = .ok (.land, 1) := by decide +kernel
theorem own_d5_192 : decode prog_33_method_10_code 192 = .ok (.lastore, 1) := by decide +kernel
theorem own_d5_193 : decode prog_33_method_10_code 193 = .ok (.aload_n 2, 1) := by decide +kernel
theorem own_d5_194 : decode prog_33_method_10_code 194 = .ok (.iconst 2, 1) := by decide +kernel
theorem own_d5_195 : decode prog_33_method_10_code 195 = .ok (.lload 7, 2) := by decide +kernel
theorem own_d5_197 : decode prog_33_method_10_code 197 = .ok (.ldc2_w 66, 3) := by decide +kernel
theorem own_d5_200 : decode prog_33_method_10_code 200 = .ok (.land, 1) := by decide +kernel
theorem own_d5_201 : decode prog_33_method_10_code 201 = .ok (.lastore, 1) := by decide +kernel
theorem own_d5_202 : decode prog_33_method_10_code 202 = .ok (.aload_n 2, 1) := by decide +kernel
theorem own_d5_203 : decode prog_33_method_10_code 203 = .ok (.iconst 3, 1) := by decide +kernel
theorem own_d5_204 : decode prog_33_method_10_code 204 = .ok (.lload 9, 2) := by decide +kernel
theorem own_d5_206 : decode prog_33_method_10_code 206 = .ok (.ldc2_w 66, 3) := by decide +kernel
theorem own_d5_209 : decode prog_33_method_10_code 209 = .ok (.land, 1) := by decide +kernel
theorem own_d5_210 : decode prog_33_method_10_code 210 = .ok (.lastore, 1) := by decide +kernel
theorem own_d5_211 : decode prog_33_method_10_code 211 = .ok (.aload_n 2, 1) := by decide +kernel
theorem own_d5_212 : decode prog_33_method_10_code 212 = .ok (.iconst 4, 1) := by decide +kernel
theorem own_d5_213 : decode prog_33_method_10_code 213 = .ok (.lload 11, 2) := by decide +kernel
theorem own_d5_215 : decode prog_33_method_10_code 215 = .ok (.lastore, 1) := by decide +kernel
theorem own_d5_216 : decode prog_33_method_10_code 216 = .ok (.return_, 1) := by decide +kernel
def own_f5_20 (u1 : Int64) (v1 : Int64) (u0 : Int64) (v0 : Int64) : Int64 := ((u1 - v1) + (own_shrL (u0 - v0) (52 : Int32)))
def own_f5_35 (u2 : Int64) (v2 : Int64) (u1 : Int64) (v1 : Int64) (u0 : Int64) (v0 : Int64) : Int64 := ((u2 - v2) + (own_shrL (own_f5_20 u1 v1 u0 v0) (52 : Int32)))
def own_f5_50 (u3 : Int64) (v3 : Int64) (u2 : Int64) (v2 : Int64) (u1 : Int64) (v1 : Int64) (u0 : Int64) (v0 : Int64) : Int64 := ((u3 - v3) + (own_shrL (own_f5_35 u2 v2 u1 v1 u0 v0) (52 : Int32)))
def own_f5_65 (u4 : Int64) (v4 : Int64) (u3 : Int64) (v3 : Int64) (u2 : Int64) (v2 : Int64) (u1 : Int64) (v1 : Int64) (u0 : Int64) (v0 : Int64) : Int64 := ((u4 - v4) + (own_shrL (own_f5_50 u3 v3 u2 v2 u1 v1 u0 v0) (52 : Int32)))
def own_f5_72 (u4 : Int64) (v4 : Int64) (u3 : Int64) (v3 : Int64) (u2 : Int64) (v2 : Int64) (u1 : Int64) (v1 : Int64) (u0 : Int64) (v0 : Int64) : Int64 := (own_shrL (own_f5_65 u4 v4 u3 v3 u2 v2 u1 v1 u0 v0) (63 : Int32))
def own_f5_88 (u0 : Int64) (v0 : Int64) (u4 : Int64) (v4 : Int64) (u3 : Int64) (v3 : Int64) (u2 : Int64) (v2 : Int64) (u1 : Int64) (v1 : Int64) : Int64 := (((u0 - v0) &&& (4503599627370495 : Int64)) + ((4503599627370495 : Int64) &&& (own_f5_72 u4 v4 u3 v3 u2 v2 u1 v1 u0 v0)))
def own_f5_109 (u1 : Int64) (v1 : Int64) (u0 : Int64) (v0 : Int64) (u4 : Int64) (v4 : Int64) (u3 : Int64) (v3 : Int64) (u2 : Int64) (v2 : Int64) : Int64 := ((((own_f5_20 u1 v1 u0 v0) &&& (4503599627370495 : Int64)) + ((4486007441330175 : Int64) &&& (own_f5_72 u4 v4 u3 v3 u2 v2 u1 v1 u0 v0))) + (own_shrL (own_f5_88 u0 v0 u4 v4 u3 v3 u2 v2 u1 v1) (52 : Int32)))
def own_f5_132 (u2 : Int64) (v2 : Int64) (u1 : Int64) (v1 : Int64) (u0 : Int64) (v0 : Int64) (u4 : Int64) (v4 : Int64) (u3 : Int64) (v3 : Int64) : Int64 := ((((own_f5_35 u2 v2 u1 v1 u0 v0) &&& (4503599627370495 : Int64)) + ((4503599627370495 : Int64) &&& (own_f5_72 u4 v4 u3 v3 u2 v2 u1 v1 u0 v0))) + (own_shrL (own_f5_109 u1 v1 u0 v0 u4 v4 u3 v3 u2 v2) (52 : Int32)))
def own_f5_155 (u3 : Int64) (v3 : Int64) (u2 : Int64) (v2 : Int64) (u1 : Int64) (v1 : Int64) (u0 : Int64) (v0 : Int64) (u4 : Int64) (v4 : Int64) : Int64 := ((((own_f5_50 u3 v3 u2 v2 u1 v1 u0 v0) &&& (4503599627370495 : Int64)) + ((4503599627370495 : Int64) &&& (own_f5_72 u4 v4 u3 v3 u2 v2 u1 v1 u0 v0))) + (own_shrL (own_f5_132 u2 v2 u1 v1 u0 v0 u4 v4 u3 v3) (52 : Int32)))
def own_f5_174 (u4 : Int64) (v4 : Int64) (u3 : Int64) (v3 : Int64) (u2 : Int64) (v2 : Int64) (u1 : Int64) (v1 : Int64) (u0 : Int64) (v0 : Int64) : Int64 := (((own_f5_65 u4 v4 u3 v3 u2 v2 u1 v1 u0 v0) + ((281474976645119 : Int64) &&& (own_f5_72 u4 v4 u3 v3 u2 v2 u1 v1 u0 v0))) + (own_shrL (own_f5_155 u3 v3 u2 v2 u1 v1 u0 v0 u4 v4) (52 : Int32)))
def own_f5_v2_0 (u0 : Int64) (v0 : Int64) (u4 : Int64) (v4 : Int64) (u3 : Int64) (v3 : Int64) (u2 : Int64) (v2 : Int64) (u1 : Int64) (v1 : Int64) : Int64 := ((own_f5_88 u0 v0 u4 v4 u3 v3 u2 v2 u1 v1) &&& (4503599627370495 : Int64))
def own_f5_v2_1 (u1 : Int64) (v1 : Int64) (u0 : Int64) (v0 : Int64) (u4 : Int64) (v4 : Int64) (u3 : Int64) (v3 : Int64) (u2 : Int64) (v2 : Int64) : Int64 := ((own_f5_109 u1 v1 u0 v0 u4 v4 u3 v3 u2 v2) &&& (4503599627370495 : Int64))
def own_f5_v2_2 (u2 : Int64) (v2 : Int64) (u1 : Int64) (v1 : Int64) (u0 : Int64) (v0 : Int64) (u4 : Int64) (v4 : Int64) (u3 : Int64) (v3 : Int64) : Int64 := ((own_f5_132 u2 v2 u1 v1 u0 v0 u4 v4 u3 v3) &&& (4503599627370495 : Int64))
def own_f5_v2_3 (u3 : Int64) (v3 : Int64) (u2 : Int64) (v2 : Int64) (u1 : Int64) (v1 : Int64) (u0 : Int64) (v0 : Int64) (u4 : Int64) (v4 : Int64) : Int64 := ((own_f5_155 u3 v3 u2 v2 u1 v1 u0 v0 u4 v4) &&& (4503599627370495 : Int64))
def own_f5_v2_4 (u4 : Int64) (v4 : Int64) (u3 : Int64) (v3 : Int64) (u2 : Int64) (v2 : Int64) (u1 : Int64) (v1 : Int64) (u0 : Int64) (v0 : Int64) : Int64 := (own_f5_174 u4 v4 u3 v3 u2 v2 u1 v1 u0 v0)
theorem own_ef5 (m : MethodId) (a0 : Addr) (a1 : Addr) (a2 : Addr) : entryFrame m #[(.ref a0), (.ref a1), (.ref a2)] 15 = (mkF m 0 #[.val (.ref a0), .val (.ref a1), .val (.ref a2), .unset, .unset, .unset, .unset, .unset, .unset, .unset, .unset, .unset, .unset, .unset, .unset] []) := by first | (simp [entryFrame, mkF, argsToLocals, Value.category]; done) | rfl
set_option maxRecDepth 65536 in
set_option maxHeartbeats 40000000 in
theorem rm5 (l : Launch) (Z : State) (av0 : Array Value) (hw : ∀ d ∈ tables_1, d.before av0 Z = true) (ws : List Jvm.Cond) (a0 : Addr) (a1 : Addr) (a2 : Addr) (pl : Addr) (kp : ClassId) (k0 : ClassId) (k1 : ClassId) (k2 : ClassId) (u0 : Int64) (u1 : Int64) (u2 : Int64) (u3 : Int64) (u4 : Int64) (v0 : Int64) (v1 : Int64) (v2 : Int64) (v3 : Int64) (v4 : Int64) (w0 : Int64) (w1 : Int64) (w2 : Int64) (w3 : Int64) (w4 : Int64) (h0 : Heap) (n0 : Nat) (Z0 : n0 ≤ h0.size) (gw : n0 ≤ a2) (nep : pl ≠ a2) (ne0 : a0 ≠ a2) (ne1 : a1 ≠ a2) (V0 : Arv Z h0 a0 k0 .long (5 : Int32) [(.long u0), (.long u1), (.long u2), (.long u3), (.long u4)] (.long (0 : Int64))) (V1 : Arv Z h0 a1 k1 .long (5 : Int32) [(.long v0), (.long v1), (.long v2), (.long v3), (.long v4)] (.long (0 : Int64))) (V2 : Arv Z h0 a2 k2 .long (5 : Int32) [(.long w0), (.long w1), (.long w2), (.long w3), (.long w4)] (.long (0 : Int64))) (Sp : Sta Z h0 "com/example/rxrelay/rxrelay/protocol/gm/Sm2Field" "P_LIMBS" "[J" (.ref pl)) (Vp : Arv Z h0 pl kp .long (5 : Int32) [(.long (4503599627370495 : Int64)), (.long (4486007441330175 : Int64)), (.long (4503599627370495 : Int64)), (.long (4503599627370495 : Int64)), (.long (281474976645119 : Int64))] (.long (0 : Int64))) :
    MetFree l (⟨"com/example/rxrelay/rxrelay/protocol/gm/Sm2Field", "subtract", "([J[J[J)V"⟩ : MethodName) (head1 (Jvm.Cond.code (⟨"com/example/rxrelay/rxrelay/protocol/gm/Sm2Field", "subtract", "([J[J[J)V"⟩ : MethodName) prog_33_method_10_code 15 none :: ws) ({ frames := 0, cells := 0, slots := 0, locals := 0 } : Room)) (fun a U => a = #[(.ref a0), (.ref a1), (.ref a2)] ∧ Z.Warmed39 U.vm ∧ U.heap = h0) (fun _ _ _ _ _ => True) (fun _ U o U' => ∃ v L, o = .returned v ∧ own_Q n0 (fun h => Keep h0 h [a2] ∧ Arv Z h a2 k2 .long (5 : Int32) [(.long (own_f5_v2_0 u0 v0 u4 v4 u3 v3 u2 v2 u1 v1)), (.long (own_f5_v2_1 u1 v1 u0 v0 u4 v4 u3 v3 u2 v2)), (.long (own_f5_v2_2 u2 v2 u1 v1 u0 v0 u4 v4 u3 v3)), (.long (own_f5_v2_3 u3 v3 u2 v2 u1 v1 u0 v0 u4 v4)), (.long (own_f5_v2_4 u4 v4 u3 v3 u2 v2 u1 v1 u0 v0))] (.long (0 : Int64))) none v U'.heap L ∧ FrameEnd U o U' L ({ frames := 0, cells := 0, slots := 0, locals := 0 } : Room).cells ({ frames := 0, cells := 0, slots := 0, locals := 0 } : Room).slots) := by
  refine MetFree.of_bodySF (plainFor_of_name own_pn1) hisR ?_
  intro p e s m args below meth c s₁ Bd hml0 hP hK
  obtain ⟨rfl, hZ, hh⟩ := hP
  have hx := Bd.exec
  have hby := Bd.bytes
  have hml : c.maxLocals = 15 := hml0
  have hown : s.vm.findClass "com/example/rxrelay/rxrelay/protocol/gm/Sm2Field" = some m.cls := findClass_of_methodNamed Bd.named
  have hnm := (name_of_methodNamed Bd.named Bd.method).1
  have hret := Bd.returns
  have hlk : meth.locks = false := BodyLoose.notSynchronized Bd
  have X0 : Stand p l e ({ frames := 0, cells := 0, slots := 0, locals := 0 } : Room) s m #[(.ref a0), (.ref a1), (.ref a2)] below meth c s₁ [] 0 0 := Stand.of_body Bd
  have e0 : s₁.heap = h0 := by rw [← hh, Bd.state]; rfl
  have N0 := Fr.nil n0
  clear Bd hh hK
  refine own_fin ?_
  refine own_entry (own_ef5 m a0 a1 a2) ?_
  show own_Run p e below s₁ (mkF m 0 #[.val (.ref a0), .val (.ref a1), .val (.ref a2), .unset, .unset, .unset, .unset, .unset, .unset, .unset, .unset, .unset, .unset, .unset, .unset] []) _
  refine own_step (fun t k => XS.aloadN X0.here hx rfl (hb hby own_d5_0) rfl rfl k) ?_
  refine own_step (fun t k => XS.iconst X0.here hx rfl (hb hby own_d5_1) k) ?_
  refine own_step (own_ldJ X0 hx hZ e0 V0 (j := (0 : Int32)) (v := (.long u0)) ⟨by decide, by decide⟩ rfl (g := (mkF m 2 #[.val (.ref a0), .val (.ref a1), .val (.ref a2), .unset, .unset, .unset, .unset, .unset, .unset, .unset, .unset, .unset, .unset, .unset, .unset] [(.int (0 : Int32)), (.ref a0)])) rfl rfl (hb hby own_d5_2)) ?_
  show own_Run p e below s₁ (mkF m 3 #[.val (.ref a0), .val (.ref a1), .val (.ref a2), .unset, .unset, .unset, .unset, .unset, .unset, .unset, .unset, .unset, .unset, .unset, .unset] [(.long u0)]) _
  refine own_step (fun t k => XS.aloadN X0.here hx rfl (hb hby own_d5_3) rfl rfl k) ?_
  refine own_step (fun t k => XS.iconst X0.here hx rfl (hb hby own_d5_4) k) ?_
  refine own_step (own_ldJ X0 hx hZ e0 V1 (j := (0 : Int32)) (v := (.long v0)) ⟨by decide, by decide⟩ rfl (g := (mkF m 5 #[.val (.ref a0), .val (.ref a1), .val (.ref a2), .unset, .unset, .unset, .unset, .unset, .unset, .unset, .unset, .unset, .unset, .unset, .unset] [(.int (0 : Int32)), (.ref a1), (.long u0)])) rfl rfl (hb hby own_d5_5)) ?_
  show own_Run p e below s₁ (mkF m 6 #[.val (.ref a0), .val (.ref a1), .val (.ref a2), .unset, .unset, .unset, .unset, .unset, .unset, .unset, .unset, .unset, .unset, .unset, .unset] [(.long v0), (.long u0)]) _
  refine own_step (fun t k => XS.lsub X0.here hx rfl (hb hby own_d5_6) rfl k) ?_
  show own_Run p e below s₁ (mkF m 7 #[.val (.ref a0), .val (.ref a1), .val (.ref a2), .unset, .unset, .unset, .unset, .unset, .unset, .unset, .unset, .unset, .unset, .unset, .unset] [(.long (u0 - v0))]) _
  refine own_step (fun t k => XS.lstoreN X0.here hx rfl (hb hby own_d5_7) rfl (l' := #[.val (.ref a0), .val (.ref a1), .val (.ref a2), .val (.long (u0 - v0)), .second, .unset, .unset, .unset, .unset, .unset, .unset, .unset, .unset, .unset, .unset]) rfl k) ?_
  show own_Run p e below s₁ (mkF m 8 #[.val (.ref a0), .val (.ref a1), .val (.ref a2), .val (.long (u0 - v0)), .second, .unset, .unset, .unset, .unset, .unset, .unset, .unset, .unset, .unset, .unset] []) _
  refine own_step (fun t k => XS.aloadN X0.here hx rfl (hb hby own_d5_8) rfl rfl k) ?_
  refine own_step (fun t k => XS.iconst X0.here hx rfl (hb hby own_d5_9) k) ?_
  refine own_step (own_ldJ X0 hx hZ e0 V0 (j := (1 : Int32)) (v := (.long u1)) ⟨by decide, by decide⟩ rfl (g := (mkF m 10 #[.val (.ref a0), .val (.ref a1), .val (.ref a2), .val (.long (u0 - v0)), .second, .unset, .unset, .unset, .unset, .unset, .unset, .unset, .unset, .unset, .unset] [(.int (1 : Int32)), (.ref a0)])) rfl rfl (hb hby own_d5_10)) ?_
  show own_Run p e below s₁ (mkF m 11 #[.val (.ref a0), .val (.ref a1), .val (.ref a2), .val (.long (u0 - v0)), .second, .unset, .unset, .unset, .unset, .unset, .unset, .unset, .unset, .unset, .unset] [(.long u1)]) _
  refine own_step (fun t k => XS.aloadN X0.here hx rfl (hb hby own_d5_11) rfl rfl k) ?_
  refine own_step (fun t k => XS.iconst X0.here hx rfl (hb hby own_d5_12) k) ?_
  refine own_step (own_ldJ X0 hx hZ e0 V1 (j := (1 : Int32)) (v := (.long v1)) ⟨by decide, by decide⟩ rfl (g := (mkF m 13 #[.val (.ref a0), .val (.ref a1), .val (.ref a2), .val (.long (u0 - v0)), .second, .unset, .unset, .unset, .unset, .unset, .unset, .unset, .unset, .unset, .unset] [(.int (1 : Int32)), (.ref a1), (.long u1)])) rfl rfl (hb hby own_d5_13)) ?_
  show own_Run p e below s₁ (mkF m 14 #[.val (.ref a0), .val (.ref a1), .val (.ref a2), .val (.long (u0 - v0)), .second, .unset, .unset, .unset, .unset, .unset, .unset, .unset, .unset, .unset, .unset] [(.long v1), (.long u1)]) _
  refine own_step (fun t k => XS.lsub X0.here hx rfl (hb hby own_d5_14) rfl k) ?_
  show own_Run p e below s₁ (mkF m 15 #[.val (.ref a0), .val (.ref a1), .val (.ref a2), .val (.long (u0 - v0)), .second, .unset, .unset, .unset, .unset, .unset, .unset, .unset, .unset, .unset, .unset] [(.long (u1 - v1))]) _
  refine own_step (fun t k => XS.lloadN X0.here hx rfl (hb hby own_d5_15) rfl  k) ?_
  refine own_step (fun t k => XS.bipush X0.here hx rfl (hb hby own_d5_16) k) ?_
  refine own_step (fun t k => XS.lshr X0.here hx rfl (hb hby own_d5_18) rfl k) ?_
  show own_Run p e below s₁ (mkF m 19 #[.val (.ref a0), .val (.ref a1), .val (.ref a2), .val (.long (u0 - v0)), .second, .unset, .unset, .unset, .unset, .unset, .unset, .unset, .unset, .unset, .unset] [(.long (own_shrL (u0 - v0) (52 : Int32))), (.long (u1 - v1))]) _
  refine own_step (fun t k => XS.ladd X0.here hx rfl (hb hby own_d5_19) rfl k) ?_
  show own_Run p e below s₁ (mkF m 20 #[.val (.ref a0), .val (.ref a1), .val (.ref a2), .val (.long (u0 - v0)), .second, .unset, .unset, .unset, .unset, .unset, .unset, .unset, .unset, .unset, .unset] [(.long ((u1 - v1) + (own_shrL (u0 - v0) (52 : Int32))))]) _
  obtain ⟨t41, ht41⟩ : ∃ z : Int64, z = ((u1 - v1) + (own_shrL (u0 - v0) (52 : Int32))) := ⟨_, rfl⟩
  refine own_step (fun t k => XS.lstore X0.here hx rfl (hb hby own_d5_20) rfl (l' := #[.val (.ref a0), .val (.ref a1), .val (.ref a2), .val (.long (u0 - v0)), .second, .val (.long t41), .second, .unset, .unset, .unset, .unset, .unset, .unset, .unset, .unset]) (by subst ht41; rfl) k) ?_
  show own_Run p e below s₁ (mkF m 22 #[.val (.ref a0), .val (.ref a1), .val (.ref a2), .val (.long (u0 - v0)), .second, .val (.long t41), .second, .unset, .unset, .unset, .unset, .unset, .unset, .unset, .unset] []) _
  refine own_step (fun t k => XS.aloadN X0.here hx rfl (hb hby own_d5_22) rfl rfl k) ?_
  refine own_step (fun t k => XS.iconst X0.here hx rfl (hb hby own_d5_23) k) ?_
  refine own_step (own_ldJ X0 hx hZ e0 V0 (j := (2 : Int32)) (v := (.long u2)) ⟨by decide, by decide⟩ rfl (g := (mkF m 24 #[.val (.ref a0), .val (.ref a1), .val (.ref a2), .val (.long (u0 - v0)), .second, .val (.long t41), .second, .unset, .unset, .unset, .unset, .unset, .unset, .unset, .unset] [(.int (2 : Int32)), (.ref a0)])) rfl rfl (hb hby own_d5_24)) ?_
  show own_Run p e below s₁ (mkF m 25 #[.val (.ref a0), .val (.ref a1), .val (.ref a2), .val (.long (u0 - v0)), .second, .val (.long t41), .second, .unset, .unset, .unset, .unset, .unset, .unset, .unset, .unset] [(.long u2)]) _
  refine own_step (fun t k => XS.aloadN X0.here hx rfl (hb hby own_d5_25) rfl rfl k) ?_
  refine own_step (fun t k => XS.iconst X0.here hx rfl (hb hby own_d5_26) k) ?_
  refine own_step (own_ldJ X0 hx hZ e0 V1 (j := (2 : Int32)) (v := (.long v2)) ⟨by decide, by decide⟩ rfl (g := (mkF m 27 #[.val (.ref a0), .val (.ref a1), .val (.ref a2), .val (.long (u0 - v0)), .second, .val (.long t41), .second, .unset, .unset, .unset, .unset, .unset, .unset, .unset, .unset] [(.int (2 : Int32)), (.ref a1), (.long u2)])) rfl rfl (hb hby own_d5_27)) ?_
  show own_Run p e below s₁ (mkF m 28 #[.val (.ref a0), .val (.ref a1), .val (.ref a2), .val (.long (u0 - v0)), .second, .val (.long t41), .second, .unset, .unset, .unset, .unset, .unset, .unset, .unset, .unset] [(.long v2), (.long u2)]) _
  refine own_step (fun t k => XS.lsub X0.here hx rfl (hb hby own_d5_28) rfl k) ?_
  show own_Run p e below s₁ (mkF m 29 #[.val (.ref a0), .val (.ref a1), .val (.ref a2), .val (.long (u0 - v0)), .second, .val (.long t41), .second, .unset, .unset, .unset, .unset, .unset, .unset, .unset, .unset] [(.long (u2 - v2))]) _
  refine own_step (fun t k => XS.lload X0.here hx rfl (hb hby own_d5_29) rfl  k) ?_
  refine own_step (fun t k => XS.bipush X0.here hx rfl (hb hby own_d5_31) k) ?_
  refine own_step (fun t k => XS.lshr X0.here hx rfl (hb hby own_d5_33) rfl k) ?_
  show own_Run p e below s₁ (mkF m 34 #[.val (.ref a0), .val (.ref a1), .val (.ref a2), .val (.long (u0 - v0)), .second, .val (.long t41), .second, .unset, .unset, .unset, .unset, .unset, .unset, .unset, .unset] [(.long (own_shrL t41 (52 : Int32))), (.long (u2 - v2))]) _
  refine own_step (fun t k => XS.ladd X0.here hx rfl (hb hby own_d5_34) rfl k) ?_
  show own_Run p e below s₁ (mkF m 35 #[.val (.ref a0), .val (.ref a1), .val (.ref a2), .val (.long (u0 - v0)), .second, .val (.long t41), .second, .unset, .unset, .unset, .unset, .unset, .unset, .unset, .unset] [(.long ((u2 - v2) + (own_shrL t41 (52 : Int32))))]) _
  obtain ⟨t42, ht42⟩ : ∃ z : Int64, z = ((u2 - v2) + (own_shrL t41 (52 : Int32))) := ⟨_, rfl⟩
  refine own_step (fun t k => XS.lstore X0.here hx rfl (hb hby own_d5_35) rfl (l' := #[.val (.ref a0), .val (.ref a1), .val (.ref a2), .val (.long (u0 - v0)), .second, .val (.long t41), .second, .val (.long t42), .second, .unset, .unset, .unset, .unset, .unset, .unset]) (by subst ht42; rfl) k) ?_
  show own_Run p e below s₁ (mkF m 37 #[.val (.ref a0), .val (.ref a1), .val (.ref a2), .val (.long (u0 - v0)), .second, .val (.long t41), .second, .val (.long t42), .second, .unset, .unset, .unset, .unset, .unset, .unset] []) _
  refine own_step (fun t k => XS.aloadN X0.here hx rfl (hb hby own_d5_37) rfl rfl k) ?_
  refine own_step (fun t k => XS.iconst X0.here hx rfl (hb hby own_d5_38) k) ?_
  refine own_step (own_ldJ X0 hx hZ e0 V0 (j := (3 : Int32)) (v := (.long u3)) ⟨by decide, by decide⟩ rfl (g := (mkF m 39 #[.val (.ref a0), .val (.ref a1), .val (.ref a2), .val (.long (u0 - v0)), .second, .val (.long t41), .second, .val (.long t42), .second, .unset, .unset, .unset, .unset, .unset, .unset] [(.int (3 : Int32)), (.ref a0)])) rfl rfl (hb hby own_d5_39)) ?_
  show own_Run p e below s₁ (mkF m 40 #[.val (.ref a0), .val (.ref a1), .val (.ref a2), .val (.long (u0 - v0)), .second, .val (.long t41), .second, .val (.long t42), .second, .unset, .unset, .unset, .unset, .unset, .unset] [(.long u3)]) _
  refine own_step (fun t k => XS.aloadN X0.here hx rfl (hb hby own_d5_40) rfl rfl k) ?_
  refine own_step (fun t k => XS.iconst X0.here hx rfl (hb hby own_d5_41) k) ?_
  refine own_step (own_ldJ X0 hx hZ e0 V1 (j := (3 : Int32)) (v := (.long v3)) ⟨by decide, by decide⟩ rfl (g := (mkF m 42 #[.val (.ref a0), .val (.ref a1), .val (.ref a2), .val (.long (u0 - v0)), .second, .val (.long t41), .second, .val (.long t42), .second, .unset, .unset, .unset, .unset, .unset, .unset] [(.int (3 : Int32)), (.ref a1), (.long u3)])) rfl rfl (hb hby own_d5_42)) ?_
  show own_Run p e below s₁ (mkF m 43 #[.val (.ref a0), .val (.ref a1), .val (.ref a2), .val (.long (u0 - v0)), .second, .val (.long t41), .second, .val (.long t42), .second, .unset, .unset, .unset, .unset, .unset, .unset] [(.long v3), (.long u3)]) _
  refine own_step (fun t k => XS.lsub X0.here hx rfl (hb hby own_d5_43) rfl k) ?_
  show own_Run p e below s₁ (mkF m 44 #[.val (.ref a0), .val (.ref a1), .val (.ref a2), .val (.long (u0 - v0)), .second, .val (.long t41), .second, .val (.long t42), .second, .unset, .unset, .unset, .unset, .unset, .unset] [(.long (u3 - v3))]) _
  refine own_step (fun t k => XS.lload X0.here hx rfl (hb hby own_d5_44) rfl  k) ?_
  refine own_step (fun t k => XS.bipush X0.here hx rfl (hb hby own_d5_46) k) ?_
  refine own_step (fun t k => XS.lshr X0.here hx rfl (hb hby own_d5_48) rfl k) ?_
  show own_Run p e below s₁ (mkF m 49 #[.val (.ref a0), .val (.ref a1), .val (.ref a2), .val (.long (u0 - v0)), .second, .val (.long t41), .second, .val (.long t42), .second, .unset, .unset, .unset, .unset, .unset, .unset] [(.long (own_shrL t42 (52 : Int32))), (.long (u3 - v3))]) _
  refine own_step (fun t k => XS.ladd X0.here hx rfl (hb hby own_d5_49) rfl k) ?_
  show own_Run p e below s₁ (mkF m 50 #[.val (.ref a0), .val (.ref a1), .val (.ref a2), .val (.long (u0 - v0)), .second, .val (.long t41), .second, .val (.long t42), .second, .unset, .unset, .unset, .unset, .unset, .unset] [(.long ((u3 - v3) + (own_shrL t42 (52 : Int32))))]) _
  obtain ⟨t43, ht43⟩ : ∃ z : Int64, z = ((u3 - v3) + (own_shrL t42 (52 : Int32))) := ⟨_, rfl⟩
  refine own_step (fun t k => XS.lstore X0.here hx rfl (hb hby own_d5_50) rfl (l' := #[.val (.ref a0), .val (.ref a1), .val (.ref a2), .val (.long (u0 - v0)), .second, .val (.long t41), .second, .val (.long t42), .second, .val (.long t43), .second, .unset, .unset, .unset, .unset]) (by subst ht43; rfl) k) ?_
  show own_Run p e below s₁ (mkF m 52 #[.val (.ref a0), .val (.ref a1), .val (.ref a2), .val (.long (u0 - v0)), .second, .val (.long t41), .second, .val (.long t42), .second, .val (.long t43), .second, .unset, .unset, .unset, .unset] []) _
  refine own_step (fun t k => XS.aloadN X0.here hx rfl (hb hby own_d5_52) rfl rfl k) ?_
  refine own_step (fun t k => XS.iconst X0.here hx rfl (hb hby own_d5_53) k) ?_
  refine own_step (own_ldJ X0 hx hZ e0 V0 (j := (4 : Int32)) (v := (.long u4)) ⟨by decide, by decide⟩ rfl (g := (mkF m 54 #[.val (.ref a0), .val (.ref a1), .val (.ref a2), .val (.long (u0 - v0)), .second, .val (.long t41), .second, .val (.long t42), .second, .val (.long t43), .second, .unset, .unset, .unset, .unset] [(.int (4 : Int32)), (.ref a0)])) rfl rfl (hb hby own_d5_54)) ?_
  show own_Run p e below s₁ (mkF m 55 #[.val (.ref a0), .val (.ref a1), .val (.ref a2), .val (.long (u0 - v0)), .second, .val (.long t41), .second, .val (.long t42), .second, .val (.long t43), .second, .unset, .unset, .unset, .unset] [(.long u4)]) _
  refine own_step (fun t k => XS.aloadN X0.here hx rfl (hb hby own_d5_55) rfl rfl k) ?_
  refine own_step (fun t k => XS.iconst X0.here hx rfl (hb hby own_d5_56) k) ?_
  refine own_step (own_ldJ X0 hx hZ e0 V1 (j := (4 : Int32)) (v := (.long v4)) ⟨by decide, by decide⟩ rfl (g := (mkF m 57 #[.val (.ref a0), .val (.ref a1), .val (.ref a2), .val (.long (u0 - v0)), .second, .val (.long t41), .second, .val (.long t42), .second, .val (.long t43), .second, .unset, .unset, .unset, .unset] [(.int (4 : Int32)), (.ref a1), (.long u4)])) rfl rfl (hb hby own_d5_57)) ?_
  show own_Run p e below s₁ (mkF m 58 #[.val (.ref a0), .val (.ref a1), .val (.ref a2), .val (.long (u0 - v0)), .second, .val (.long t41), .second, .val (.long t42), .second, .val (.long t43), .second, .unset, .unset, .unset, .unset] [(.long v4), (.long u4)]) _
  refine own_step (fun t k => XS.lsub X0.here hx rfl (hb hby own_d5_58) rfl k) ?_
  show own_Run p e below s₁ (mkF m 59 #[.val (.ref a0), .val (.ref a1), .val (.ref a2), .val (.long (u0 - v0)), .second, .val (.long t41), .second, .val (.long t42), .second, .val (.long t43), .second, .unset, .unset, .unset, .unset] [(.long (u4 - v4))]) _
  refine own_step (fun t k => XS.lload X0.here hx rfl (hb hby own_d5_59) rfl  k) ?_
  refine own_step (fun t k => XS.bipush X0.here hx rfl (hb hby own_d5_61) k) ?_
  refine own_step (fun t k => XS.lshr X0.here hx rfl (hb hby own_d5_63) rfl k) ?_
  show own_Run p e below s₁ (mkF m 64 #[.val (.ref a0), .val (.ref a1), .val (.ref a2), .val (.long (u0 - v0)), .second, .val (.long t41), .second, .val (.long t42), .second, .val (.long t43), .second, .unset, .unset, .unset, .unset] [(.long (own_shrL t43 (52 : Int32))), (.long (u4 - v4))]) _
  refine own_step (fun t k => XS.ladd X0.here hx rfl (hb hby own_d5_64) rfl k) ?_
  show own_Run p e below s₁ (mkF m 65 #[.val (.ref a0), .val (.ref a1), .val (.ref a2), .val (.long (u0 - v0)), .second, .val (.long t41), .second, .val (.long t42), .second, .val (.long t43), .second, .unset, .unset, .unset, .unset] [(.long ((u4 - v4) + (own_shrL t43 (52 : Int32))))]) _
  obtain ⟨t44, ht44⟩ : ∃ z : Int64, z = ((u4 - v4) + (own_shrL t43 (52 : Int32))) := ⟨_, rfl⟩
  refine own_step (fun t k => XS.lstore X0.here hx rfl (hb hby own_d5_65) rfl (l' := #[.val (.ref a0), .val (.ref a1), .val (.ref a2), .val (.long (u0 - v0)), .second, .val (.long t41), .second, .val (.long t42), .second, .val (.long t43), .second, .val (.long t44), .second, .unset, .unset]) (by subst ht44; rfl) k) ?_
  show own_Run p e below s₁ (mkF m 67 #[.val (.ref a0), .val (.ref a1), .val (.ref a2), .val (.long (u0 - v0)), .second, .val (.long t41), .second, .val (.long t42), .second, .val (.long t43), .second, .val (.long t44), .second, .unset, .unset] []) _
  refine own_step (fun t k => XS.lload X0.here hx rfl (hb hby own_d5_67) rfl  k) ?_
  refine own_step (fun t k => XS.bipush X0.here hx rfl (hb hby own_d5_69) k) ?_
  refine own_step (fun t k => XS.lshr X0.here hx rfl (hb hby own_d5_71) rfl k) ?_
  show own_Run p e below s₁ (mkF m 72 #[.val (.ref a0), .val (.ref a1), .val (.ref a2), .val (.long (u0 - v0)), .second, .val (.long t41), .second, .val (.long t42), .second, .val (.long t43), .second, .val (.long t44), .second, .unset, .unset] [(.long (own_shrL t44 (63 : Int32)))]) _
  obtain ⟨t45, ht45⟩ : ∃ z : Int64, z = (own_shrL t44 (63 : Int32)) := ⟨_, rfl⟩
  refine own_step (fun t k => XS.lstore X0.here hx rfl (hb hby own_d5_72) rfl (l' := #[.val (.ref a0), .val (.ref a1), .val (.ref a2), .val (.long (u0 - v0)), .second, .val (.long t41), .second, .val (.long t42), .second, .val (.long t43), .second, .val (.long t44), .second, .val (.long t45), .second]) (by subst ht45; rfl) k) ?_
  show own_Run p e below s₁ (mkF m 74 #[.val (.ref a0), .val (.ref a1), .val (.ref a2), .val (.long (u0 - v0)), .second, .val (.long t41), .second, .val (.long t42), .second, .val (.long t43), .second, .val (.long t44), .second, .val (.long t45), .second] []) _
  refine own_step (fun t k => XS.lloadN X0.here hx rfl (hb hby own_d5_74) rfl  k) ?_
  refine own_step (fun t k => X0.ldc2Long hx hown (mvT hZ (hw _ (List.mem_of_getElem? (i := 25) rfl))) (g := (mkF m 75 #[.val (.ref a0), .val (.ref a1), .val (.ref a2), .val (.long (u0 - v0)), .second, .val (.long t41), .second, .val (.long t42), .second, .val (.long t43), .second, .val (.long t44), .second, .val (.long t45), .second] [(.long (u0 - v0))])) rfl (hb hby own_d5_75) t k) ?_
  show own_Run p e below s₁ (mkF m 78 #[.val (.ref a0), .val (.ref a1), .val (.ref a2), .val (.long (u0 - v0)), .second, .val (.long t41), .second, .val (.long t42), .second, .val (.long t43), .second, .val (.long t44), .second, .val (.long t45), .second] [(.long (4503599627370495 : Int64)), (.long (u0 - v0))]) _
  refine own_step (fun t k => XS.land X0.here hx rfl (hb hby own_d5_78) rfl k) ?_
  show own_Run p e below s₁ (mkF m 79 #[.val (.ref a0), .val (.ref a1), .val (.ref a2), .val (.long (u0 - v0)), .second, .val (.long t41), .second, .val (.long t42), .second, .val (.long t43), .second, .val (.long t44), .second, .val (.long t45), .second] [(.long ((u0 - v0) &&& (4503599627370495 : Int64)))]) _
  obtain ⟨T46, X46, e46, st46⟩ := getS2 X0 hx hZ hown (host := "") (Or.inl (hw _ (List.mem_of_getElem? (i := 26) rfl))) Via.refl e0 Sp (g := (mkF m 79 #[.val (.ref a0), .val (.ref a1), .val (.ref a2), .val (.long (u0 - v0)), .second, .val (.long t41), .second, .val (.long t42), .second, .val (.long t43), .second, .val (.long t44), .second, .val (.long t45), .second] [(.long ((u0 - v0) &&& (4503599627370495 : Int64)))])) rfl (hb hby own_d5_79)
  refine own_step st46 ?_
  show own_Run p e below T46 (mkF m 82 #[.val (.ref a0), .val (.ref a1), .val (.ref a2), .val (.long (u0 - v0)), .second, .val (.long t41), .second, .val (.long t42), .second, .val (.long t43), .second, .val (.long t44), .second, .val (.long t45), .second] [(.ref pl), (.long ((u0 - v0) &&& (4503599627370495 : Int64)))]) _
  refine own_step (fun t k => XS.iconst X46.here hx rfl (hb hby own_d5_82) k) ?_
  refine own_step (own_ldJ X46 hx hZ e46 Vp (j := (0 : Int32)) (v := (.long (4503599627370495 : Int64))) ⟨by decide, by decide⟩ rfl (g := (mkF m 83 #[.val (.ref a0), .val (.ref a1), .val (.ref a2), .val (.long (u0 - v0)), .second, .val (.long t41), .second, .val (.long t42), .second, .val (.long t43), .second, .val (.long t44), .second, .val (.long t45), .second] [(.int (0 : Int32)), (.ref pl), (.long ((u0 - v0) &&& (4503599627370495 : Int64)))])) rfl rfl (hb hby own_d5_83)) ?_
  show own_Run p e below T46 (mkF m 84 #[.val (.ref a0), .val (.ref a1), .val (.ref a2), .val (.long (u0 - v0)), .second, .val (.long t41), .second, .val (.long t42), .second, .val (.long t43), .second, .val (.long t44), .second, .val (.long t45), .second] [(.long (4503599627370495 : Int64)), (.long ((u0 - v0) &&& (4503599627370495 : Int64)))]) _
  refine own_step (fun t k => XS.lload X46.here hx rfl (hb hby own_d5_84) rfl  k) ?_
  refine own_step (fun t k => XS.land X46.here hx rfl (hb hby own_d5_86) rfl k) ?_
  show own_Run p e below T46 (mkF m 87 #[.val (.ref a0), .val (.ref a1), .val (.ref a2), .val (.long (u0 - v0)), .second, .val (.long t41), .second, .val (.long t42), .second, .val (.long t43), .second, .val (.long t44), .second, .val (.long t45), .second] [(.long ((4503599627370495 : Int64) &&& t45)), (.long ((u0 - v0) &&& (4503599627370495 : Int64)))]) _
  refine own_step (fun t k => XS.ladd X46.here hx rfl (hb hby own_d5_87) rfl k) ?_
  show own_Run p e below T46 (mkF m 88 #[.val (.ref a0), .val (.ref a1), .val (.ref a2), .val (.long (u0 - v0)), .second, .val (.long t41), .second, .val (.long t42), .second, .val (.long t43), .second, .val (.long t44), .second, .val (.long t45), .second] [(.long (((u0 - v0) &&& (4503599627370495 : Int64)) + ((4503599627370495 : Int64) &&& t45)))]) _
  obtain ⟨t47, ht47⟩ : ∃ z : Int64, z = (((u0 - v0) &&& (4503599627370495 : Int64)) + ((4503599627370495 : Int64) &&& t45)) := ⟨_, rfl⟩
  refine own_step (fun t k => XS.lstoreN X46.here hx rfl (hb hby own_d5_88) rfl (l' := #[.val (.ref a0), .val (.ref a1), .val (.ref a2), .val (.long t47), .second, .val (.long t41), .second, .val (.long t42), .second, .val (.long t43), .second, .val (.long t44), .second, .val (.long t45), .second]) (by subst ht47; rfl) k) ?_
  show own_Run p e below T46 (mkF m 89 #[.val (.ref a0), .val (.ref a1), .val (.ref a2), .val (.long t47), .second, .val (.long t41), .second, .val (.long t42), .second, .val (.long t43), .second, .val (.long t44), .second, .val (.long t45), .second] []) _
  refine own_step (fun t k => XS.lload X46.here hx rfl (hb hby own_d5_89) rfl  k) ?_
  refine own_step (fun t k => X46.ldc2Long hx hown (mvT hZ (hw _ (List.mem_of_getElem? (i := 25) rfl))) (g := (mkF m 91 #[.val (.ref a0), .val (.ref a1), .val (.ref a2), .val (.long t47), .second, .val (.long t41), .second, .val (.long t42), .second, .val (.long t43), .second, .val (.long t44), .second, .val (.long t45), .second] [(.long t41)])) rfl (hb hby own_d5_91) t k) ?_
  show own_Run p e below T46 (mkF m 94 #[.val (.ref a0), .val (.ref a1), .val (.ref a2), .val (.long t47), .second, .val (.long t41), .second, .val (.long t42), .second, .val (.long t43), .second, .val (.long t44), .second, .val (.long t45), .second] [(.long (4503599627370495 : Int64)), (.long t41)]) _
  refine own_step (fun t k => XS.land X46.here hx rfl (hb hby own_d5_94) rfl k) ?_
  show own_Run p e below T46 (mkF m 95 #[.val (.ref a0), .val (.ref a1), .val (.ref a2), .val (.long t47), .second, .val (.long t41), .second, .val (.long t42), .second, .val (.long t43), .second, .val (.long t44), .second, .val (.long t45), .second] [(.long (t41 &&& (4503599627370495 : Int64)))]) _
  obtain ⟨T48, X48, e48, st48⟩ := getS2 X46 hx hZ hown (host := "") (Or.inl (hw _ (List.mem_of_getElem? (i := 26) rfl))) Via.refl e46 Sp (g := (mkF m 95 #[.val (.ref a0), .val (.ref a1), .val (.ref a2), .val (.long t47), .second, .val (.long t41), .second, .val (.long t42), .second, .val (.long t43), .second, .val (.long t44), .second, .val (.long t45), .second] [(.long (t41 &&& (4503599627370495 : Int64)))])) rfl (hb hby own_d5_95)
  refine own_step st48 ?_
  show own_Run p e below T48 (mkF m 98 #[.val (.ref a0), .val (.ref a1), .val (.ref a2), .val (.long t47), .second, .val (.long t41), .second, .val (.long t42), .second, .val (.long t43), .second, .val (.long t44), .second, .val (.long t45), .second] [(.ref pl), (.long (t41 &&& (4503599627370495 : Int64)))]) _
  refine own_step (fun t k => XS.iconst X48.here hx rfl (hb hby own_d5_98) k) ?_
  refine own_step (own_ldJ X48 hx hZ e48 Vp (j := (1 : Int32)) (v := (.long (4486007441330175 : Int64))) ⟨by decide, by decide⟩ rfl (g := (mkF m 99 #[.val (.ref a0), .val (.ref a1), .val (.ref a2), .val (.long t47), .second, .val (.long t41), .second, .val (.long t42), .second, .val (.long t43), .second, .val (.long t44), .second, .val (.long t45), .second] [(.int (1 : Int32)), (.ref pl), (.long (t41 &&& (4503599627370495 : Int64)))])) rfl rfl (hb hby own_d5_99)) ?_
  show own_Run p e below T48 (mkF m 100 #[.val (.ref a0), .val (.ref a1), .val (.ref a2), .val (.long t47), .second, .val (.long t41), .second, .val (.long t42), .second, .val (.long t43), .second, .val (.long t44), .second, .val (.long t45), .second] [(.long (4486007441330175 : Int64)), (.long (t41 &&& (4503599627370495 : Int64)))]) _
  refine own_step (fun t k => XS.lload X48.here hx rfl (hb hby own_d5_100) rfl  k) ?_
  refine own_step (fun t k => XS.land X48.here hx rfl (hb hby own_d5_102) rfl k) ?_
  show own_Run p e below T48 (mkF m 103 #[.val (.ref a0), .val (.ref a1), .val (.ref a2), .val (.long t47), .second, .val (.long t41), .second, .val (.long t42), .second, .val (.long t43), .second, .val (.long t44), .second, .val (.long t45), .second] [(.long ((4486007441330175 : Int64) &&& t45)), (.long (t41 &&& (4503599627370495 : Int64)))]) _
  refine own_step (fun t k => XS.ladd X48.here hx rfl (hb hby own_d5_103) rfl k) ?_
  show own_Run p e below T48 (mkF m 104 #[.val (.ref a0), .val (.ref a1), .val (.ref a2), .val (.long t47), .second, .val (.long t41), .second, .val (.long t42), .second, .val (.long t43), .second, .val (.long t44), .second, .val (.long t45), .second] [(.long ((t41 &&& (4503599627370495 : Int64)) + ((4486007441330175 : Int64) &&& t45)))]) _
  refine own_step (fun t k => XS.lloadN X48.here hx rfl (hb hby own_d5_104) rfl  k) ?_
  refine own_step (fun t k => XS.bipush X48.here hx rfl (hb hby own_d5_105) k) ?_
  refine own_step (fun t k => XS.lshr X48.here hx rfl (hb hby own_d5_107) rfl k) ?_
  show own_Run p e below T48 (mkF m 108 #[.val (.ref a0), .val (.ref a1), .val (.ref a2), .val (.long t47), .second, .val (.long t41), .second, .val (.long t42), .second, .val (.long t43), .second, .val (.long t44), .second, .val (.long t45), .second] [(.long (own_shrL t47 (52 : Int32))), (.long ((t41 &&& (4503599627370495 : Int64)) + ((4486007441330175 : Int64) &&& t45)))]) _
  refine own_step (fun t k => XS.ladd X48.here hx rfl (hb hby own_d5_108) rfl k) ?_
  show own_Run p e below T48 (mkF m 109 #[.val (.ref a0), .val (.ref a1), .val (.ref a2), .val (.long t47), .second, .val (.long t41), .second, .val (.long t42), .second, .val (.long t43), .second, .val (.long t44), .second, .val (.long t45), .second] [(.long (((t41 &&& (4503599627370495 : Int64)) + ((4486007441330175 : Int64) &&& t45)) + (own_shrL t47 (52 : Int32))))]) _
  obtain ⟨t49, ht49⟩ : ∃ z : Int64, z = (((t41 &&& (4503599627370495 : Int64)) + ((4486007441330175 : Int64) &&& t45)) + (own_shrL t47 (52 : Int32))) := ⟨_, rfl⟩
  refine own_step (fun t k => XS.lstore X48.here hx rfl (hb hby own_d5_109) rfl (l' := #[.val (.ref a0), .val (.ref a1), .val (.ref a2), .val (.long t47), .second, .val (.long t49), .second, .val (.long t42), .second, .val (.long t43), .second, .val (.long t44), .second, .val (.long t45), .second]) (by subst ht49; rfl) k) ?_
  show own_Run p e below T48 (mkF m 111 #[.val (.ref a0), .val (.ref a1), .val (.ref a2), .val (.long t47), .second, .val (.long t49), .second, .val (.long t42), .second, .val (.long t43), .second, .val (.long t44), .second, .val (.long t45), .second] []) _
  refine own_step (fun t k => XS.lload X48.here hx rfl (hb hby own_d5_111) rfl  k) ?_
  refine own_step (fun t k => X48.ldc2Long hx hown (mvT hZ (hw _ (List.mem_of_getElem? (i := 25) rfl))) (g := (mkF m 113 #[.val (.ref a0), .val (.ref a1), .val (.ref a2), .val (.long t47), .second, .val (.long t49), .second, .val (.long t42), .second, .val (.long t43), .second, .val (.long t44), .second, .val (.long t45), .second] [(.long t42)])) rfl (hb hby own_d5_113) t k) ?_
  show own_Run p e below T48 (mkF m 116 #[.val (.ref a0), .val (.ref a1), .val (.ref a2), .val (.long t47), .second, .val (.long t49), .second, .val (.long t42), .second, .val (.long t43), .second, .val (.long t44), .second, .val (.long t45), .second] [(.long (4503599627370495 : Int64)), (.long t42)]) _
  refine own_step (fun t k => XS.land X48.here hx rfl (hb hby own_d5_116) rfl k) ?_
  show own_Run p e below T48 (mkF m 117 #[.val (.ref a0), .val (.ref a1), .val (.ref a2), .val (.long t47), .second, .val (.long t49), .second, .val (.long t42), .second, .val (.long t43), .second, .val (.long t44), .second, .val (.long t45), .second] [(.long (t42 &&& (4503599627370495 : Int64)))]) _
  obtain ⟨T50, X50, e50, st50⟩ := getS2 X48 hx hZ hown (host := "") (Or.inl (hw _ (List.mem_of_getElem? (i := 26) rfl))) Via.refl e48 Sp (g := (mkF m 117 #[.val (.ref a0), .val (.ref a1), .val (.ref a2), .val (.long t47), .second, .val (.long t49), .second, .val (.long t42), .second, .val (.long t43), .second, .val (.long t44), .second, .val (.long t45), .second] [(.long (t42 &&& (4503599627370495 : Int64)))])) rfl (hb hby own_d5_117)
  refine own_step st50 ?_
  show own_Run p e below T50 (mkF m 120 #[.val (.ref a0), .val (.ref a1), .val (.ref a2), .val (.long t47), .second, .val (.long t49), .second, .val (.long t42), .second, .val (.long t43), .second, .val (.long t44), .second, .val (.long t45), .second] [(.ref pl), (.long (t42 &&& (4503599627370495 : Int64)))]) _
  refine own_step (fun t k => XS.iconst X50.here hx rfl (hb hby own_d5_120) k) ?_
  refine own_step (own_ldJ X50 hx hZ e50 Vp (j := (2 : Int32)) (v := (.long (4503599627370495 : Int64))) ⟨by decide, by decide⟩ rfl (g := (mkF m 121 #[.val (.ref a0), .val (.ref a1), .val (.ref a2), .val (.long t47), .second, .val (.long t49), .second, .val (.long t42), .second, .val (.long t43), .second, .val (.long t44), .second, .val (.long t45), .second] [(.int (2 : Int32)), (.ref pl), (.long (t42 &&& (4503599627370495 : Int64)))])) rfl rfl (hb hby own_d5_121)) ?_
  show own_Run p e below T50 (mkF m 122 #[.val (.ref a0), .val (.ref a1), .val (.ref a2), .val (.long t47), .second, .val (.long t49), .second, .val (.long t42), .second, .val (.long t43), .second, .val (.long t44), .second, .val (.long t45), .second] [(.long (4503599627370495 : Int64)), (.long (t42 &&& (4503599627370495 : Int64)))]) _
  refine own_step (fun t k => XS.lload X50.here hx rfl (hb hby own_d5_122) rfl  k) ?_
  refine own_step (fun t k => XS.land X50.here hx rfl (hb hby own_d5_124) rfl k) ?_
  show own_Run p e below T50 (mkF m 125 #[.val (.ref a0), .val (.ref a1), .val (.ref a2), .val (.long t47), .second, .val (.long t49), .second, .val (.long t42), .second, .val (.long t43), .second, .val (.long t44), .second, .val (.long t45), .second] [(.long ((4503599627370495 : Int64) &&& t45)), (.long (t42 &&& (4503599627370495 : Int64)))]) _
  refine own_step (fun t k => XS.ladd X50.here hx rfl (hb hby own_d5_125) rfl k) ?_
  show own_Run p e below T50 (mkF m 126 #[.val (.ref a0), .val (.ref a1), .val (.ref a2), .val (.long t47), .second, .val (.long t49), .second, .val (.long t42), .second, .val (.long t43), .second, .val (.long t44), .second, .val (.long t45), .second] [(.long ((t42 &&& (4503599627370495 : Int64)) + ((4503599627370495 : Int64) &&& t45)))]) _
  refine own_step (fun t k => XS.lload X50.here hx rfl (hb hby own_d5_126) rfl  k) ?_
  refine own_step (fun t k => XS.bipush X50.here hx rfl (hb hby own_d5_128) k) ?_
  refine own_step (fun t k => XS.lshr X50.here hx rfl (hb hby own_d5_130) rfl k) ?_
  show own_Run p e below T50 (mkF m 131 #[.val (.ref a0), .val (.ref a1), .val (.ref a2), .val (.long t47), .second, .val (.long t49), .second, .val (.long t42), .second, .val (.long t43), .second, .val (.long t44), .second, .val (.long t45), .second] [(.long (own_shrL t49 (52 : Int32))), (.long ((t42 &&& (4503599627370495 : Int64)) + ((4503599627370495 : Int64) &&& t45)))]) _
  refine own_step (fun t k => XS.ladd X50.here hx rfl (hb hby own_d5_131) rfl k) ?_
  show own_Run p e below T50 (mkF m 132 #[.val (.ref a0), .val (.ref a1), .val (.ref a2), .val (.long t47), .second, .val (.long t49), .second, .val (.long t42), .second, .val (.long t43), .second, .val (.long t44), .second, .val (.long t45), .second] [(.long (((t42 &&& (4503599627370495 : Int64)) + ((4503599627370495 : Int64) &&& t45)) + (own_shrL t49 (52 : Int32))))]) _
  obtain ⟨t51, ht51⟩ : ∃ z : Int64, z = (((t42 &&& (4503599627370495 : Int64)) + ((4503599627370495 : Int64) &&& t45)) + (own_shrL t49 (52 : Int32))) := ⟨_, rfl⟩
  refine own_step (fun t k => XS.lstore X50.here hx rfl (hb hby own_d5_132) rfl (l' := #[.val (.ref a0), .val (.ref a1), .val (.ref a2), .val (.long t47), .second, .val (.long t49), .second, .val (.long t51), .second, .val (.long t43), .second, .val (.long t44), .second, .val (.long t45), .second]) (by subst ht51; rfl) k) ?_
  show own_Run p e below T50 (mkF m 134 #[.val (.ref a0), .val (.ref a1), .val (.ref a2), .val (.long t47), .second, .val (.long t49), .second, .val (.long t51), .second, .val (.long t43), .second, .val (.long t44), .second, .val (.long t45), .second] []) _
  refine own_step (fun t k => XS.lload X50.here hx rfl (hb hby own_d5_134) rfl  k) ?_
  refine own_step (fun t k => X50.ldc2Long hx hown (mvT hZ (hw _ (List.mem_of_getElem? (i := 25) rfl))) (g := (mkF m 136 #[.val (.ref a0), .val (.ref a1), .val (.ref a2), .val (.long t47), .second, .val (.long t49), .second, .val (.long t51), .second, .val (.long t43), .second, .val (.long t44), .second, .val (.long t45), .second] [(.long t43)])) rfl (hb hby own_d5_136) t k) ?_
  show own_Run p e below T50 (mkF m 139 #[.val (.ref a0), .val (.ref a1), .val (.ref a2), .val (.long t47), .second, .val (.long t49), .second, .val (.long t51), .second, .val (.long t43), .second, .val (.long t44), .second, .val (.long t45), .second] [(.long (4503599627370495 : Int64)), (.long t43)]) _
  refine own_step (fun t k => XS.land X50.here hx rfl (hb hby own_d5_139) rfl k) ?_
  show own_Run p e below T50 (mkF m 140 #[.val (.ref a0), .val (.ref a1), .val (.ref a2), .val (.long t47), .second, .val (.long t49), .second, .val (.long t51), .second, .val (.long t43), .second, .val (.long t44), .second, .val (.long t45), .second] [(.long (t43 &&& (4503599627370495 : Int64)))]) _
  obtain ⟨T52, X52, e52, st52⟩ := getS2 X50 hx hZ hown (host := "") (Or.inl (hw _ (List.mem_of_getElem? (i := 26) rfl))) Via.refl e50 Sp (g := (mkF m 140 #[.val (.ref a0), .val (.ref a1), .val (.ref a2), .val (.long t47), .second, .val (.long t49), .second, .val (.long t51), .second, .val (.long t43), .second, .val (.long t44), .second, .val (.long t45), .second] [(.long (t43 &&& (4503599627370495 : Int64)))])) rfl (hb hby own_d5_140)
  refine own_step st52 ?_
  show own_Run p e below T52 (mkF m 143 #[.val (.ref a0), .val (.ref a1), .val (.ref a2), .val (.long t47), .second, .val (.long t49), .second, .val (.long t51), .second, .val (.long t43), .second, .val (.long t44), .second, .val (.long t45), .second] [(.ref pl), (.long (t43 &&& (4503599627370495 : Int64)))]) _
  refine own_step (fun t k => XS.iconst X52.here hx rfl (hb hby own_d5_143) k) ?_
  refine own_step (own_ldJ X52 hx hZ e52 Vp (j := (3 : Int32)) (v := (.long (4503599627370495 : Int64))) ⟨by decide, by decide⟩ rfl (g := (mkF m 144 #[.val (.ref a0), .val (.ref a1), .val (.ref a2), .val (.long t47), .second, .val (.long t49), .second, .val (.long t51), .second, .val (.long t43), .second, .val (.long t44), .second, .val (.long t45), .second] [(.int (3 : Int32)), (.ref pl), (.long (t43 &&& (4503599627370495 : Int64)))])) rfl rfl (hb hby own_d5_144)) ?_
  show own_Run p e below T52 (mkF m 145 #[.val (.ref a0), .val (.ref a1), .val (.ref a2), .val (.long t47), .second, .val (.long t49), .second, .val (.long t51), .second, .val (.long t43), .second, .val (.long t44), .second, .val (.long t45), .second] [(.long (4503599627370495 : Int64)), (.long (t43 &&& (4503599627370495 : Int64)))]) _
  refine own_step (fun t k => XS.lload X52.here hx rfl (hb hby own_d5_145) rfl  k) ?_
  refine own_step (fun t k => XS.land X52.here hx rfl (hb hby own_d5_147) rfl k) ?_
  show own_Run p e below T52 (mkF m 148 #[.val (.ref a0), .val (.ref a1), .val (.ref a2), .val (.long t47), .second, .val (.long t49), .second, .val (.long t51), .second, .val (.long t43), .second, .val (.long t44), .second, .val (.long t45), .second] [(.long ((4503599627370495 : Int64) &&& t45)), (.long (t43 &&& (4503599627370495 : Int64)))]) _
  refine own_step (fun t k => XS.ladd X52.here hx rfl (hb hby own_d5_148) rfl k) ?_
  show own_Run p e below T52 (mkF m 149 #[.val (.ref a0), .val (.ref a1), .val (.ref a2), .val (.long t47), .second, .val (.long t49), .second, .val (.long t51), .second, .val (.long t43), .second, .val (.long t44), .second, .val (.long t45), .second] [(.long ((t43 &&& (4503599627370495 : Int64)) + ((4503599627370495 : Int64) &&& t45)))]) _
  refine own_step (fun t k => XS.lload X52.here hx rfl (hb hby own_d5_149) rfl  k) ?_
  refine own_step (fun t k => XS.bipush X52.here hx rfl (hb hby own_d5_151) k) ?_
  refine own_step (fun t k => XS.lshr X52.here hx rfl (hb hby own_d5_153) rfl k) ?_
  show own_Run p e below T52 (mkF m 154 #[.val (.ref a0), .val (.ref a1), .val (.ref a2), .val (.long t47), .second, .val (.long t49), .second, .val (.long t51), .second, .val (.long t43), .second, .val (.long t44), .second, .val (.long t45), .second] [(.long (own_shrL t51 (52 : Int32))), (.long ((t43 &&& (4503599627370495 : Int64)) + ((4503599627370495 : Int64) &&& t45)))]) _
  refine own_step (fun t k => XS.ladd X52.here hx rfl (hb hby own_d5_154) rfl k) ?_
  show own_Run p e below T52 (mkF m 155 #[.val (.ref a0), .val (.ref a1), .val (.ref a2), .val (.long t47), .second, .val (.long t49), .second, .val (.long t51), .second, .val (.long t43), .second, .val (.long t44), .second, .val (.long t45), .second] [(.long (((t43 &&& (4503599627370495 : Int64)) + ((4503599627370495 : Int64) &&& t45)) + (own_shrL t51 (52 : Int32))))]) _
  obtain ⟨t53, ht53⟩ : ∃ z : Int64, z = (((t43 &&& (4503599627370495 : Int64)) + ((4503599627370495 : Int64) &&& t45)) + (own_shrL t51 (52 : Int32))) := ⟨_, rfl⟩
  refine own_step (fun t k => XS.lstore X52.here hx rfl (hb hby own_d5_155) rfl (l' := #[.val (.ref a0), .val (.ref a1), .val (.ref a2), .val (.long t47), .second, .val (.long t49), .second, .val (.long t51), .second, .val (.long t53), .second, .val (.long t44), .second, .val (.long t45), .second]) (by subst ht53; rfl) k) ?_
  show own_Run p e below T52 (mkF m 157 #[.val (.ref a0), .val (.ref a1), .val (.ref a2), .val (.long t47), .second, .val (.long t49), .second, .val (.long t51), .second, .val (.long t53), .second, .val (.long t44), .second, .val (.long t45), .second] []) _
  refine own_step (fun t k => XS.lload X52.here hx rfl (hb hby own_d5_157) rfl  k) ?_
  obtain ⟨T54, X54, e54, st54⟩ := getS2 X52 hx hZ hown (host := "") (Or.inl (hw _ (List.mem_of_getElem? (i := 26) rfl))) Via.refl e52 Sp (g := (mkF m 159 #[.val (.ref a0), .val (.ref a1), .val (.ref a2), .val (.long t47), .second, .val (.long t49), .second, .val (.long t51), .second, .val (.long t53), .second, .val (.long t44), .second, .val (.long t45), .second] [(.long t44)])) rfl (hb hby own_d5_159)
  refine own_step st54 ?_
  show own_Run p e below T54 (mkF m 162 #[.val (.ref a0), .val (.ref a1), .val (.ref a2), .val (.long t47), .second, .val (.long t49), .second, .val (.long t51), .second, .val (.long t53), .second, .val (.long t44), .second, .val (.long t45), .second] [(.ref pl), (.long t44)]) _
  refine own_step (fun t k => XS.iconst X54.here hx rfl (hb hby own_d5_162) k) ?_
  refine own_step (own_ldJ X54 hx hZ e54 Vp (j := (4 : Int32)) (v := (.long (281474976645119 : Int64))) ⟨by decide, by decide⟩ rfl (g := (mkF m 163 #[.val (.ref a0), .val (.ref a1), .val (.ref a2), .val (.long t47), .second, .val (.long t49), .second, .val (.long t51), .second, .val (.long t53), .second, .val (.long t44), .second, .val (.long t45), .second] [(.int (4 : Int32)), (.ref pl), (.long t44)])) rfl rfl (hb hby own_d5_163)) ?_
  show own_Run p e below T54 (mkF m 164 #[.val (.ref a0), .val (.ref a1), .val (.ref a2), .val (.long t47), .second, .val (.long t49), .second, .val (.long t51), .second, .val (.long t53), .second, .val (.long t44), .second, .val (.long t45), .second] [(.long (281474976645119 : Int64)), (.long t44)]) _
  refine own_step (fun t k => XS.lload X54.here hx rfl (hb hby own_d5_164) rfl  k) ?_
  refine own_step (fun t k => XS.land X54.here hx rfl (hb hby own_d5_166) rfl k) ?_
  show own_Run p e below T54 (mkF m 167 #[.val (.ref a0), .val (.ref a1), .val (.ref a2), .val (.long t47), .second, .val (.long t49), .second, .val (.long t51), .second, .val (.long t53), .second, .val (.long t44), .second, .val (.long t45), .second] [(.long ((281474976645119 : Int64) &&& t45)), (.long t44)]) _
  refine own_step (fun t k => XS.ladd X54.here hx rfl (hb hby own_d5_167) rfl k) ?_
  show own_Run p e below T54 (mkF m 168 #[.val (.ref a0), .val (.ref a1), .val (.ref a2), .val (.long t47), .second, .val (.long t49), .second, .val (.long t51), .second, .val (.long t53), .second, .val (.long t44), .second, .val (.long t45), .second] [(.long (t44 + ((281474976645119 : Int64) &&& t45)))]) _
  refine own_step (fun t k => XS.lload X54.here hx rfl (hb hby own_d5_168) rfl  k) ?_
  refine own_step (fun t k => XS.bipush X54.here hx rfl (hb hby own_d5_170) k) ?_
  refine own_step (fun t k => XS.lshr X54.here hx rfl (hb hby own_d5_172) rfl k) ?_
  show own_Run p e below T54 (mkF m 173 #[.val (.ref a0), .val (.ref a1), .val (.ref a2), .val (.long t47), .second, .val (.long t49), .second, .val (.long t51), .second, .val (.long t53), .second, .val (.long t44), .second, .val (.long t45), .second] [(.long (own_shrL t53 (52 : Int32))), (.long (t44 + ((281474976645119 : Int64) &&& t45)))]) _
  refine own_step (fun t k => XS.ladd X54.here hx rfl (hb hby own_d5_173) rfl k) ?_
  show own_Run p e below T54 (mkF m 174 #[.val (.ref a0), .val (.ref a1), .val (.ref a2), .val (.long t47), .second, .val (.long t49), .second, .val (.long t51), .second, .val (.long t53), .second, .val (.long t44), .second, .val (.long t45), .second] [(.long ((t44 + ((281474976645119 : Int64) &&& t45)) + (own_shrL t53 (52 : Int32))))]) _
  obtain ⟨t55, ht55⟩ : ∃ z : Int64, z = ((t44 + ((281474976645119 : Int64) &&& t45)) + (own_shrL t53 (52 : Int32))) := ⟨_, rfl⟩
  refine own_step (fun t k => XS.lstore X54.here hx rfl (hb hby own_d5_174) rfl (l' := #[.val (.ref a0), .val (.ref a1), .val (.ref a2), .val (.long t47), .second, .val (.long t49), .second, .val (.long t51), .second, .val (.long t53), .second, .val (.long t55), .second, .val (.long t45), .second]) (by subst ht55; rfl) k) ?_
  show own_Run p e below T54 (mkF m 176 #[.val (.ref a0), .val (.ref a1), .val (.ref a2), .val (.long t47), .second, .val (.long t49), .second, .val (.long t51), .second, .val (.long t53), .second, .val (.long t55), .second, .val (.long t45), .second] []) _
  refine own_step (fun t k => XS.aloadN X54.here hx rfl (hb hby own_d5_176) rfl rfl k) ?_
  refine own_step (fun t k => XS.iconst X54.here hx rfl (hb hby own_d5_177) k) ?_
  refine own_step (fun t k => XS.lloadN X54.here hx rfl (hb hby own_d5_178) rfl  k) ?_
  show own_Run p e below T54 (mkF m 179 #[.val (.ref a0), .val (.ref a1), .val (.ref a2), .val (.long t47), .second, .val (.long t49), .second, .val (.long t51), .second, .val (.long t53), .second, .val (.long t55), .second, .val (.long t45), .second] [(.long t47), (.int (0 : Int32)), (.ref a2)]) _
  refine own_step (fun t k => X54.ldc2Long hx hown (mvT hZ (hw _ (List.mem_of_getElem? (i := 25) rfl))) (g := (mkF m 179 #[.val (.ref a0), .val (.ref a1), .val (.ref a2), .val (.long t47), .second, .val (.long t49), .second, .val (.long t51), .second, .val (.long t53), .second, .val (.long t55), .second, .val (.long t45), .second] [(.long t47), (.int (0 : Int32)), (.ref a2)])) rfl (hb hby own_d5_179) t k) ?_
  show own_Run p e below T54 (mkF m 182 #[.val (.ref a0), .val (.ref a1), .val (.ref a2), .val (.long t47), .second, .val (.long t49), .second, .val (.long t51), .second, .val (.long t53), .second, .val (.long t55), .second, .val (.long t45), .second] [(.long (4503599627370495 : Int64)), (.long t47), (.int (0 : Int32)), (.ref a2)]) _
  refine own_step (fun t k => XS.land X54.here hx rfl (hb hby own_d5_182) rfl k) ?_
  show own_Run p e below T54 (mkF m 183 #[.val (.ref a0), .val (.ref a1), .val (.ref a2), .val (.long t47), .second, .val (.long t49), .second, .val (.long t51), .second, .val (.long t53), .second, .val (.long t55), .second, .val (.long t45), .second] [(.long (t47 &&& (4503599627370495 : Int64))), (.int (0 : Int32)), (.ref a2)]) _
  obtain ⟨T56, h56, L56, X56, e56, N56, W56, V56, st56⟩ := own_stJ X54 hx hZ e54 V2 N0 gw (j := (0 : Int32)) ⟨by decide, by decide⟩ 0 rfl (Nat.le_of_ble_eq_true rfl) (g := (mkF m 183 #[.val (.ref a0), .val (.ref a1), .val (.ref a2), .val (.long t47), .second, .val (.long t49), .second, .val (.long t51), .second, .val (.long t53), .second, .val (.long t55), .second, .val (.long t45), .second] [(.long (t47 &&& (4503599627370495 : Int64))), (.int (0 : Int32)), (.ref a2)])) rfl rfl (hb hby own_d5_183)
  have V56x : Arv Z h56 a2 k2 .long (5 : Int32) [(.long (t47 &&& (4503599627370495 : Int64))), (.long w1), (.long w2), (.long w3), (.long w4)] (.long (0 : Int64)) := V56
  have f57 := V0.other W56 ne0
  have f58 := V1.other W56 ne1
  have f59 := Sta.wr W56 Sp
  have f60 := Vp.other W56 nep
  have Zn56 : n0 ≤ h56.size := Nat.le_trans Z0 (Keep.of_wr W56).1
  have K56 : Keep h0 h56 [a2] := (Keep.refl h0 [a2]).wr W56 (Or.inl (List.mem_of_getElem? (i := 0) rfl))
  refine own_step st56 ?_
  show own_Run p e below T56 (mkF m 184 #[.val (.ref a0), .val (.ref a1), .val (.ref a2), .val (.long t47), .second, .val (.long t49), .second, .val (.long t51), .second, .val (.long t53), .second, .val (.long t55), .second, .val (.long t45), .second] []) _
  refine own_step (fun t k => XS.aloadN X56.here hx rfl (hb hby own_d5_184) rfl rfl k) ?_
  refine own_step (fun t k => XS.iconst X56.here hx rfl (hb hby own_d5_185) k) ?_
  refine own_step (fun t k => XS.lload X56.here hx rfl (hb hby own_d5_186) rfl  k) ?_
  show own_Run p e below T56 (mkF m 188 #[.val (.ref a0), .val (.ref a1), .val (.ref a2), .val (.long t47), .second, .val (.long t49), .second, .val (.long t51), .second, .val (.long t53), .second, .val (.long t55), .second, .val (.long t45), .second] [(.long t49), (.int (1 : Int32)), (.ref a2)]) _
  refine own_step (fun t k => X56.ldc2Long hx hown (mvT hZ (hw _ (List.mem_of_getElem? (i := 25) rfl))) (g := (mkF m 188 #[.val (.ref a0), .val (.ref a1), .val (.ref a2), .val (.long t47), .second, .val (.long t49), .second, .val (.long t51), .second, .val (.long t53), .second, .val (.long t55), .second, .val (.long t45), .second] [(.long t49), (.int (1 : Int32)), (.ref a2)])) rfl (hb hby own_d5_188) t k) ?_
  show own_Run p e below T56 (mkF m 191 #[.val (.ref a0), .val (.ref a1), .val (.ref a2), .val (.long t47), .second, .val (.long t49), .second, .val (.long t51), .second, .val (.long t53), .second, .val (.long t55), .second, .val (.long t45), .second] [(.long (4503599627370495 : Int64)), (.long t49), (.int (1 : Int32)), (.ref a2)]) _
  refine own_step (fun t k => XS.land X56.here hx rfl (hb hby own_d5_191) rfl k) ?_
  show own_Run p e below T56 (mkF m 192 #[.val (.ref a0), .val (.ref a1), .val (.ref a2), .val (.long t47), .second, .val (.long t49), .second, .val (.long t51), .second, .val (.long t53), .second, .val (.long t55), .second, .val (.long t45), .second] [(.long (t49 &&& (4503599627370495 : Int64))), (.int (1 : Int32)), (.ref a2)]) _
  obtain ⟨T61, h61, L61, X61, e61, N61, W61, V61, st61⟩ := own_stJ X56 hx hZ e56 V56x N56 gw (j := (1 : Int32)) ⟨by decide, by decide⟩ 1 rfl (Nat.le_of_ble_eq_true rfl) (g := (mkF m 192 #[.val (.ref a0), .val (.ref a1), .val (.ref a2), .val (.long t47), .second, .val (.long t49), .second, .val (.long t51), .second, .val (.long t53), .second, .val (.long t55), .second, .val (.long t45), .second] [(.long (t49 &&& (4503599627370495 : Int64))), (.int (1 : Int32)), (.ref a2)])) rfl rfl (hb hby own_d5_192)
  have V61x : Arv Z h61 a2 k2 .long (5 : Int32) [(.long (t47 &&& (4503599627370495 : Int64))), (.long (t49 &&& (4503599627370495 : Int64))), (.long w2), (.long w3), (.long w4)] (.long (0 : Int64)) := V61
  have f62 := f57.other W61 ne0
  have f63 := f58.other W61 ne1
  have f64 := Sta.wr W61 f59
  have f65 := f60.other W61 nep
  have Zn61 : n0 ≤ h61.size := Nat.le_trans Zn56 (Keep.of_wr W61).1
  have K61 : Keep h0 h61 [a2] := K56.wr W61 (Or.inl (List.mem_of_getElem? (i := 0) rfl))
  refine own_step st61 ?_
  show own_Run p e below T61 (mkF m 193 #[.val (.ref a0), .val (.ref a1), .val (.ref a2), .val (.long t47), .second, .val (.long t49), .second, .val (.long t51), .second, .val (.long t53), .second, .val (.long t55), .second, .val (.long t45), .second] []) _
  refine own_step (fun t k => XS.aloadN X61.here hx rfl (hb hby own_d5_193) rfl rfl k) ?_
  refine own_step (fun t k => XS.iconst X61.here hx rfl (hb hby own_d5_194) k) ?_
  refine own_step (fun t k => XS.lload X61.here hx rfl (hb hby own_d5_195) rfl  k) ?_
  show own_Run p e below T61 (mkF m 197 #[.val (.ref a0), .val (.ref a1), .val (.ref a2), .val (.long t47), .second, .val (.long t49), .second, .val (.long t51), .second, .val (.long t53), .second, .val (.long t55), .second, .val (.long t45), .second] [(.long t51), (.int (2 : Int32)), (.ref a2)]) _
  refine own_step (fun t k => X61.ldc2Long hx hown (mvT hZ (hw _ (List.mem_of_getElem? (i := 25) rfl))) (g := (mkF m 197 #[.val (.ref a0), .val (.ref a1), .val (.ref a2), .val (.long t47), .second, .val (.long t49), .second, .val (.long t51), .second, .val (.long t53), .second, .val (.long t55), .second, .val (.long t45), .second] [(.long t51), (.int (2 : Int32)), (.ref a2)])) rfl (hb hby own_d5_197) t k) ?_
  show own_Run p e below T61 (mkF m 200 #[.val (.ref a0), .val (.ref a1), .val (.ref a2), .val (.long t47), .second, .val (.long t49), .second, .val (.long t51), .second, .val (.long t53), .second, .val (.long t55), .second, .val (.long t45), .second] [(.long (4503599627370495 : Int64)), (.long t51), (.int (2 : Int32)), (.ref a2)]) _
  refine own_step (fun t k => XS.land X61.here hx rfl (hb hby own_d5_200) rfl k) ?_
  show own_Run p e below T61 (mkF m 201 #[.val (.ref a0), .val (.ref a1), .val (.ref a2), .val (.long t47), .second, .val (.long t49), .second, .val (.long t51), .second, .val (.long t53), .second, .val (.long t55), .second, .val (.long t45), .second] [(.long (t51 &&& (4503599627370495 : Int64))), (.int (2 : Int32)), (.ref a2)]) _
  obtain ⟨T66, h66, L66, X66, e66, N66, W66, V66, st66⟩ := own_stJ X61 hx hZ e61 V61x N61 gw (j := (2 : Int32)) ⟨by decide, by decide⟩ 2 rfl (Nat.le_of_ble_eq_true rfl) (g := (mkF m 201 #[.val (.ref a0), .val (.ref a1), .val (.ref a2), .val (.long t47), .second, .val (.long t49), .second, .val (.long t51), .second, .val (.long t53), .second, .val (.long t55), .second, .val (.long t45), .second] [(.long (t51 &&& (4503599627370495 : Int64))), (.int (2 : Int32)), (.ref a2)])) rfl rfl (hb hby own_d5_201)
  have V66x : Arv Z h66 a2 k2 .long (5 : Int32) [(.long (t47 &&& (4503599627370495 : Int64))), (.long (t49 &&& (4503599627370495 : Int64))), (.long (t51 &&& (4503599627370495 : Int64))), (.long w3), (.long w4)] (.long (0 : Int64)) := V66
  have f67 := f62.other W66 ne0
  have f68 := f63.other W66 ne1
  have f69 := Sta.wr W66 f64
  have f70 := f65.other W66 nep
  have Zn66 : n0 ≤ h66.size := Nat.le_trans Zn61 (Keep.of_wr W66).1
  have K66 : Keep h0 h66 [a2] := K61.wr W66 (Or.inl (List.mem_of_getElem? (i := 0) rfl))
  refine own_step st66 ?_
  show own_Run p e below T66 (mkF m 202 #[.val (.ref a0), .val (.ref a1), .val (.ref a2), .val (.long t47), .second, .val (.long t49), .second, .val (.long t51), .second, .val (.long t53), .second, .val (.long t55), .second, .val (.long t45), .second] []) _
  refine own_step (fun t k => XS.aloadN X66.here hx rfl (hb hby own_d5_202) rfl rfl k) ?_
  refine own_step (fun t k => XS.iconst X66.here hx rfl (hb hby own_d5_203) k) ?_
  refine own_step (fun t k => XS.lload X66.here hx rfl (hb hby own_d5_204) rfl  k) ?_
  show own_Run p e below T66 (mkF m 206 #[.val (.ref a0), .val (.ref a1), .val (.ref a2), .val (.long t47), .second, .val (.long t49), .second, .val (.long t51), .second, .val (.long t53), .second, .val (.long t55), .second, .val (.long t45), .second] [(.long t53), (.int (3 : Int32)), (.ref a2)]) _
  refine own_step (fun t k => X66.ldc2Long hx hown (mvT hZ (hw _ (List.mem_of_getElem? (i := 25) rfl))) (g := (mkF m 206 #[.val (.ref a0), .val (.ref a1), .val (.ref a2), .val (.long t47), .second, .val (.long t49), .second, .val (.long t51), .second, .val (.long t53), .second, .val (.long t55), .second, .val (.long t45), .second] [(.long t53), (.int (3 : Int32)), (.ref a2)])) rfl (hb hby own_d5_206) t k) ?_
  show own_Run p e below T66 (mkF m 209 #[.val (.ref a0), .val (.ref a1), .val (.ref a2), .val (.long t47), .second, .val (.long t49), .second, .val (.long t51), .second, .val (.long t53), .second, .val (.long t55), .second, .val (.long t45), .second] [(.long (4503599627370495 : Int64)), (.long t53), (.int (3 : Int32)), (.ref a2)]) _
  refine own_step (fun t k => XS.land X66.here hx rfl (hb hby own_d5_209) rfl k) ?_
  show own_Run p e below T66 (mkF m 210 #[.val (.ref a0), .val (.ref a1), .val (.ref a2), .val (.long t47), .second, .val (.long t49), .second, .val (.long t51), .second, .val (.long t53), .second, .val (.long t55), .second, .val (.long t45), .second] [(.long (t53 &&& (4503599627370495 : Int64))), (.int (3 : Int32)), (.ref a2)]) _
  obtain ⟨T71, h71, L71, X71, e71, N71, W71, V71, st71⟩ := own_stJ X66 hx hZ e66 V66x N66 gw (j := (3 : Int32)) ⟨by decide, by decide⟩ 3 rfl (Nat.le_of_ble_eq_true rfl) (g := (mkF m 210 #[.val (.ref a0), .val (.ref a1), .val (.ref a2), .val (.long t47), .second, .val (.long t49), .second, .val (.long t51), .second, .val (.long t53), .second, .val (.long t55), .second, .val (.long t45), .second] [(.long (t53 &&& (4503599627370495 : Int64))), (.int (3 : Int32)), (.ref a2)])) rfl rfl (hb hby own_d5_210)
  have V71x : Arv Z h71 a2 k2 .long (5 : Int32) [(.long (t47 &&& (4503599627370495 : Int64))), (.long (t49 &&& (4503599627370495 : Int64))), (.long (t51 &&& (4503599627370495 : Int64))), (.long (t53 &&& (4503599627370495 : Int64))), (.long w4)] (.long (0 : Int64)) := V71
  have f72 := f67.other W71 ne0
  have f73 := f68.other W71 ne1
  have f74 := Sta.wr W71 f69
  have f75 := f70.other W71 nep
  have Zn71 : n0 ≤ h71.size := Nat.le_trans Zn66 (Keep.of_wr W71).1
  have K71 : Keep h0 h71 [a2] := K66.wr W71 (Or.inl (List.mem_of_getElem? (i := 0) rfl))
  refine own_step st71 ?_
  show own_Run p e below T71 (mkF m 211 #[.val (.ref a0), .val (.ref a1), .val (.ref a2), .val (.long t47), .second, .val (.long t49), .second, .val (.long t51), .second, .val (.long t53), .second, .val (.long t55), .second, .val (.long t45), .second] []) _
  refine own_step (fun t k => XS.aloadN X71.here hx rfl (hb hby own_d5_211) rfl rfl k) ?_
  refine own_step (fun t k => XS.iconst X71.here hx rfl (hb hby own_d5_212) k) ?_
  refine own_step (fun t k => XS.lload X71.here hx rfl (hb hby own_d5_213) rfl  k) ?_
  show own_Run p e below T71 (mkF m 215 #[.val (.ref a0), .val (.ref a1), .val (.ref a2), .val (.long t47), .second, .val (.long t49), .second, .val (.long t51), .second, .val (.long t53), .second, .val (.long t55), .second, .val (.long t45), .second] [(.long t55), (.int (4 : Int32)), (.ref a2)]) _
  obtain ⟨T76, h76, L76, X76, e76, N76, W76, V76, st76⟩ := own_stJ X71 hx hZ e71 V71x N71 gw (j := (4 : Int32)) ⟨by decide, by decide⟩ 4 rfl (Nat.le_of_ble_eq_true rfl) (g := (mkF m 215 #[.val (.ref a0), .val (.ref a1), .val (.ref a2), .val (.long t47), .second, .val (.long t49), .second, .val (.long t51), .second, .val (.long t53), .second, .val (.long t55), .second, .val (.long t45), .second] [(.long t55), (.int (4 : Int32)), (.ref a2)])) rfl rfl (hb hby own_d5_215)
  have V76x : Arv Z h76 a2 k2 .long (5 : Int32) [(.long (t47 &&& (4503599627370495 : Int64))), (.long (t49 &&& (4503599627370495 : Int64))), (.long (t51 &&& (4503599627370495 : Int64))), (.long (t53 &&& (4503599627370495 : Int64))), (.long t55)] (.long (0 : Int64)) := V76
  have f77 := f72.other W76 ne0
  have f78 := f73.other W76 ne1
  have f79 := Sta.wr W76 f74
  have f80 := f75.other W76 nep
  have Zn76 : n0 ≤ h76.size := Nat.le_trans Zn71 (Keep.of_wr W76).1
  have K76 : Keep h0 h76 [a2] := K71.wr W76 (Or.inl (List.mem_of_getElem? (i := 0) rfl))
  refine own_step st76 ?_
  show own_Run p e below T76 (mkF m 216 #[.val (.ref a0), .val (.ref a1), .val (.ref a2), .val (.long t47), .second, .val (.long t49), .second, .val (.long t51), .second, .val (.long t53), .second, .val (.long t55), .second, .val (.long t45), .second] []) _
  subst ht55
  subst ht53
  subst ht51
  subst ht49
  subst ht47
  subst ht45
  subst ht44
  subst ht43
  subst ht42
  subst ht41
  exact own_retV X76 hx hlk hret (hb hby own_d5_216) (by decide) (by decide) N76 (by rw [e76]; exact ⟨K76, V76x⟩)
def own_f5a_20 (u1 : Int64) (v1 : Int64) (u0 : Int64) (v0 : Int64) : Int64 := ((u1 - v1) + (own_shrL (u0 - v0) (52 : Int32)))
def own_f5a_35 (u2 : Int64) (v2 : Int64) (u1 : Int64) (v1 : Int64) (u0 : Int64) (v0 : Int64) : Int64 := ((u2 - v2) + (own_shrL (own_f5a_20 u1 v1 u0 v0) (52 : Int32)))
def own_f5a_50 (u3 : Int64) (v3 : Int64) (u2 : Int64) (v2 : Int64) (u1 : Int64) (v1 : Int64) (u0 : Int64) (v0 : Int64) : Int64 := ((u3 - v3) + (own_shrL (own_f5a_35 u2 v2 u1 v1 u0 v0) (52 : Int32)))
def own_f5a_65 (u4 : Int64) (v4 : Int64) (u3 : Int64) (v3 : Int64) (u2 : Int64) (v2 : Int64) (u1 : Int64) (v1 : Int64) (u0 : Int64) (v0 : Int64) : Int64 := ((u4 - v4) + (own_shrL (own_f5a_50 u3 v3 u2 v2 u1 v1 u0 v0) (52 : Int32)))
def own_f5a_72 (u4 : Int64) (v4 : Int64) (u3 : Int64) (v3 : Int64) (u2 : Int64) (v2 : Int64) (u1 : Int64) (v1 : Int64) (u0 : Int64) (v0 : Int64) : Int64 := (own_shrL (own_f5a_65 u4 v4 u3 v3 u2 v2 u1 v1 u0 v0) (63 : Int32))
def own_f5a_88 (u0 : Int64) (v0 : Int64) (u4 : Int64) (v4 : Int64) (u3 : Int64) (v3 : Int64) (u2 : Int64) (v2 : Int64) (u1 : Int64) (v1 : Int64) : Int64 := (((u0 - v0) &&& (4503599627370495 : Int64)) + ((4503599627370495 : Int64) &&& (own_f5a_72 u4 v4 u3 v3 u2 v2 u1 v1 u0 v0)))
def own_f5a_109 (u1 : Int64) (v1 : Int64) (u0 : Int64) (v0 : Int64) (u4 : Int64) (v4 : Int64) (u3 : Int64) (v3 : Int64) (u2 : Int64) (v2 : Int64) : Int64 := ((((own_f5a_20 u1 v1 u0 v0) &&& (4503599627370495 : Int64)) + ((4486007441330175 : Int64) &&& (own_f5a_72 u4 v4 u3 v3 u2 v2 u1 v1 u0 v0))) + (own_shrL (own_f5a_88 u0 v0 u4 v4 u3 v3 u2 v2 u1 v1) (52 : Int32)))
def own_f5a_132 (u2 : Int64) (v2 : Int64) (u1 : Int64) (v1 : Int64) (u0 : Int64) (v0 : Int64) (u4 : Int64) (v4 : Int64) (u3 : Int64) (v3 : Int64) : Int64 := ((((own_f5a_35 u2 v2 u1 v1 u0 v0) &&& (4503599627370495 : Int64)) + ((4503599627370495 : Int64) &&& (own_f5a_72 u4 v4 u3 v3 u2 v2 u1 v1 u0 v0))) + (own_shrL (own_f5a_109 u1 v1 u0 v0 u4 v4 u3 v3 u2 v2) (52 : Int32)))
def own_f5a_155 (u3 : Int64) (v3 : Int64) (u2 : Int64) (v2 : Int64) (u1 : Int64) (v1 : Int64) (u0 : Int64) (v0 : Int64) (u4 : Int64) (v4 : Int64) : Int64 := ((((own_f5a_50 u3 v3 u2 v2 u1 v1 u0 v0) &&& (4503599627370495 : Int64)) + ((4503599627370495 : Int64) &&& (own_f5a_72 u4 v4 u3 v3 u2 v2 u1 v1 u0 v0))) + (own_shrL (own_f5a_132 u2 v2 u1 v1 u0 v0 u4 v4 u3 v3) (52 : Int32)))
def own_f5a_174 (u4 : Int64) (v4 : Int64) (u3 : Int64) (v3 : Int64) (u2 : Int64) (v2 : Int64) (u1 : Int64) (v1 : Int64) (u0 : Int64) (v0 : Int64) : Int64 := (((own_f5a_65 u4 v4 u3 v3 u2 v2 u1 v1 u0 v0) + ((281474976645119 : Int64) &&& (own_f5a_72 u4 v4 u3 v3 u2 v2 u1 v1 u0 v0))) + (own_shrL (own_f5a_155 u3 v3 u2 v2 u1 v1 u0 v0 u4 v4) (52 : Int32)))
def own_f5a_v0_0 (u0 : Int64) (v0 : Int64) (u4 : Int64) (v4 : Int64) (u3 : Int64) (v3 : Int64) (u2 : Int64) (v2 : Int64) (u1 : Int64) (v1 : Int64) : Int64 := ((own_f5a_88 u0 v0 u4 v4 u3 v3 u2 v2 u1 v1) &&& (4503599627370495 : Int64))
def own_f5a_v0_1 (u1 : Int64) (v1 : Int64) (u0 : Int64) (v0 : Int64) (u4 : Int64) (v4 : Int64) (u3 : Int64) (v3 : Int64) (u2 : Int64) (v2 : Int64) : Int64 := ((own_f5a_109 u1 v1 u0 v0 u4 v4 u3 v3 u2 v2) &&& (4503599627370495 : Int64))
def own_f5a_v0_2 (u2 : Int64) (v2 : Int64) (u1 : Int64) (v1 : Int64) (u0 : Int64) (v0 : Int64) (u4 : Int64) (v4 : Int64) (u3 : Int64) (v3 : Int64) : Int64 := ((own_f5a_132 u2 v2 u1 v1 u0 v0 u4 v4 u3 v3) &&& (4503599627370495 : Int64))
def own_f5a_v0_3 (u3 : Int64) (v3 : Int64) (u2 : Int64) (v2 : Int64) (u1 : Int64) (v1 : Int64) (u0 : Int64) (v0 : Int64) (u4 : Int64) (v4 : Int64) : Int64 := ((own_f5a_155 u3 v3 u2 v2 u1 v1 u0 v0 u4 v4) &&& (4503599627370495 : Int64))
def own_f5a_v0_4 (u4 : Int64) (v4 : Int64) (u3 : Int64) (v3 : Int64) (u2 : Int64) (v2 : Int64) (u1 : Int64) (v1 : Int64) (u0 : Int64) (v0 : Int64) : Int64 := (own_f5a_174 u4 v4 u3 v3 u2 v2 u1 v1 u0 v0)
theorem own_ef5a (m : MethodId) (a0 : Addr) (a1 : Addr) : entryFrame m #[(.ref a0), (.ref a1), (.ref a0)] 15 = (mkF m 0 #[.val (.ref a0), .val (.ref a1), .val (.ref a0), .unset, .unset, .unset, .unset, .unset, .unset, .unset, .unset, .unset, .unset, .unset, .unset] []) := by first | (simp [entryFrame, mkF, argsToLocals, Value.category]; done) | rfl
set_option maxRecDepth 65536 in
set_option maxHeartbeats 40000000 in
theorem rm5a (l : Launch) (Z : State) (av0 : Array Value) (hw : ∀ d ∈ tables_1, d.before av0 Z = true) (ws : List Jvm.Cond) (a0 : Addr) (a1 : Addr) (pl : Addr) (kp : ClassId) (k0 : ClassId) (k1 : ClassId) (u0 : Int64) (u1 : Int64) (u2 : Int64) (u3 : Int64) (u4 : Int64) (v0 : Int64) (v1 : Int64) (v2 : Int64) (v3 : Int64) (v4 : Int64) (h0 : Heap) (n0 : Nat) (Z0 : n0 ≤ h0.size) (gw : n0 ≤ a0) (nep : pl ≠ a0) (ne1 : a1 ≠ a0) (V0 : Arv Z h0 a0 k0 .long (5 : Int32) [(.long u0), (.long u1), (.long u2), (.long u3), (.long u4)] (.long (0 : Int64))) (V1 : Arv Z h0 a1 k1 .long (5 : Int32) [(.long v0), (.long v1), (.long v2), (.long v3), (.long v4)] (.long (0 : Int64))) (Sp : Sta Z h0 "com/example/rxrelay/rxrelay/protocol/gm/Sm2Field" "P_LIMBS" "[J" (.ref pl)) (Vp : Arv Z h0 pl kp .long (5 : Int32) [(.long (4503599627370495 : Int64)), (.long (4486007441330175 : Int64)), (.long (4503599627370495 : Int64)), (.long (4503599627370495 : Int64)), (.long (281474976645119 : Int64))] (.long (0 : Int64))) :
    MetFree l (⟨"com/example/rxrelay/rxrelay/protocol/gm/Sm2Field", "subtract", "([J[J[J)V"⟩ : MethodName) (head1 (Jvm.Cond.code (⟨"com/example/rxrelay/rxrelay/protocol/gm/Sm2Field", "subtract", "([J[J[J)V"⟩ : MethodName) prog_33_method_10_code 15 none :: ws) ({ frames := 0, cells := 0, slots := 0, locals := 0 } : Room)) (fun a U => a = #[(.ref a0), (.ref a1), (.ref a0)] ∧ Z.Warmed39 U.vm ∧ U.heap = h0) (fun _ _ _ _ _ => True) (fun _ U o U' => ∃ v L, o = .returned v ∧ own_Q n0 (fun h => Keep h0 h [a0] ∧ Arv Z h a0 k0 .long (5 : Int32) [(.long (own_f5a_v0_0 u0 v0 u4 v4 u3 v3 u2 v2 u1 v1)), (.long (own_f5a_v0_1 u1 v1 u0 v0 u4 v4 u3 v3 u2 v2)), (.long (own_f5a_v0_2 u2 v2 u1 v1 u0 v0 u4 v4 u3 v3)), (.long (own_f5a_v0_3 u3 v3 u2 v2 u1 v1 u0 v0 u4 v4)), (.long (own_f5a_v0_4 u4 v4 u3 v3 u2 v2 u1 v1 u0 v0))] (.long (0 : Int64))) none v U'.heap L ∧ FrameEnd U o U' L ({ frames := 0, cells := 0, slots := 0, locals := 0 } : Room).cells ({ frames := 0, cells := 0, slots := 0, locals := 0 } : Room).slots) := by
  refine MetFree.of_bodySF (plainFor_of_name own_pn1) hisR ?_
  intro p e s m args below meth c s₁ Bd hml0 hP hK
  obtain ⟨rfl, hZ, hh⟩ := hP
  have hx := Bd.exec
  have hby := Bd.bytes
  have hml : c.maxLocals = 15 := hml0
  have hown : s.vm.findClass "com/example/rxrelay/rxrelay/protocol/gm/Sm2Field" = some m.cls := findClass_of_methodNamed Bd.named
  have hnm := (name_of_methodNamed Bd.named Bd.method).1
  have hret := Bd.returns
  have hlk : meth.locks = false := BodyLoose.notSynchronized Bd
  have X0 : Stand p l e ({ frames := 0, cells := 0, slots := 0, locals := 0 } : Room) s m #[(.ref a0), (.ref a1), (.ref a0)] below meth c s₁ [] 0 0 := Stand.of_body Bd
  have e0 : s₁.heap = h0 := by rw [← hh, Bd.state]; rfl
  have N0 := Fr.nil n0
  clear Bd hh hK
  refine own_fin ?_
  refine own_entry (own_ef5a m a0 a1) ?_
  show own_Run p e below s₁ (mkF m 0 #[.val (.ref a0), .val (.ref a1), .val (.ref a0), .unset, .unset, .unset, .unset, .unset, .unset, .unset, .unset, .unset, .unset, .unset, .unset] []) _
  refine own_step (fun t k => XS.aloadN X0.here hx rfl (hb hby own_d5_0) rfl rfl k) ?_
  refine own_step (fun t k => XS.iconst X0.here hx rfl (hb hby own_d5_1) k) ?_
  refine own_step (own_ldJ X0 hx hZ e0 V0 (j := (0 : Int32)) (v := (.long u0)) ⟨by decide, by decide⟩ rfl (g := (mkF m 2 #[.val (.ref a0), .val (.ref a1), .val (.ref a0), .unset, .unset, .unset, .unset, .unset, .unset, .unset, .unset, .unset, .unset, .unset, .unset] [(.int (0 : Int32)), (.ref a0)])) rfl rfl (hb hby own_d5_2)) ?_
  show own_Run p e below s₁ (mkF m 3 #[.val (.ref a0), .val (.ref a1), .val (.ref a0), .unset, .unset, .unset, .unset, .unset, .unset, .unset, .unset, .unset, .unset, .unset, .unset] [(.long u0)]) _
  refine own_step (fun t k => XS.aloadN X0.here hx rfl (hb hby own_d5_3) rfl rfl k) ?_
  refine own_step (fun t k => XS.iconst X0.here hx rfl (hb hby own_d5_4) k) ?_
  refine own_step (own_ldJ X0 hx hZ e0 V1 (j := (0 : Int32)) (v := (.long v0)) ⟨by decide, by decide⟩ rfl (g := (mkF m 5 #[.val (.ref a0), .val (.ref a1), .val (.ref a0), .unset, .unset, .unset, .unset, .unset, .unset, .unset, .unset, .unset, .unset, .unset, .unset] [(.int (0 : Int32)), (.ref a1), (.long u0)])) rfl rfl (hb hby own_d5_5)) ?_
  show own_Run p e below s₁ (mkF m 6 #[.val (.ref a0), .val (.ref a1), .val (.ref a0), .unset, .unset, .unset, .unset, .unset, .unset, .unset, .unset, .unset, .unset, .unset, .unset] [(.long v0), (.long u0)]) _
  refine own_step (fun t k => XS.lsub X0.here hx rfl (hb hby own_d5_6) rfl k) ?_
  show own_Run p e below s₁ (mkF m 7 #[.val (.ref a0), .val (.ref a1), .val (.ref a0), .unset, .unset, .unset, .unset, .unset, .unset, .unset, .unset, .unset, .unset, .unset, .unset] [(.long (u0 - v0))]) _
  refine own_step (fun t k => XS.lstoreN X0.here hx rfl (hb hby own_d5_7) rfl (l' := #[.val (.ref a0), .val (.ref a1), .val (.ref a0), .val (.long (u0 - v0)), .second, .unset, .unset, .unset, .unset, .unset, .unset, .unset, .unset, .unset, .unset]) rfl k) ?_
  show own_Run p e below s₁ (mkF m 8 #[.val (.ref a0), .val (.ref a1), .val (.ref a0), .val (.long (u0 - v0)), .second, .unset, .unset, .unset, .unset, .unset, .unset, .unset, .unset, .unset, .unset] []) _
  refine own_step (fun t k => XS.aloadN X0.here hx rfl (hb hby own_d5_8) rfl rfl k) ?_
  refine own_step (fun t k => XS.iconst X0.here hx rfl (hb hby own_d5_9) k) ?_
  refine own_step (own_ldJ X0 hx hZ e0 V0 (j := (1 : Int32)) (v := (.long u1)) ⟨by decide, by decide⟩ rfl (g := (mkF m 10 #[.val (.ref a0), .val (.ref a1), .val (.ref a0), .val (.long (u0 - v0)), .second, .unset, .unset, .unset, .unset, .unset, .unset, .unset, .unset, .unset, .unset] [(.int (1 : Int32)), (.ref a0)])) rfl rfl (hb hby own_d5_10)) ?_
  show own_Run p e below s₁ (mkF m 11 #[.val (.ref a0), .val (.ref a1), .val (.ref a0), .val (.long (u0 - v0)), .second, .unset, .unset, .unset, .unset, .unset, .unset, .unset, .unset, .unset, .unset] [(.long u1)]) _
  refine own_step (fun t k => XS.aloadN X0.here hx rfl (hb hby own_d5_11) rfl rfl k) ?_
  refine own_step (fun t k => XS.iconst X0.here hx rfl (hb hby own_d5_12) k) ?_
  refine own_step (own_ldJ X0 hx hZ e0 V1 (j := (1 : Int32)) (v := (.long v1)) ⟨by decide, by decide⟩ rfl (g := (mkF m 13 #[.val (.ref a0), .val (.ref a1), .val (.ref a0), .val (.long (u0 - v0)), .second, .unset, .unset, .unset, .unset, .unset, .unset, .unset, .unset, .unset, .unset] [(.int (1 : Int32)), (.ref a1), (.long u1)])) rfl rfl (hb hby own_d5_13)) ?_
  show own_Run p e below s₁ (mkF m 14 #[.val (.ref a0), .val (.ref a1), .val (.ref a0), .val (.long (u0 - v0)), .second, .unset, .unset, .unset, .unset, .unset, .unset, .unset, .unset, .unset, .unset] [(.long v1), (.long u1)]) _
  refine own_step (fun t k => XS.lsub X0.here hx rfl (hb hby own_d5_14) rfl k) ?_
  show own_Run p e below s₁ (mkF m 15 #[.val (.ref a0), .val (.ref a1), .val (.ref a0), .val (.long (u0 - v0)), .second, .unset, .unset, .unset, .unset, .unset, .unset, .unset, .unset, .unset, .unset] [(.long (u1 - v1))]) _
  refine own_step (fun t k => XS.lloadN X0.here hx rfl (hb hby own_d5_15) rfl  k) ?_
  refine own_step (fun t k => XS.bipush X0.here hx rfl (hb hby own_d5_16) k) ?_
  refine own_step (fun t k => XS.lshr X0.here hx rfl (hb hby own_d5_18) rfl k) ?_
  show own_Run p e below s₁ (mkF m 19 #[.val (.ref a0), .val (.ref a1), .val (.ref a0), .val (.long (u0 - v0)), .second, .unset, .unset, .unset, .unset, .unset, .unset, .unset, .unset, .unset, .unset] [(.long (own_shrL (u0 - v0) (52 : Int32))), (.long (u1 - v1))]) _
  refine own_step (fun t k => XS.ladd X0.here hx rfl (hb hby own_d5_19) rfl k) ?_
  show own_Run p e below s₁ (mkF m 20 #[.val (.ref a0), .val (.ref a1), .val (.ref a0), .val (.long (u0 - v0)), .second, .unset, .unset, .unset, .unset, .unset, .unset, .unset, .unset, .unset, .unset] [(.long ((u1 - v1) + (own_shrL (u0 - v0) (52 : Int32))))]) _
  obtain ⟨t36, ht36⟩ : ∃ z : Int64, z = ((u1 - v1) + (own_shrL (u0 - v0) (52 : Int32))) := ⟨_, rfl⟩
  refine own_step (fun t k => XS.lstore X0.here hx rfl (hb hby own_d5_20) rfl (l' := #[.val (.ref a0), .val (.ref a1), .val (.ref a0), .val (.long (u0 - v0)), .second, .val (.long t36), .second, .unset, .unset, .unset, .unset, .unset, .unset, .unset, .unset]) (by subst ht36; rfl) k) ?_
  show own_Run p e below s₁ (mkF m 22 #[.val (.ref a0), .val (.ref a1), .val (.ref a0), .val (.long (u0 - v0)), .second, .val (.long t36), .second, .unset, .unset, .unset, .unset, .unset, .unset, .unset, .unset] []) _
  refine own_step (fun t k => XS.aloadN X0.here hx rfl (hb hby own_d5_22) rfl rfl k) ?_
  refine own_step (fun t k => XS.iconst X0.here hx rfl (hb hby own_d5_23) k) ?_
  refine own_step (own_ldJ X0 hx hZ e0 V0 (j := (2 : Int32)) (v := (.long u2)) ⟨by decide, by decide⟩ rfl (g := (mkF m 24 #[.val (.ref a0), .val (.ref a1), .val (.ref a0), .val (.long (u0 - v0)), .second, .val (.long t36), .second, .unset, .unset, .unset, .unset, .unset, .unset, .unset, .unset] [(.int (2 : Int32)), (.ref a0)])) rfl rfl (hb hby own_d5_24)) ?_
  show own_Run p e below s₁ (mkF m 25 #[.val (.ref a0), .val (.ref a1), .val (.ref a0), .val (.long (u0 - v0)), .second, .val (.long t36), .second, .unset, .unset, .unset, .unset, .unset, .unset, .unset, .unset] [(.long u2)]) _
  refine own_step (fun t k => XS.aloadN X0.here hx rfl (hb hby own_d5_25) rfl rfl k) ?_
  refine own_step (fun t k => XS.iconst X0.here hx rfl (hb hby own_d5_26) k) ?_
  refine own_step (own_ldJ X0 hx hZ e0 V1 (j := (2 : Int32)) (v := (.long v2)) ⟨by decide, by decide⟩ rfl (g := (mkF m 27 #[.val (.ref a0), .val (.ref a1), .val (.ref a0), .val (.long (u0 - v0)), .second, .val (.long t36), .second, .unset, .unset, .unset, .unset, .unset, .unset, .unset, .unset] [(.int (2 : Int32)), (.ref a1), (.long u2)])) rfl rfl (hb hby own_d5_27)) ?_
  show own_Run p e below s₁ (mkF m 28 #[.val (.ref a0), .val (.ref a1), .val (.ref a0), .val (.long (u0 - v0)), .second, .val (.long t36), .second, .unset, .unset, .unset, .unset, .unset, .unset, .unset, .unset] [(.long v2), (.long u2)]) _
  refine own_step (fun t k => XS.lsub X0.here hx rfl (hb hby own_d5_28) rfl k) ?_
  show own_Run p e below s₁ (mkF m 29 #[.val (.ref a0), .val (.ref a1), .val (.ref a0), .val (.long (u0 - v0)), .second, .val (.long t36), .second, .unset, .unset, .unset, .unset, .unset, .unset, .unset, .unset] [(.long (u2 - v2))]) _
  refine own_step (fun t k => XS.lload X0.here hx rfl (hb hby own_d5_29) rfl  k) ?_
  refine own_step (fun t k => XS.bipush X0.here hx rfl (hb hby own_d5_31) k) ?_
  refine own_step (fun t k => XS.lshr X0.here hx rfl (hb hby own_d5_33) rfl k) ?_
  show own_Run p e below s₁ (mkF m 34 #[.val (.ref a0), .val (.ref a1), .val (.ref a0), .val (.long (u0 - v0)), .second, .val (.long t36), .second, .unset, .unset, .unset, .unset, .unset, .unset, .unset, .unset] [(.long (own_shrL t36 (52 : Int32))), (.long (u2 - v2))]) _
  refine own_step (fun t k => XS.ladd X0.here hx rfl (hb hby own_d5_34) rfl k) ?_
  show own_Run p e below s₁ (mkF m 35 #[.val (.ref a0), .val (.ref a1), .val (.ref a0), .val (.long (u0 - v0)), .second, .val (.long t36), .second, .unset, .unset, .unset, .unset, .unset, .unset, .unset, .unset] [(.long ((u2 - v2) + (own_shrL t36 (52 : Int32))))]) _
  obtain ⟨t37, ht37⟩ : ∃ z : Int64, z = ((u2 - v2) + (own_shrL t36 (52 : Int32))) := ⟨_, rfl⟩
  refine own_step (fun t k => XS.lstore X0.here hx rfl (hb hby own_d5_35) rfl (l' := #[.val (.ref a0), .val (.ref a1), .val (.ref a0), .val (.long (u0 - v0)), .second, .val (.long t36), .second, .val (.long t37), .second, .unset, .unset, .unset, .unset, .unset, .unset]) (by subst ht37; rfl) k) ?_
  show own_Run p e below s₁ (mkF m 37 #[.val (.ref a0), .val (.ref a1), .val (.ref a0), .val (.long (u0 - v0)), .second, .val (.long t36), .second, .val (.long t37), .second, .unset, .unset, .unset, .unset, .unset, .unset] []) _
  refine own_step (fun t k => XS.aloadN X0.here hx rfl (hb hby own_d5_37) rfl rfl k) ?_
  refine own_step (fun t k => XS.iconst X0.here hx rfl (hb hby own_d5_38) k) ?_
  refine own_step (own_ldJ X0 hx hZ e0 V0 (j := (3 : Int32)) (v := (.long u3)) ⟨by decide, by decide⟩ rfl (g := (mkF m 39 #[.val (.ref a0), .val (.ref a1), .val (.ref a0), .val (.long (u0 - v0)), .second, .val (.long t36), .second, .val (.long t37), .second, .unset, .unset, .unset, .unset, .unset, .unset] [(.int (3 : Int32)), (.ref a0)])) rfl rfl (hb hby own_d5_39)) ?_
  show own_Run p e below s₁ (mkF m 40 #[.val (.ref a0), .val (.ref a1), .val (.ref a0), .val (.long (u0 - v0)), .second, .val (.long t36), .second, .val (.long t37), .second, .unset, .unset, .unset, .unset, .unset, .unset] [(.long u3)]) _
  refine own_step (fun t k => XS.aloadN X0.here hx rfl (hb hby own_d5_40) rfl rfl k) ?_
  refine own_step (fun t k => XS.iconst X0.here hx rfl (hb hby own_d5_41) k) ?_
  refine own_step (own_ldJ X0 hx hZ e0 V1 (j := (3 : Int32)) (v := (.long v3)) ⟨by decide, by decide⟩ rfl (g := (mkF m 42 #[.val (.ref a0), .val (.ref a1), .val (.ref a0), .val (.long (u0 - v0)), .second, .val (.long t36), .second, .val (.long t37), .second, .unset, .unset, .unset, .unset, .unset, .unset] [(.int (3 : Int32)), (.ref a1), (.long u3)])) rfl rfl (hb hby own_d5_42)) ?_
  show own_Run p e below s₁ (mkF m 43 #[.val (.ref a0), .val (.ref a1), .val (.ref a0), .val (.long (u0 - v0)), .second, .val (.long t36), .second, .val (.long t37), .second, .unset, .unset, .unset, .unset, .unset, .unset] [(.long v3), (.long u3)]) _
  refine own_step (fun t k => XS.lsub X0.here hx rfl (hb hby own_d5_43) rfl k) ?_
  show own_Run p e below s₁ (mkF m 44 #[.val (.ref a0), .val (.ref a1), .val (.ref a0), .val (.long (u0 - v0)), .second, .val (.long t36), .second, .val (.long t37), .second, .unset, .unset, .unset, .unset, .unset, .unset] [(.long (u3 - v3))]) _
  refine own_step (fun t k => XS.lload X0.here hx rfl (hb hby own_d5_44) rfl  k) ?_
  refine own_step (fun t k => XS.bipush X0.here hx rfl (hb hby own_d5_46) k) ?_
  refine own_step (fun t k => XS.lshr X0.here hx rfl (hb hby own_d5_48) rfl k) ?_
  show own_Run p e below s₁ (mkF m 49 #[.val (.ref a0), .val (.ref a1), .val (.ref a0), .val (.long (u0 - v0)), .second, .val (.long t36), .second, .val (.long t37), .second, .unset, .unset, .unset, .unset, .unset, .unset] [(.long (own_shrL t37 (52 : Int32))), (.long (u3 - v3))]) _
  refine own_step (fun t k => XS.ladd X0.here hx rfl (hb hby own_d5_49) rfl k) ?_
  show own_Run p e below s₁ (mkF m 50 #[.val (.ref a0), .val (.ref a1), .val (.ref a0), .val (.long (u0 - v0)), .second, .val (.long t36), .second, .val (.long t37), .second, .unset, .unset, .unset, .unset, .unset, .unset] [(.long ((u3 - v3) + (own_shrL t37 (52 : Int32))))]) _
  obtain ⟨t38, ht38⟩ : ∃ z : Int64, z = ((u3 - v3) + (own_shrL t37 (52 : Int32))) := ⟨_, rfl⟩
  refine own_step (fun t k => XS.lstore X0.here hx rfl (hb hby own_d5_50) rfl (l' := #[.val (.ref a0), .val (.ref a1), .val (.ref a0), .val (.long (u0 - v0)), .second, .val (.long t36), .second, .val (.long t37), .second, .val (.long t38), .second, .unset, .unset, .unset, .unset]) (by subst ht38; rfl) k) ?_
  show own_Run p e below s₁ (mkF m 52 #[.val (.ref a0), .val (.ref a1), .val (.ref a0), .val (.long (u0 - v0)), .second, .val (.long t36), .second, .val (.long t37), .second, .val (.long t38), .second, .unset, .unset, .unset, .unset] []) _
  refine own_step (fun t k => XS.aloadN X0.here hx rfl (hb hby own_d5_52) rfl rfl k) ?_
  refine own_step (fun t k => XS.iconst X0.here hx rfl (hb hby own_d5_53) k) ?_
  refine own_step (own_ldJ X0 hx hZ e0 V0 (j := (4 : Int32)) (v := (.long u4)) ⟨by decide, by decide⟩ rfl (g := (mkF m 54 #[.val (.ref a0), .val (.ref a1), .val (.ref a0), .val (.long (u0 - v0)), .second, .val (.long t36), .second, .val (.long t37), .second, .val (.long t38), .second, .unset, .unset, .unset, .unset] [(.int (4 : Int32)), (.ref a0)])) rfl rfl (hb hby own_d5_54)) ?_
  show own_Run p e below s₁ (mkF m 55 #[.val (.ref a0), .val (.ref a1), .val (.ref a0), .val (.long (u0 - v0)), .second, .val (.long t36), .second, .val (.long t37), .second, .val (.long t38), .second, .unset, .unset, .unset, .unset] [(.long u4)]) _
  refine own_step (fun t k => XS.aloadN X0.here hx rfl (hb hby own_d5_55) rfl rfl k) ?_
  refine own_step (fun t k => XS.iconst X0.here hx rfl (hb hby own_d5_56) k) ?_
  refine own_step (own_ldJ X0 hx hZ e0 V1 (j := (4 : Int32)) (v := (.long v4)) ⟨by decide, by decide⟩ rfl (g := (mkF m 57 #[.val (.ref a0), .val (.ref a1), .val (.ref a0), .val (.long (u0 - v0)), .second, .val (.long t36), .second, .val (.long t37), .second, .val (.long t38), .second, .unset, .unset, .unset, .unset] [(.int (4 : Int32)), (.ref a1), (.long u4)])) rfl rfl (hb hby own_d5_57)) ?_
  show own_Run p e below s₁ (mkF m 58 #[.val (.ref a0), .val (.ref a1), .val (.ref a0), .val (.long (u0 - v0)), .second, .val (.long t36), .second, .val (.long t37), .second, .val (.long t38), .second, .unset, .unset, .unset, .unset] [(.long v4), (.long u4)]) _
  refine own_step (fun t k => XS.lsub X0.here hx rfl (hb hby own_d5_58) rfl k) ?_
  show own_Run p e below s₁ (mkF m 59 #[.val (.ref a0), .val (.ref a1), .val (.ref a0), .val (.long (u0 - v0)), .second, .val (.long t36), .second, .val (.long t37), .second, .val (.long t38), .second, .unset, .unset, .unset, .unset] [(.long (u4 - v4))]) _
  refine own_step (fun t k => XS.lload X0.here hx rfl (hb hby own_d5_59) rfl  k) ?_
  refine own_step (fun t k => XS.bipush X0.here hx rfl (hb hby own_d5_61) k) ?_
  refine own_step (fun t k => XS.lshr X0.here hx rfl (hb hby own_d5_63) rfl k) ?_
  show own_Run p e below s₁ (mkF m 64 #[.val (.ref a0), .val (.ref a1), .val (.ref a0), .val (.long (u0 - v0)), .second, .val (.long t36), .second, .val (.long t37), .second, .val (.long t38), .second, .unset, .unset, .unset, .unset] [(.long (own_shrL t38 (52 : Int32))), (.long (u4 - v4))]) _
  refine own_step (fun t k => XS.ladd X0.here hx rfl (hb hby own_d5_64) rfl k) ?_
  show own_Run p e below s₁ (mkF m 65 #[.val (.ref a0), .val (.ref a1), .val (.ref a0), .val (.long (u0 - v0)), .second, .val (.long t36), .second, .val (.long t37), .second, .val (.long t38), .second, .unset, .unset, .unset, .unset] [(.long ((u4 - v4) + (own_shrL t38 (52 : Int32))))]) _
  obtain ⟨t39, ht39⟩ : ∃ z : Int64, z = ((u4 - v4) + (own_shrL t38 (52 : Int32))) := ⟨_, rfl⟩
  refine own_step (fun t k => XS.lstore X0.here hx rfl (hb hby own_d5_65) rfl (l' := #[.val (.ref a0), .val (.ref a1), .val (.ref a0), .val (.long (u0 - v0)), .second, .val (.long t36), .second, .val (.long t37), .second, .val (.long t38), .second, .val (.long t39), .second, .unset, .unset]) (by subst ht39; rfl) k) ?_
  show own_Run p e below s₁ (mkF m 67 #[.val (.ref a0), .val (.ref a1), .val (.ref a0), .val (.long (u0 - v0)), .second, .val (.long t36), .second, .val (.long t37), .second, .val (.long t38), .second, .val (.long t39), .second, .unset, .unset] []) _
  refine own_step (fun t k => XS.lload X0.here hx rfl (hb hby own_d5_67) rfl  k) ?_
  refine own_step (fun t k => XS.bipush X0.here hx rfl (hb hby own_d5_69) k) ?_
  refine own_step (fun t k => XS.lshr X0.here hx rfl (hb hby own_d5_71) rfl k) ?_
  show own_Run p e below s₁ (mkF m 72 #[.val (.ref a0), .val (.ref a1), .val (.ref a0), .val (.long (u0 - v0)), .second, .val (.long t36), .second, .val (.long t37), .second, .val (.long t38), .second, .val (.long t39), .second, .unset, .unset] [(.long (own_shrL t39 (63 : Int32)))]) _
  obtain ⟨t40, ht40⟩ : ∃ z : Int64, z = (own_shrL t39 (63 : Int32)) := ⟨_, rfl⟩
  refine own_step (fun t k => XS.lstore X0.here hx rfl (hb hby own_d5_72) rfl (l' := #[.val (.ref a0), .val (.ref a1), .val (.ref a0), .val (.long (u0 - v0)), .second, .val (.long t36), .second, .val (.long t37), .second, .val (.long t38), .second, .val (.long t39), .second, .val (.long t40), .second]) (by subst ht40; rfl) k) ?_
  show own_Run p e below s₁ (mkF m 74 #[.val (.ref a0), .val (.ref a1), .val (.ref a0), .val (.long (u0 - v0)), .second, .val (.long t36), .second, .val (.long t37), .second, .val (.long t38), .second, .val (.long t39), .second, .val (.long t40), .second] []) _
  refine own_step (fun t k => XS.lloadN X0.here hx rfl (hb hby own_d5_74) rfl  k) ?_
  refine own_step (fun t k => X0.ldc2Long hx hown (mvT hZ (hw _ (List.mem_of_getElem? (i := 25) rfl))) (g := (mkF m 75 #[.val (.ref a0), .val (.ref a1), .val (.ref a0), .val (.long (u0 - v0)), .second, .val (.long t36), .second, .val (.long t37), .second, .val (.long t38), .second, .val (.long t39), .second, .val (.long t40), .second] [(.long (u0 - v0))])) rfl (hb hby own_d5_75) t k) ?_
  show own_Run p e below s₁ (mkF m 78 #[.val (.ref a0), .val (.ref a1), .val (.ref a0), .val (.long (u0 - v0)), .second, .val (.long t36), .second, .val (.long t37), .second, .val (.long t38), .second, .val (.long t39), .second, .val (.long t40), .second] [(.long (4503599627370495 : Int64)), (.long (u0 - v0))]) _
  refine own_step (fun t k => XS.land X0.here hx rfl (hb hby own_d5_78) rfl k) ?_
  show own_Run p e below s₁ (mkF m 79 #[.val (.ref a0), .val (.ref a1), .val (.ref a0), .val (.long (u0 - v0)), .second, .val (.long t36), .second, .val (.long t37), .second, .val (.long t38), .second, .val (.long t39), .second, .val (.long t40), .second] [(.long ((u0 - v0) &&& (4503599627370495 : Int64)))]) _
  obtain ⟨T41, X41, e41, st41⟩ := getS2 X0 hx hZ hown (host := "") (Or.inl (hw _ (List.mem_of_getElem? (i := 26) rfl))) Via.refl e0 Sp (g := (mkF m 79 #[.val (.ref a0), .val (.ref a1), .val (.ref a0), .val (.long (u0 - v0)), .second, .val (.long t36), .second, .val (.long t37), .second, .val (.long t38), .second, .val (.long t39), .second, .val (.long t40), .second] [(.long ((u0 - v0) &&& (4503599627370495 : Int64)))])) rfl (hb hby own_d5_79)
  refine own_step st41 ?_
  show own_Run p e below T41 (mkF m 82 #[.val (.ref a0), .val (.ref a1), .val (.ref a0), .val (.long (u0 - v0)), .second, .val (.long t36), .second, .val (.long t37), .second, .val (.long t38), .second, .val (.long t39), .second, .val (.long t40), .second] [(.ref pl), (.long ((u0 - v0) &&& (4503599627370495 : Int64)))]) _
  refine own_step (fun t k => XS.iconst X41.here hx rfl (hb hby own_d5_82) k) ?_
  refine own_step (own_ldJ X41 hx hZ e41 Vp (j := (0 : Int32)) (v := (.long (4503599627370495 : Int64))) ⟨by decide, by decide⟩ rfl (g := (mkF m 83 #[.val (.ref a0), .val (.ref a1), .val (.ref a0), .val (.long (u0 - v0)), .second, .val (.long t36), .second, .val (.long t37), .second, .val (.long t38), .second, .val (.long t39), .second, .val (.long t40), .second] [(.int (0 : Int32)), (.ref pl), (.long ((u0 - v0) &&& (4503599627370495 : Int64)))])) rfl rfl (hb hby own_d5_83)) ?_
  show own_Run p e below T41 (mkF m 84 #[.val (.ref a0), .val (.ref a1), .val (.ref a0), .val (.long (u0 - v0)), .second, .val (.long t36), .second, .val (.long t37), .second, .val (.long t38), .second, .val (.long t39), .second, .val (.long t40), .second] [(.long (4503599627370495 : Int64)), (.long ((u0 - v0) &&& (4503599627370495 : Int64)))]) _
  refine own_step (fun t k => XS.lload X41.here hx rfl (hb hby own_d5_84) rfl  k) ?_
  refine own_step (fun t k => XS.land X41.here hx rfl (hb hby own_d5_86) rfl k) ?_
  show own_Run p e below T41 (mkF m 87 #[.val (.ref a0), .val (.ref a1), .val (.ref a0), .val (.long (u0 - v0)), .second, .val (.long t36), .second, .val (.long t37), .second, .val (.long t38), .second, .val (.long t39), .second, .val (.long t40), .second] [(.long ((4503599627370495 : Int64) &&& t40)), (.long ((u0 - v0) &&& (4503599627370495 : Int64)))]) _
  refine own_step (fun t k => XS.ladd X41.here hx rfl (hb hby own_d5_87) rfl k) ?_
  show own_Run p e below T41 (mkF m 88 #[.val (.ref a0), .val (.ref a1), .val (.ref a0), .val (.long (u0 - v0)), .second, .val (.long t36), .second, .val (.long t37), .second, .val (.long t38), .second, .val (.long t39), .second, .val (.long t40), .second] [(.long (((u0 - v0) &&& (4503599627370495 : Int64)) + ((4503599627370495 : Int64) &&& t40)))]) _
  obtain ⟨t42, ht42⟩ : ∃ z : Int64, z = (((u0 - v0) &&& (4503599627370495 : Int64)) + ((4503599627370495 : Int64) &&& t40)) := ⟨_, rfl⟩
  refine own_step (fun t k => XS.lstoreN X41.here hx rfl (hb hby own_d5_88) rfl (l' := #[.val (.ref a0), .val (.ref a1), .val (.ref a0), .val (.long t42), .second, .val (.long t36), .second, .val (.long t37), .second, .val (.long t38), .second, .val (.long t39), .second, .val (.long t40), .second]) (by subst ht42; rfl) k) ?_
  show own_Run p e below T41 (mkF m 89 #[.val (.ref a0), .val (.ref a1), .val (.ref a0), .val (.long t42), .second, .val (.long t36), .second, .val (.long t37), .second, .val (.long t38), .second, .val (.long t39), .second, .val (.long t40), .second] []) _
  refine own_step (fun t k => XS.lload X41.here hx rfl (hb hby own_d5_89) rfl  k) ?_
  refine own_step (fun t k => X41.ldc2Long hx hown (mvT hZ (hw _ (List.mem_of_getElem? (i := 25) rfl))) (g := (mkF m 91 #[.val (.ref a0), .val (.ref a1), .val (.ref a0), .val (.long t42), .second, .val (.long t36), .second, .val (.long t37), .second, .val (.long t38), .second, .val (.long t39), .second, .val (.long t40), .second] [(.long t36)])) rfl (hb hby own_d5_91) t k) ?_
  show own_Run p e below T41 (mkF m 94 #[.val (.ref a0), .val (.ref a1), .val (.ref a0), .val (.long t42), .second, .val (.long t36), .second, .val (.long t37), .second, .val (.long t38), .second, .val (.long t39), .second, .val (.long t40), .second] [(.long (4503599627370495 : Int64)), (.long t36)]) _
  refine own_step (fun t k => XS.land X41.here hx rfl (hb hby own_d5_94) rfl k) ?_
  show own_Run p e below T41 (mkF m 95 #[.val (.ref a0), .val (.ref a1), .val (.ref a0), .val (.long t42), .second, .val (.long t36), .second, .val (.long t37), .second, .val (.long t38), .second, .val (.long t39), .second, .val (.long t40), .second] [(.long (t36 &&& (4503599627370495 : Int64)))]) _
  obtain ⟨T43, X43, e43, st43⟩ := getS2 X41 hx hZ hown (host := "") (Or.inl (hw _ (List.mem_of_getElem? (i := 26) rfl))) Via.refl e41 Sp (g := (mkF m 95 #[.val (.ref a0), .val (.ref a1), .val (.ref a0), .val (.long t42), .second, .val (.long t36), .second, .val (.long t37), .second, .val (.long t38), .second, .val (.long t39), .second, .val (.long t40), .second] [(.long (t36 &&& (4503599627370495 : Int64)))])) rfl (hb hby own_d5_95)
  refine own_step st43 ?_
  show own_Run p e below T43 (mkF m 98 #[.val (.ref a0), .val (.ref a1), .val (.ref a0), .val (.long t42), .second, .val (.long t36), .second, .val (.long t37), .second, .val (.long t38), .second, .val (.long t39), .second, .val (.long t40), .second] [(.ref pl), (.long (t36 &&& (4503599627370495 : Int64)))]) _
  refine own_step (fun t k => XS.iconst X43.here hx rfl (hb hby own_d5_98) k) ?_
  refine own_step (own_ldJ X43 hx hZ e43 Vp (j := (1 : Int32)) (v := (.long (4486007441330175 : Int64))) ⟨by decide, by decide⟩ rfl (g := (mkF m 99 #[.val (.ref a0), .val (.ref a1), .val (.ref a0), .val (.long t42), .second, .val (.long t36), .second, .val (.long t37), .second, .val (.long t38), .second, .val (.long t39), .second, .val (.long t40), .second] [(.int (1 : Int32)), (.ref pl), (.long (t36 &&& (4503599627370495 : Int64)))])) rfl rfl (hb hby own_d5_99)) ?_
  show own_Run p e below T43 (mkF m 100 #[.val (.ref a0), .val (.ref a1), .val (.ref a0), .val (.long t42), .second, .val (.long t36), .second, .val (.long t37), .second, .val (.long t38), .second, .val (.long t39), .second, .val (.long t40), .second] [(.long (4486007441330175 : Int64)), (.long (t36 &&& (4503599627370495 : Int64)))]) _
  refine own_step (fun t k => XS.lload X43.here hx rfl (hb hby own_d5_100) rfl  k) ?_
  refine own_step (fun t k => XS.land X43.here hx rfl (hb hby own_d5_102) rfl k) ?_
  show own_Run p e below T43 (mkF m 103 #[.val (.ref a0), .val (.ref a1), .val (.ref a0), .val (.long t42), .second, .val (.long t36), .second, .val (.long t37), .second, .val (.long t38), .second, .val (.long t39), .second, .val (.long t40), .second] [(.long ((4486007441330175 : Int64) &&& t40)), (.long (t36 &&& (4503599627370495 : Int64)))]) _
  refine own_step (fun t k => XS.ladd X43.here hx rfl (hb hby own_d5_103) rfl k) ?_
  show own_Run p e below T43 (mkF m 104 #[.val (.ref a0), .val (.ref a1), .val (.ref a0), .val (.long t42), .second, .val (.long t36), .second, .val (.long t37), .second, .val (.long t38), .second, .val (.long t39), .second, .val (.long t40), .second] [(.long ((t36 &&& (4503599627370495 : Int64)) + ((4486007441330175 : Int64) &&& t40)))]) _
  refine own_step (fun t k => XS.lloadN X43.here hx rfl (hb hby own_d5_104) rfl  k) ?_
  refine own_step (fun t k => XS.bipush X43.here hx rfl (hb hby own_d5_105) k) ?_
  refine own_step (fun t k => XS.lshr X43.here hx rfl (hb hby own_d5_107) rfl k) ?_
  show own_Run p e below T43 (mkF m 108 #[.val (.ref a0), .val (.ref a1), .val (.ref a0), .val (.long t42), .second, .val (.long t36), .second, .val (.long t37), .second, .val (.long t38), .second, .val (.long t39), .second, .val (.long t40), .second] [(.long (own_shrL t42 (52 : Int32))), (.long ((t36 &&& (4503599627370495 : Int64)) + ((4486007441330175 : Int64) &&& t40)))]) _
  refine own_step (fun t k => XS.ladd X43.here hx rfl (hb hby own_d5_108) rfl k) ?_
  show own_Run p e below T43 (mkF m 109 #[.val (.ref a0), .val (.ref a1), .val (.ref a0), .val (.long t42), .second, .val (.long t36), .second, .val (.long t37), .second, .val (.long t38), .second, .val (.long t39), .second, .val (.long t40), .second] [(.long (((t36 &&& (4503599627370495 : Int64)) + ((4486007441330175 : Int64) &&& t40)) + (own_shrL t42 (52 : Int32))))]) _
  obtain ⟨t44, ht44⟩ : ∃ z : Int64, z = (((t36 &&& (4503599627370495 : Int64)) + ((4486007441330175 : Int64) &&& t40)) + (own_shrL t42 (52 : Int32))) := ⟨_, rfl⟩
  refine own_step (fun t k => XS.lstore X43.here hx rfl (hb hby own_d5_109) rfl (l' := #[.val (.ref a0), .val (.ref a1), .val (.ref a0), .val (.long t42), .second, .val (.long t44), .second, .val (.long t37), .second, .val (.long t38), .second, .val (.long t39), .second, .val (.long t40), .second]) (by subst ht44; rfl) k) ?_
  show own_Run p e below T43 (mkF m 111 #[.val (.ref a0), .val (.ref a1), .val (.ref a0), .val (.long t42), .second, .val (.long t44), .second, .val (.long t37), .second, .val (.long t38), .second, .val (.long t39), .second, .val (.long t40), .second] []) _
  refine own_step (fun t k => XS.lload X43.here hx rfl (hb hby own_d5_111) rfl  k) ?_
  refine own_step (fun t k => X43.ldc2Long hx hown (mvT hZ (hw _ (List.mem_of_getElem? (i := 25) rfl))) (g := (mkF m 113 #[.val (.ref a0), .val (.ref a1), .val (.ref a0), .val (.long t42), .second, .val (.long t44), .second, .val (.long t37), .second, .val (.long t38), .second, .val (.long t39), .second, .val (.long t40), .second] [(.long t37)])) rfl (hb hby own_d5_113) t k) ?_
  show own_Run p e below T43 (mkF m 116 #[.val (.ref a0), .val (.ref a1), .val (.ref a0), .val (.long t42), .second, .val (.long t44), .second, .val (.long t37), .second, .val (.long t38), .second, .val (.long t39), .second, .val (.long t40), .second] [(.long (4503599627370495 : Int64)), (.long t37)]) _
  refine own_step (fun t k => XS.land X43.here hx rfl (hb hby own_d5_116) rfl k) ?_
  show own_Run p e below T43 (mkF m 117 #[.val (.ref a0), .val (.ref a1), .val (.ref a0), .val (.long t42), .second, .val (.long t44), .second, .val (.long t37), .second, .val (.long t38), .second, .val (.long t39), .second, .val (.long t40), .second] [(.long (t37 &&& (4503599627370495 : Int64)))]) _
  obtain ⟨T45, X45, e45, st45⟩ := getS2 X43 hx hZ hown (host := "") (Or.inl (hw _ (List.mem_of_getElem? (i := 26) rfl))) Via.refl e43 Sp (g := (mkF m 117 #[.val (.ref a0), .val (.ref a1), .val (.ref a0), .val (.long t42), .second, .val (.long t44), .second, .val (.long t37), .second, .val (.long t38), .second, .val (.long t39), .second, .val (.long t40), .second] [(.long (t37 &&& (4503599627370495 : Int64)))])) rfl (hb hby own_d5_117)
  refine own_step st45 ?_
  show own_Run p e below T45 (mkF m 120 #[.val (.ref a0), .val (.ref a1), .val (.ref a0), .val (.long t42), .second, .val (.long t44), .second, .val (.long t37), .second, .val (.long t38), .second, .val (.long t39), .second, .val (.long t40), .second] [(.ref pl), (.long (t37 &&& (4503599627370495 : Int64)))]) _
  refine own_step (fun t k => XS.iconst X45.here hx rfl (hb hby own_d5_120) k) ?_
  refine own_step (own_ldJ X45 hx hZ e45 Vp (j := (2 : Int32)) (v := (.long (4503599627370495 : Int64))) ⟨by decide, by decide⟩ rfl (g := (mkF m 121 #[.val (.ref a0), .val (.ref a1), .val (.ref a0), .val (.long t42), .second, .val (.long t44), .second, .val (.long t37), .second, .val (.long t38), .second, .val (.long t39), .second, .val (.long t40), .second] [(.int (2 : Int32)), (.ref pl), (.long (t37 &&& (4503599627370495 : Int64)))])) rfl rfl (hb hby own_d5_121)) ?_
  show own_Run p e below T45 (mkF m 122 #[.val (.ref a0), .val (.ref a1), .val (.ref a0), .val (.long t42), .second, .val (.long t44), .second, .val (.long t37), .second, .val (.long t38), .second, .val (.long t39), .second, .val (.long t40), .second] [(.long (4503599627370495 : Int64)), (.long (t37 &&& (4503599627370495 : Int64)))]) _
  refine own_step (fun t k => XS.lload X45.here hx rfl (hb hby own_d5_122) rfl  k) ?_
  refine own_step (fun t k => XS.land X45.here hx rfl (hb hby own_d5_124) rfl k) ?_
  show own_Run p e below T45 (mkF m 125 #[.val (.ref a0), .val (.ref a1), .val (.ref a0), .val (.long t42), .second, .val (.long t44), .second, .val (.long t37), .second, .val (.long t38), .second, .val (.long t39), .second, .val (.long t40), .second] [(.long ((4503599627370495 : Int64) &&& t40)), (.long (t37 &&& (4503599627370495 : Int64)))]) _
  refine own_step (fun t k => XS.ladd X45.here hx rfl (hb hby own_d5_125) rfl k) ?_
  show own_Run p e below T45 (mkF m 126 #[.val (.ref a0), .val (.ref a1), .val (.ref a0), .val (.long t42), .second, .val (.long t44), .second, .val (.long t37), .second, .val (.long t38), .second, .val (.long t39), .second, .val (.long t40), .second] [(.long ((t37 &&& (4503599627370495 : Int64)) + ((4503599627370495 : Int64) &&& t40)))]) _
  refine own_step (fun t k => XS.lload X45.here hx rfl (hb hby own_d5_126) rfl  k) ?_
  refine own_step (fun t k => XS.bipush X45.here hx rfl (hb hby own_d5_128) k) ?_
  refine own_step (fun t k => XS.lshr X45.here hx rfl (hb hby own_d5_130) rfl k) ?_
  show own_Run p e below T45 (mkF m 131 #[.val (.ref a0), .val (.ref a1), .val (.ref a0), .val (.long t42), .second, .val (.long t44), .second, .val (.long t37), .second, .val (.long t38), .second, .val (.long t39), .second, .val (.long t40), .second] [(.long (own_shrL t44 (52 : Int32))), (.long ((t37 &&& (4503599627370495 : Int64)) + ((4503599627370495 : Int64) &&& t40)))]) _
  refine own_step (fun t k => XS.ladd X45.here hx rfl (hb hby own_d5_131) rfl k) ?_
  show own_Run p e below T45 (mkF m 132 #[.val (.ref a0), .val (.ref a1), .val (.ref a0), .val (.long t42), .second, .val (.long t44), .second, .val (.long t37), .second, .val (.long t38), .second, .val (.long t39), .second, .val (.long t40), .second] [(.long (((t37 &&& (4503599627370495 : Int64)) + ((4503599627370495 : Int64) &&& t40)) + (own_shrL t44 (52 : Int32))))]) _
  obtain ⟨t46, ht46⟩ : ∃ z : Int64, z = (((t37 &&& (4503599627370495 : Int64)) + ((4503599627370495 : Int64) &&& t40)) + (own_shrL t44 (52 : Int32))) := ⟨_, rfl⟩
  refine own_step (fun t k => XS.lstore X45.here hx rfl (hb hby own_d5_132) rfl (l' := #[.val (.ref a0), .val (.ref a1), .val (.ref a0), .val (.long t42), .second, .val (.long t44), .second, .val (.long t46), .second, .val (.long t38), .second, .val (.long t39), .second, .val (.long t40), .second]) (by subst ht46; rfl) k) ?_
  show own_Run p e below T45 (mkF m 134 #[.val (.ref a0), .val (.ref a1), .val (.ref a0), .val (.long t42), .second, .val (.long t44), .second, .val (.long t46), .second, .val (.long t38), .second, .val (.long t39), .second, .val (.long t40), .second] []) _
  refine own_step (fun t k => XS.lload X45.here hx rfl (hb hby own_d5_134) rfl  k) ?_
  refine own_step (fun t k => X45.ldc2Long hx hown (mvT hZ (hw _ (List.mem_of_getElem? (i := 25) rfl))) (g := (mkF m 136 #[.val (.ref a0), .val (.ref a1), .val (.ref a0), .val (.long t42), .second, .val (.long t44), .second, .val (.long t46), .second, .val (.long t38), .second, .val (.long t39), .second, .val (.long t40), .second] [(.long t38)])) rfl (hb hby own_d5_136) t k) ?_
  show own_Run p e below T45 (mkF m 139 #[.val (.ref a0), .val (.ref a1), .val (.ref a0), .val (.long t42), .second, .val (.long t44), .second, .val (.long t46), .second, .val (.long t38), .second, .val (.long t39), .second, .val (.long t40), .second] [(.long (4503599627370495 : Int64)), (.long t38)]) _
  refine own_step (fun t k => XS.land X45.here hx rfl (hb hby own_d5_139) rfl k) ?_
  show own_Run p e below T45 (mkF m 140 #[.val (.ref a0), .val (.ref a1), .val (.ref a0), .val (.long t42), .second, .val (.long t44), .second, .val (.long t46), .second, .val (.long t38), .second, .val (.long t39), .second, .val (.long t40), .second] [(.long (t38 &&& (4503599627370495 : Int64)))]) _
  obtain ⟨T47, X47, e47, st47⟩ := getS2 X45 hx hZ hown (host := "") (Or.inl (hw _ (List.mem_of_getElem? (i := 26) rfl))) Via.refl e45 Sp (g := (mkF m 140 #[.val (.ref a0), .val (.ref a1), .val (.ref a0), .val (.long t42), .second, .val (.long t44), .second, .val (.long t46), .second, .val (.long t38), .second, .val (.long t39), .second, .val (.long t40), .second] [(.long (t38 &&& (4503599627370495 : Int64)))])) rfl (hb hby own_d5_140)
  refine own_step st47 ?_
  show own_Run p e below T47 (mkF m 143 #[.val (.ref a0), .val (.ref a1), .val (.ref a0), .val (.long t42), .second, .val (.long t44), .second, .val (.long t46), .second, .val (.long t38), .second, .val (.long t39), .second, .val (.long t40), .second] [(.ref pl), (.long (t38 &&& (4503599627370495 : Int64)))]) _
  refine own_step (fun t k => XS.iconst X47.here hx rfl (hb hby own_d5_143) k) ?_
  refine own_step (own_ldJ X47 hx hZ e47 Vp (j := (3 : Int32)) (v := (.long (4503599627370495 : Int64))) ⟨by decide, by decide⟩ rfl (g := (mkF m 144 #[.val (.ref a0), .val (.ref a1), .val (.ref a0), .val (.long t42), .second, .val (.long t44), .second, .val (.long t46), .second, .val (.long t38), .second, .val (.long t39), .second, .val (.long t40), .second] [(.int (3 : Int32)), (.ref pl), (.long (t38 &&& (4503599627370495 : Int64)))])) rfl rfl (hb hby own_d5_144)) ?_
  show own_Run p e below T47 (mkF m 145 #[.val (.ref a0), .val (.ref a1), .val (.ref a0), .val (.long t42), .second, .val (.long t44), .second, .val (.long t46), .second, .val (.long t38), .second, .val (.long t39), .second, .val (.long t40), .second] [(.long (4503599627370495 : Int64)), (.long (t38 &&& (4503599627370495 : Int64)))]) _
  refine own_step (fun t k => XS.lload X47.here hx rfl (hb hby own_d5_145) rfl  k) ?_
  refine own_step (fun t k => XS.land X47.here hx rfl (hb hby own_d5_147) rfl k) ?_
  show own_Run p e below T47 (mkF m 148 #[.val (.ref a0), .val (.ref a1), .val (.ref a0), .val (.long t42), .second, .val (.long t44), .second, .val (.long t46), .second, .val (.long t38), .second, .val (.long t39), .second, .val (.long t40), .second] [(.long ((4503599627370495 : Int64) &&& t40)), (.long (t38 &&& (4503599627370495 : Int64)))]) _
  refine own_step (fun t k => XS.ladd X47.here hx rfl (hb hby own_d5_148) rfl k) ?_
  show own_Run p e below T47 (mkF m 149 #[.val (.ref a0), .val (.ref a1), .val (.ref a0), .val (.long t42), .second, .val (.long t44), .second, .val (.long t46), .second, .val (.long t38), .second, .val (.long t39), .second, .val (.long t40), .second] [(.long ((t38 &&& (4503599627370495 : Int64)) + ((4503599627370495 : Int64) &&& t40)))]) _
  refine own_step (fun t k => XS.lload X47.here hx rfl (hb hby own_d5_149) rfl  k) ?_
  refine own_step (fun t k => XS.bipush X47.here hx rfl (hb hby own_d5_151) k) ?_
  refine own_step (fun t k => XS.lshr X47.here hx rfl (hb hby own_d5_153) rfl k) ?_
  show own_Run p e below T47 (mkF m 154 #[.val (.ref a0), .val (.ref a1), .val (.ref a0), .val (.long t42), .second, .val (.long t44), .second, .val (.long t46), .second, .val (.long t38), .second, .val (.long t39), .second, .val (.long t40), .second] [(.long (own_shrL t46 (52 : Int32))), (.long ((t38 &&& (4503599627370495 : Int64)) + ((4503599627370495 : Int64) &&& t40)))]) _
  refine own_step (fun t k => XS.ladd X47.here hx rfl (hb hby own_d5_154) rfl k) ?_
  show own_Run p e below T47 (mkF m 155 #[.val (.ref a0), .val (.ref a1), .val (.ref a0), .val (.long t42), .second, .val (.long t44), .second, .val (.long t46), .second, .val (.long t38), .second, .val (.long t39), .second, .val (.long t40), .second] [(.long (((t38 &&& (4503599627370495 : Int64)) + ((4503599627370495 : Int64) &&& t40)) + (own_shrL t46 (52 : Int32))))]) _
  obtain ⟨t48, ht48⟩ : ∃ z : Int64, z = (((t38 &&& (4503599627370495 : Int64)) + ((4503599627370495 : Int64) &&& t40)) + (own_shrL t46 (52 : Int32))) := ⟨_, rfl⟩
  refine own_step (fun t k => XS.lstore X47.here hx rfl (hb hby own_d5_155) rfl (l' := #[.val (.ref a0), .val (.ref a1), .val (.ref a0), .val (.long t42), .second, .val (.long t44), .second, .val (.long t46), .second, .val (.long t48), .second, .val (.long t39), .second, .val (.long t40), .second]) (by subst ht48; rfl) k) ?_
  show own_Run p e below T47 (mkF m 157 #[.val (.ref a0), .val (.ref a1), .val (.ref a0), .val (.long t42), .second, .val (.long t44), .second, .val (.long t46), .second, .val (.long t48), .second, .val (.long t39), .second, .val (.long t40), .second] []) _
  refine own_step (fun t k => XS.lload X47.here hx rfl (hb hby own_d5_157) rfl  k) ?_
  obtain ⟨T49, X49, e49, st49⟩ := getS2 X47 hx hZ hown (host := "") (Or.inl (hw _ (List.mem_of_getElem? (i := 26) rfl))) Via.refl e47 Sp (g := (mkF m 159 #[.val (.ref a0), .val (.ref a1), .val (.ref a0), .val (.long t42), .second, .val (.long t44), .second, .val (.long t46), .second, .val (.long t48), .second, .val (.long t39), .second, .val (.long t40), .second] [(.long t39)])) rfl (hb hby own_d5_159)
  refine own_step st49 ?_
  show own_Run p e below T49 (mkF m 162 #[.val (.ref a0), .val (.ref a1), .val (.ref a0), .val (.long t42), .second, .val (.long t44), .second, .val (.long t46), .second, .val (.long t48), .second, .val (.long t39), .second, .val (.long t40), .second] [(.ref pl), (.long t39)]) _
  refine own_step (fun t k => XS.iconst X49.here hx rfl (hb hby own_d5_162) k) ?_
  refine own_step (own_ldJ X49 hx hZ e49 Vp (j := (4 : Int32)) (v := (.long (281474976645119 : Int64))) ⟨by decide, by decide⟩ rfl (g := (mkF m 163 #[.val (.ref a0), .val (.ref a1), .val (.ref a0), .val (.long t42), .second, .val (.long t44), .second, .val (.long t46), .second, .val (.long t48), .second, .val (.long t39), .second, .val (.long t40), .second] [(.int (4 : Int32)), (.ref pl), (.long t39)])) rfl rfl (hb hby own_d5_163)) ?_
  show own_Run p e below T49 (mkF m 164 #[.val (.ref a0), .val (.ref a1), .val (.ref a0), .val (.long t42), .second, .val (.long t44), .second, .val (.long t46), .second, .val (.long t48), .second, .val (.long t39), .second, .val (.long t40), .second] [(.long (281474976645119 : Int64)), (.long t39)]) _
  refine own_step (fun t k => XS.lload X49.here hx rfl (hb hby own_d5_164) rfl  k) ?_
  refine own_step (fun t k => XS.land X49.here hx rfl (hb hby own_d5_166) rfl k) ?_
  show own_Run p e below T49 (mkF m 167 #[.val (.ref a0), .val (.ref a1), .val (.ref a0), .val (.long t42), .second, .val (.long t44), .second, .val (.long t46), .second, .val (.long t48), .second, .val (.long t39), .second, .val (.long t40), .second] [(.long ((281474976645119 : Int64) &&& t40)), (.long t39)]) _
  refine own_step (fun t k => XS.ladd X49.here hx rfl (hb hby own_d5_167) rfl k) ?_
  show own_Run p e below T49 (mkF m 168 #[.val (.ref a0), .val (.ref a1), .val (.ref a0), .val (.long t42), .second, .val (.long t44), .second, .val (.long t46), .second, .val (.long t48), .second, .val (.long t39), .second, .val (.long t40), .second] [(.long (t39 + ((281474976645119 : Int64) &&& t40)))]) _
  refine own_step (fun t k => XS.lload X49.here hx rfl (hb hby own_d5_168) rfl  k) ?_
  refine own_step (fun t k => XS.bipush X49.here hx rfl (hb hby own_d5_170) k) ?_
  refine own_step (fun t k => XS.lshr X49.here hx rfl (hb hby own_d5_172) rfl k) ?_
  show own_Run p e below T49 (mkF m 173 #[.val (.ref a0), .val (.ref a1), .val (.ref a0), .val (.long t42), .second, .val (.long t44), .second, .val (.long t46), .second, .val (.long t48), .second, .val (.long t39), .second, .val (.long t40), .second] [(.long (own_shrL t48 (52 : Int32))), (.long (t39 + ((281474976645119 : Int64) &&& t40)))]) _
  refine own_step (fun t k => XS.ladd X49.here hx rfl (hb hby own_d5_173) rfl k) ?_
  show own_Run p e below T49 (mkF m 174 #[.val (.ref a0), .val (.ref a1), .val (.ref a0), .val (.long t42), .second, .val (.long t44), .second, .val (.long t46), .second, .val (.long t48), .second, .val (.long t39), .second, .val (.long t40), .second] [(.long ((t39 + ((281474976645119 : Int64) &&& t40)) + (own_shrL t48 (52 : Int32))))]) _
  obtain ⟨t50, ht50⟩ : ∃ z : Int64, z = ((t39 + ((281474976645119 : Int64) &&& t40)) + (own_shrL t48 (52 : Int32))) := ⟨_, rfl⟩
  refine own_step (fun t k => XS.lstore X49.here hx rfl (hb hby own_d5_174) rfl (l' := #[.val (.ref a0), .val (.ref a1), .val (.ref a0), .val (.long t42), .second, .val (.long t44), .second, .val (.long t46), .second, .val (.long t48), .second, .val (.long t50), .second, .val (.long t40), .second]) (by subst ht50; rfl) k) ?_
  show own_Run p e below T49 (mkF m 176 #[.val (.ref a0), .val (.ref a1), .val (.ref a0), .val (.long t42), .second, .val (.long t44), .second, .val (.long t46), .second, .val (.long t48), .second, .val (.long t50), .second, .val (.long t40), .second] []) _
  refine own_step (fun t k => XS.aloadN X49.here hx rfl (hb hby own_d5_176) rfl rfl k) ?_
  refine own_step (fun t k => XS.iconst X49.here hx rfl (hb hby own_d5_177) k) ?_
  refine own_step (fun t k => XS.lloadN X49.here hx rfl (hb hby own_d5_178) rfl  k) ?_
  show own_Run p e below T49 (mkF m 179 #[.val (.ref a0), .val (.ref a1), .val (.ref a0), .val (.long t42), .second, .val (.long t44), .second, .val (.long t46), .second, .val (.long t48), .second, .val (.long t50), .second, .val (.long t40), .second] [(.long t42), (.int (0 : Int32)), (.ref a0)]) _
  refine own_step (fun t k => X49.ldc2Long hx hown (mvT hZ (hw _ (List.mem_of_getElem? (i := 25) rfl))) (g := (mkF m 179 #[.val (.ref a0), .val (.ref a1), .val (.ref a0), .val (.long t42), .second, .val (.long t44), .second, .val (.long t46), .second, .val (.long t48), .second, .val (.long t50), .second, .val (.long t40), .second] [(.long t42), (.int (0 : Int32)), (.ref a0)])) rfl (hb hby own_d5_179) t k) ?_
  show own_Run p e below T49 (mkF m 182 #[.val (.ref a0), .val (.ref a1), .val (.ref a0), .val (.long t42), .second, .val (.long t44), .second, .val (.long t46), .second, .val (.long t48), .second, .val (.long t50), .second, .val (.long t40), .second] [(.long (4503599627370495 : Int64)), (.long t42), (.int (0 : Int32)), (.ref a0)]) _
  refine own_step (fun t k => XS.land X49.here hx rfl (hb hby own_d5_182) rfl k) ?_
  show own_Run p e below T49 (mkF m 183 #[.val (.ref a0), .val (.ref a1), .val (.ref a0), .val (.long t42), .second, .val (.long t44), .second, .val (.long t46), .second, .val (.long t48), .second, .val (.long t50), .second, .val (.long t40), .second] [(.long (t42 &&& (4503599627370495 : Int64))), (.int (0 : Int32)), (.ref a0)]) _
  obtain ⟨T51, h51, L51, X51, e51, N51, W51, V51, st51⟩ := own_stJ X49 hx hZ e49 V0 N0 gw (j := (0 : Int32)) ⟨by decide, by decide⟩ 0 rfl (Nat.le_of_ble_eq_true rfl) (g := (mkF m 183 #[.val (.ref a0), .val (.ref a1), .val (.ref a0), .val (.long t42), .second, .val (.long t44), .second, .val (.long t46), .second, .val (.long t48), .second, .val (.long t50), .second, .val (.long t40), .second] [(.long (t42 &&& (4503599627370495 : Int64))), (.int (0 : Int32)), (.ref a0)])) rfl rfl (hb hby own_d5_183)
  have V51x : Arv Z h51 a0 k0 .long (5 : Int32) [(.long (t42 &&& (4503599627370495 : Int64))), (.long u1), (.long u2), (.long u3), (.long u4)] (.long (0 : Int64)) := V51
  have f52 := V1.other W51 ne1
  have f53 := Sta.wr W51 Sp
  have f54 := Vp.other W51 nep
  have Zn51 : n0 ≤ h51.size := Nat.le_trans Z0 (Keep.of_wr W51).1
  have K51 : Keep h0 h51 [a0] := (Keep.refl h0 [a0]).wr W51 (Or.inl (List.mem_of_getElem? (i := 0) rfl))
  refine own_step st51 ?_
  show own_Run p e below T51 (mkF m 184 #[.val (.ref a0), .val (.ref a1), .val (.ref a0), .val (.long t42), .second, .val (.long t44), .second, .val (.long t46), .second, .val (.long t48), .second, .val (.long t50), .second, .val (.long t40), .second] []) _
  refine own_step (fun t k => XS.aloadN X51.here hx rfl (hb hby own_d5_184) rfl rfl k) ?_
  refine own_step (fun t k => XS.iconst X51.here hx rfl (hb hby own_d5_185) k) ?_
  refine own_step (fun t k => XS.lload X51.here hx rfl (hb hby own_d5_186) rfl  k) ?_
  show own_Run p e below T51 (mkF m 188 #[.val (.ref a0), .val (.ref a1), .val (.ref a0), .val (.long t42), .second, .val (.long t44), .second, .val (.long t46), .second, .val (.long t48), .second, .val (.long t50), .second, .val (.long t40), .second] [(.long t44), (.int (1 : Int32)), (.ref a0)]) _
  refine own_step (fun t k => X51.ldc2Long hx hown (mvT hZ (hw _ (List.mem_of_getElem? (i := 25) rfl))) (g := (mkF m 188 #[.val (.ref a0), .val (.ref a1), .val (.ref a0), .val (.long t42), .second, .val (.long t44), .second, .val (.long t46), .second, .val (.long t48), .second, .val (.long t50), .second, .val (.long t40), .second] [(.long t44), (.int (1 : Int32)), (.ref a0)])) rfl (hb hby own_d5_188) t k) ?_
  show own_Run p e below T51 (mkF m 191 #[.val (.ref a0), .val (.ref a1), .val (.ref a0), .val (.long t42), .second, .val (.long t44), .second, .val (.long t46), .second, .val (.long t48), .second, .val (.long t50), .second, .val (.long t40), .second] [(.long (4503599627370495 : Int64)), (.long t44), (.int (1 : Int32)), (.ref a0)]) _
  refine own_step (fun t k => XS.land X51.here hx rfl (hb hby own_d5_191) rfl k) ?_
  show own_Run p e below T51 (mkF m 192 #[.val (.ref a0), .val (.ref a1), .val (.ref a0), .val (.long t42), .second, .val (.long t44), .second, .val (.long t46), .second, .val (.long t48), .second, .val (.long t50), .second, .val (.long t40), .second] [(.long (t44 &&& (4503599627370495 : Int64))), (.int (1 : Int32)), (.ref a0)]) _
  obtain ⟨T55, h55, L55, X55, e55, N55, W55, V55, st55⟩ := own_stJ X51 hx hZ e51 V51x N51 gw (j := (1 : Int32)) ⟨by decide, by decide⟩ 1 rfl (Nat.le_of_ble_eq_true rfl) (g := (mkF m 192 #[.val (.ref a0), .val (.ref a1), .val (.ref a0), .val (.long t42), .second, .val (.long t44), .second, .val (.long t46), .second, .val (.long t48), .second, .val (.long t50), .second, .val (.long t40), .second] [(.long (t44 &&& (4503599627370495 : Int64))), (.int (1 : Int32)), (.ref a0)])) rfl rfl (hb hby own_d5_192)
  have V55x : Arv Z h55 a0 k0 .long (5 : Int32) [(.long (t42 &&& (4503599627370495 : Int64))), (.long (t44 &&& (4503599627370495 : Int64))), (.long u2), (.long u3), (.long u4)] (.long (0 : Int64)) := V55
  have f56 := f52.other W55 ne1
  have f57 := Sta.wr W55 f53
  have f58 := f54.other W55 nep
  have Zn55 : n0 ≤ h55.size := Nat.le_trans Zn51 (Keep.of_wr W55).1
  have K55 : Keep h0 h55 [a0] := K51.wr W55 (Or.inl (List.mem_of_getElem? (i := 0) rfl))
  refine own_step st55 ?_
  show own_Run p e below T55 (mkF m 193 #[.val (.ref a0), .val (.ref a1), .val (.ref a0), .val (.long t42), .second, .val (.long t44), .second, .val (.long t46), .second, .val (.long t48), .second, .val (.long t50), .second, .val (.long t40), .second] []) _
  refine own_step (fun t k => XS.aloadN X55.here hx rfl (hb hby own_d5_193) rfl rfl k) ?_
  refine own_step (fun t k => XS.iconst X55.here hx rfl (hb hby own_d5_194) k) ?_
  refine own_step (fun t k => XS.lload X55.here hx rfl (hb hby own_d5_195) rfl  k) ?_
  show own_Run p e below T55 (mkF m 197 #[.val (.ref a0), .val (.ref a1), .val (.ref a0), .val (.long t42), .second, .val (.long t44), .second, .val (.long t46), .second, .val (.long t48), .second, .val (.long t50), .second, .val (.long t40), .second] [(.long t46), (.int (2 : Int32)), (.ref a0)]) _
  refine own_step (fun t k => X55.ldc2Long hx hown (mvT hZ (hw _ (List.mem_of_getElem? (i := 25) rfl))) (g := (mkF m 197 #[.val (.ref a0), .val (.ref a1), .val (.ref a0), .val (.long t42), .second, .val (.long t44), .second, .val (.long t46), .second, .val (.long t48), .second, .val (.long t50), .second, .val (.long t40), .second] [(.long t46), (.int (2 : Int32)), (.ref a0)])) rfl (hb hby own_d5_197) t k) ?_
  show own_Run p e below T55 (mkF m 200 #[.val (.ref a0), .val (.ref a1), .val (.ref a0), .val (.long t42), .second, .val (.long t44), .second, .val (.long t46), .second, .val (.long t48), .second, .val (.long t50), .second, .val (.long t40), .second] [(.long (4503599627370495 : Int64)), (.long t46), (.int (2 : Int32)), (.ref a0)]) _
  refine own_step (fun t k => XS.land X55.here hx rfl (hb hby own_d5_200) rfl k) ?_
  show own_Run p e below T55 (mkF m 201 #[.val (.ref a0), .val (.ref a1), .val (.ref a0), .val (.long t42), .second, .val (.long t44), .second, .val (.long t46), .second, .val (.long t48), .second, .val (.long t50), .second, .val (.long t40), .second] [(.long (t46 &&& (4503599627370495 : Int64))), (.int (2 : Int32)), (.ref a0)]) _
  obtain ⟨T59, h59, L59, X59, e59, N59, W59, V59, st59⟩ := own_stJ X55 hx hZ e55 V55x N55 gw (j := (2 : Int32)) ⟨by decide, by decide⟩ 2 rfl (Nat.le_of_ble_eq_true rfl) (g := (mkF m 201 #[.val (.ref a0), .val (.ref a1), .val (.ref a0), .val (.long t42), .second, .val (.long t44), .second, .val (.long t46), .second, .val (.long t48), .second, .val (.long t50), .second, .val (.long t40), .second] [(.long (t46 &&& (4503599627370495 : Int64))), (.int (2 : Int32)), (.ref a0)])) rfl rfl (hb hby own_d5_201)
  have V59x : Arv Z h59 a0 k0 .long (5 : Int32) [(.long (t42 &&& (4503599627370495 : Int64))), (.long (t44 &&& (4503599627370495 : Int64))), (.long (t46 &&& (4503599627370495 : Int64))), (.long u3), (.long u4)] (.long (0 : Int64)) := V59
  have f60 := f56.other W59 ne1
  have f61 := Sta.wr W59 f57
  have f62 := f58.other W59 nep
  have Zn59 : n0 ≤ h59.size := Nat.le_trans Zn55 (Keep.of_wr W59).1
  have K59 : Keep h0 h59 [a0] := K55.wr W59 (Or.inl (List.mem_of_getElem? (i := 0) rfl))
  refine own_step st59 ?_
  show own_Run p e below T59 (mkF m 202 #[.val (.ref a0), .val (.ref a1), .val (.ref a0), .val (.long t42), .second, .val (.long t44), .second, .val (.long t46), .second, .val (.long t48), .second, .val (.long t50), .second, .val (.long t40), .second] []) _
  refine own_step (fun t k => XS.aloadN X59.here hx rfl (hb hby own_d5_202) rfl rfl k) ?_
  refine own_step (fun t k => XS.iconst X59.here hx rfl (hb hby own_d5_203) k) ?_
  refine own_step (fun t k => XS.lload X59.here hx rfl (hb hby own_d5_204) rfl  k) ?_
  show own_Run p e below T59 (mkF m 206 #[.val (.ref a0), .val (.ref a1), .val (.ref a0), .val (.long t42), .second, .val (.long t44), .second, .val (.long t46), .second, .val (.long t48), .second, .val (.long t50), .second, .val (.long t40), .second] [(.long t48), (.int (3 : Int32)), (.ref a0)]) _
  refine own_step (fun t k => X59.ldc2Long hx hown (mvT hZ (hw _ (List.mem_of_getElem? (i := 25) rfl))) (g := (mkF m 206 #[.val (.ref a0), .val (.ref a1), .val (.ref a0), .val (.long t42), .second, .val (.long t44), .second, .val (.long t46), .second, .val (.long t48), .second, .val (.long t50), .second, .val (.long t40), .second] [(.long t48), (.int (3 : Int32)), (.ref a0)])) rfl (hb hby own_d5_206) t k) ?_
  show own_Run p e below T59 (mkF m 209 #[.val (.ref a0), .val (.ref a1), .val (.ref a0), .val (.long t42), .second, .val (.long t44), .second, .val (.long t46), .second, .val (.long t48), .second, .val (.long t50), .second, .val (.long t40), .second] [(.long (4503599627370495 : Int64)), (.long t48), (.int (3 : Int32)), (.ref a0)]) _
  refine own_step (fun t k => XS.land X59.here hx rfl (hb hby own_d5_209) rfl k) ?_
  show own_Run p e below T59 (mkF m 210 #[.val (.ref a0), .val (.ref a1), .val (.ref a0), .val (.long t42), .second, .val (.long t44), .second, .val (.long t46), .second, .val (.long t48), .second, .val (.long t50), .second, .val (.long t40), .second] [(.long (t48 &&& (4503599627370495 : Int64))), (.int (3 : Int32)), (.ref a0)]) _
  obtain ⟨T63, h63, L63, X63, e63, N63, W63, V63, st63⟩ := own_stJ X59 hx hZ e59 V59x N59 gw (j := (3 : Int32)) ⟨by decide, by decide⟩ 3 rfl (Nat.le_of_ble_eq_true rfl) (g := (mkF m 210 #[.val (.ref a0), .val (.ref a1), .val (.ref a0), .val (.long t42), .second, .val (.long t44), .second, .val (.long t46), .second, .val (.long t48), .second, .val (.long t50), .second, .val (.long t40), .second] [(.long (t48 &&& (4503599627370495 : Int64))), (.int (3 : Int32)), (.ref a0)])) rfl rfl (hb hby own_d5_210)
  have V63x : Arv Z h63 a0 k0 .long (5 : Int32) [(.long (t42 &&& (4503599627370495 : Int64))), (.long (t44 &&& (4503599627370495 : Int64))), (.long (t46 &&& (4503599627370495 : Int64))), (.long (t48 &&& (4503599627370495 : Int64))), (.long u4)] (.long (0 : Int64)) := V63
  have f64 := f60.other W63 ne1
  have f65 := Sta.wr W63 f61
  have f66 := f62.other W63 nep
  have Zn63 : n0 ≤ h63.size := Nat.le_trans Zn59 (Keep.of_wr W63).1
  have K63 : Keep h0 h63 [a0] := K59.wr W63 (Or.inl (List.mem_of_getElem? (i := 0) rfl))
  refine own_step st63 ?_
  show own_Run p e below T63 (mkF m 211 #[.val (.ref a0), .val (.ref a1), .val (.ref a0), .val (.long t42), .second, .val (.long t44), .second, .val (.long t46), .second, .val (.long t48), .second, .val (.long t50), .second, .val (.long t40), .second] []) _
  refine own_step (fun t k => XS.aloadN X63.here hx rfl (hb hby own_d5_211) rfl rfl k) ?_
  refine own_step (fun t k => XS.iconst X63.here hx rfl (hb hby own_d5_212) k) ?_
  refine own_step (fun t k => XS.lload X63.here hx rfl (hb hby own_d5_213) rfl  k) ?_
  show own_Run p e below T63 (mkF m 215 #[.val (.ref a0), .val (.ref a1), .val (.ref a0), .val (.long t42), .second, .val (.long t44), .second, .val (.long t46), .second, .val (.long t48), .second, .val (.long t50), .second, .val (.long t40), .second] [(.long t50), (.int (4 : Int32)), (.ref a0)]) _
  obtain ⟨T67, h67, L67, X67, e67, N67, W67, V67, st67⟩ := own_stJ X63 hx hZ e63 V63x N63 gw (j := (4 : Int32)) ⟨by decide, by decide⟩ 4 rfl (Nat.le_of_ble_eq_true rfl) (g := (mkF m 215 #[.val (.ref a0), .val (.ref a1), .val (.ref a0), .val (.long t42), .second, .val (.long t44), .second, .val (.long t46), .second, .val (.long t48), .second, .val (.long t50), .second, .val (.long t40), .second] [(.long t50), (.int (4 : Int32)), (.ref a0)])) rfl rfl (hb hby own_d5_215)
  have V67x : Arv Z h67 a0 k0 .long (5 : Int32) [(.long (t42 &&& (4503599627370495 : Int64))), (.long (t44 &&& (4503599627370495 : Int64))), (.long (t46 &&& (4503599627370495 : Int64))), (.long (t48 &&& (4503599627370495 : Int64))), (.long t50)] (.long (0 : Int64)) := V67
  have f68 := f64.other W67 ne1
  have f69 := Sta.wr W67 f65
  have f70 := f66.other W67 nep
  have Zn67 : n0 ≤ h67.size := Nat.le_trans Zn63 (Keep.of_wr W67).1
  have K67 : Keep h0 h67 [a0] := K63.wr W67 (Or.inl (List.mem_of_getElem? (i := 0) rfl))
  refine own_step st67 ?_
  show own_Run p e below T67 (mkF m 216 #[.val (.ref a0), .val (.ref a1), .val (.ref a0), .val (.long t42), .second, .val (.long t44), .second, .val (.long t46), .second, .val (.long t48), .second, .val (.long t50), .second, .val (.long t40), .second] []) _
  subst ht50
  subst ht48
  subst ht46
  subst ht44
  subst ht42
  subst ht40
  subst ht39
  subst ht38
  subst ht37
  subst ht36
  exact own_retV X67 hx hlk hret (hb hby own_d5_216) (by decide) (by decide) N67 (by rw [e67]; exact ⟨K67, V67x⟩)
def own_f5b_20 (u1 : Int64) (v1 : Int64) (u0 : Int64) (v0 : Int64) : Int64 := ((u1 - v1) + (own_shrL (u0 - v0) (52 : Int32)))
def own_f5b_35 (u2 : Int64) (v2 : Int64) (u1 : Int64) (v1 : Int64) (u0 : Int64) (v0 : Int64) : Int64 := ((u2 - v2) + (own_shrL (own_f5b_20 u1 v1 u0 v0) (52 : Int32)))
def own_f5b_50 (u3 : Int64) (v3 : Int64) (u2 : Int64) (v2 : Int64) (u1 : Int64) (v1 : Int64) (u0 : Int64) (v0 : Int64) : Int64 := ((u3 - v3) + (own_shrL (own_f5b_35 u2 v2 u1 v1 u0 v0) (52 : Int32)))
def own_f5b_65 (u4 : Int64) (v4 : Int64) (u3 : Int64) (v3 : Int64) (u2 : Int64) (v2 : Int64) (u1 : Int64) (v1 : Int64) (u0 : Int64) (v0 : Int64) : Int64 := ((u4 - v4) + (own_shrL (own_f5b_50 u3 v3 u2 v2 u1 v1 u0 v0) (52 : Int32)))
def own_f5b_72 (u4 : Int64) (v4 : Int64) (u3 : Int64) (v3 : Int64) (u2 : Int64) (v2 : Int64) (u1 : Int64) (v1 : Int64) (u0 : Int64) (v0 : Int64) : Int64 := (own_shrL (own_f5b_65 u4 v4 u3 v3 u2 v2 u1 v1 u0 v0) (63 : Int32))
def own_f5b_88 (u0 : Int64) (v0 : Int64) (u4 : Int64) (v4 : Int64) (u3 : Int64) (v3 : Int64) (u2 : Int64) (v2 : Int64) (u1 : Int64) (v1 : Int64) : Int64 := (((u0 - v0) &&& (4503599627370495 : Int64)) + ((4503599627370495 : Int64) &&& (own_f5b_72 u4 v4 u3 v3 u2 v2 u1 v1 u0 v0)))
def own_f5b_109 (u1 : Int64) (v1 : Int64) (u0 : Int64) (v0 : Int64) (u4 : Int64) (v4 : Int64) (u3 : Int64) (v3 : Int64) (u2 : Int64) (v2 : Int64) : Int64 := ((((own_f5b_20 u1 v1 u0 v0) &&& (4503599627370495 : Int64)) + ((4486007441330175 : Int64) &&& (own_f5b_72 u4 v4 u3 v3 u2 v2 u1 v1 u0 v0))) + (own_shrL (own_f5b_88 u0 v0 u4 v4 u3 v3 u2 v2 u1 v1) (52 : Int32)))
def own_f5b_132 (u2 : Int64) (v2 : Int64) (u1 : Int64) (v1 : Int64) (u0 : Int64) (v0 : Int64) (u4 : Int64) (v4 : Int64) (u3 : Int64) (v3 : Int64) : Int64 := ((((own_f5b_35 u2 v2 u1 v1 u0 v0) &&& (4503599627370495 : Int64)) + ((4503599627370495 : Int64) &&& (own_f5b_72 u4 v4 u3 v3 u2 v2 u1 v1 u0 v0))) + (own_shrL (own_f5b_109 u1 v1 u0 v0 u4 v4 u3 v3 u2 v2) (52 : Int32)))
def own_f5b_155 (u3 : Int64) (v3 : Int64) (u2 : Int64) (v2 : Int64) (u1 : Int64) (v1 : Int64) (u0 : Int64) (v0 : Int64) (u4 : Int64) (v4 : Int64) : Int64 := ((((own_f5b_50 u3 v3 u2 v2 u1 v1 u0 v0) &&& (4503599627370495 : Int64)) + ((4503599627370495 : Int64) &&& (own_f5b_72 u4 v4 u3 v3 u2 v2 u1 v1 u0 v0))) + (own_shrL (own_f5b_132 u2 v2 u1 v1 u0 v0 u4 v4 u3 v3) (52 : Int32)))
def own_f5b_174 (u4 : Int64) (v4 : Int64) (u3 : Int64) (v3 : Int64) (u2 : Int64) (v2 : Int64) (u1 : Int64) (v1 : Int64) (u0 : Int64) (v0 : Int64) : Int64 := (((own_f5b_65 u4 v4 u3 v3 u2 v2 u1 v1 u0 v0) + ((281474976645119 : Int64) &&& (own_f5b_72 u4 v4 u3 v3 u2 v2 u1 v1 u0 v0))) + (own_shrL (own_f5b_155 u3 v3 u2 v2 u1 v1 u0 v0 u4 v4) (52 : Int32)))
def own_f5b_v1_0 (u0 : Int64) (v0 : Int64) (u4 : Int64) (v4 : Int64) (u3 : Int64) (v3 : Int64) (u2 : Int64) (v2 : Int64) (u1 : Int64) (v1 : Int64) : Int64 := ((own_f5b_88 u0 v0 u4 v4 u3 v3 u2 v2 u1 v1) &&& (4503599627370495 : Int64))
def own_f5b_v1_1 (u1 : Int64) (v1 : Int64) (u0 : Int64) (v0 : Int64) (u4 : Int64) (v4 : Int64) (u3 : Int64) (v3 : Int64) (u2 : Int64) (v2 : Int64) : Int64 := ((own_f5b_109 u1 v1 u0 v0 u4 v4 u3 v3 u2 v2) &&& (4503599627370495 : Int64))
def own_f5b_v1_2 (u2 : Int64) (v2 : Int64) (u1 : Int64) (v1 : Int64) (u0 : Int64) (v0 : Int64) (u4 : Int64) (v4 : Int64) (u3 : Int64) (v3 : Int64) : Int64 := ((own_f5b_132 u2 v2 u1 v1 u0 v0 u4 v4 u3 v3) &&& (4503599627370495 : Int64))
def own_f5b_v1_3 (u3 : Int64) (v3 : Int64) (u2 : Int64) (v2 : Int64) (u1 : Int64) (v1 : Int64) (u0 : Int64) (v0 : Int64) (u4 : Int64) (v4 : Int64) : Int64 := ((own_f5b_155 u3 v3 u2 v2 u1 v1 u0 v0 u4 v4) &&& (4503599627370495 : Int64))
def own_f5b_v1_4 (u4 : Int64) (v4 : Int64) (u3 : Int64) (v3 : Int64) (u2 : Int64) (v2 : Int64) (u1 : Int64) (v1 : Int64) (u0 : Int64) (v0 : Int64) : Int64 := (own_f5b_174 u4 v4 u3 v3 u2 v2 u1 v1 u0 v0)
theorem own_ef5b (m : MethodId) (a0 : Addr) (a1 : Addr) : entryFrame m #[(.ref a0), (.ref a1), (.ref a1)] 15 = (mkF m 0 #[.val (.ref a0), .val (.ref a1), .val (.ref a1), .unset, .unset, .unset, .unset, .unset, .unset, .unset, .unset, .unset, .unset, .unset, .unset] []) := by first | (simp [entryFrame, mkF, argsToLocals, Value.category]; done) | rfl
set_option maxRecDepth 65536 in
set_option maxHeartbeats 40000000 in
theorem rm5b (l : Launch) (Z : State) (av0 : Array Value) (hw : ∀ d ∈ tables_1, d.before av0 Z = true) (ws : List Jvm.Cond) (a0 : Addr) (a1 : Addr) (pl : Addr) (kp : ClassId) (k0 : ClassId) (k1 : ClassId) (u0 : Int64) (u1 : Int64) (u2 : Int64) (u3 : Int64) (u4 : Int64) (v0 : Int64) (v1 : Int64) (v2 : Int64) (v3 : Int64) (v4 : Int64) (h0 : Heap) (n0 : Nat) (Z0 : n0 ≤ h0.size) (gw : n0 ≤ a1) (nep : pl ≠ a1) (ne1 : a0 ≠ a1) (V0 : Arv Z h0 a0 k0 .long (5 : Int32) [(.long u0), (.long u1), (.long u2), (.long u3), (.long u4)] (.long (0 : Int64))) (V1 : Arv Z h0 a1 k1 .long (5 : Int32) [(.long v0), (.long v1), (.long v2), (.long v3), (.long v4)] (.long (0 : Int64))) (Sp : Sta Z h0 "com/example/rxrelay/rxrelay/protocol/gm/Sm2Field" "P_LIMBS" "[J" (.ref pl)) (Vp : Arv Z h0 pl kp .long (5 : Int32) [(.long (4503599627370495 : Int64)), (.long (4486007441330175 : Int64)), (.long (4503599627370495 : Int64)), (.long (4503599627370495 : Int64)), (.long (281474976645119 : Int64))] (.long (0 : Int64))) :
    MetFree l (⟨"com/example/rxrelay/rxrelay/protocol/gm/Sm2Field", "subtract", "([J[J[J)V"⟩ : MethodName) (head1 (Jvm.Cond.code (⟨"com/example/rxrelay/rxrelay/protocol/gm/Sm2Field", "subtract", "([J[J[J)V"⟩ : MethodName) prog_33_method_10_code 15 none :: ws) ({ frames := 0, cells := 0, slots := 0, locals := 0 } : Room)) (fun a U => a = #[(.ref a0), (.ref a1), (.ref a1)] ∧ Z.Warmed39 U.vm ∧ U.heap = h0) (fun _ _ _ _ _ => True) (fun _ U o U' => ∃ v L, o = .returned v ∧ own_Q n0 (fun h => Keep h0 h [a1] ∧ Arv Z h a1 k1 .long (5 : Int32) [(.long (own_f5b_v1_0 u0 v0 u4 v4 u3 v3 u2 v2 u1 v1)), (.long (own_f5b_v1_1 u1 v1 u0 v0 u4 v4 u3 v3 u2 v2)), (.long (own_f5b_v1_2 u2 v2 u1 v1 u0 v0 u4 v4 u3 v3)), (.long (own_f5b_v1_3 u3 v3 u2 v2 u1 v1 u0 v0 u4 v4)), (.long (own_f5b_v1_4 u4 v4 u3 v3 u2 v2 u1 v1 u0 v0))] (.long (0 : Int64))) none v U'.heap L ∧ FrameEnd U o U' L ({ frames := 0, cells := 0, slots := 0, locals := 0 } : Room).cells ({ frames := 0, cells := 0, slots := 0, locals := 0 } : Room).slots) := by
  refine MetFree.of_bodySF (plainFor_of_name own_pn1) hisR ?_
  intro p e s m args below meth c s₁ Bd hml0 hP hK
  obtain ⟨rfl, hZ, hh⟩ := hP
  have hx := Bd.exec
  have hby := Bd.bytes
  have hml : c.maxLocals = 15 := hml0
  have hown : s.vm.findClass "com/example/rxrelay/rxrelay/protocol/gm/Sm2Field" = some m.cls := findClass_of_methodNamed Bd.named
  have hnm := (name_of_methodNamed Bd.named Bd.method).1
  have hret := Bd.returns
  have hlk : meth.locks = false := BodyLoose.notSynchronized Bd
  have X0 : Stand p l e ({ frames := 0, cells := 0, slots := 0, locals := 0 } : Room) s m #[(.ref a0), (.ref a1), (.ref a1)] below meth c s₁ [] 0 0 := Stand.of_body Bd
  have e0 : s₁.heap = h0 := by rw [← hh, Bd.state]; rfl
  have N0 := Fr.nil n0
  clear Bd hh hK
  refine own_fin ?_
  refine own_entry (own_ef5b m a0 a1) ?_
  show own_Run p e below s₁ (mkF m 0 #[.val (.ref a0), .val (.ref a1), .val (.ref a1), .unset, .unset, .unset, .unset, .unset, .unset, .unset, .unset, .unset, .unset, .unset, .unset] []) _
  refine own_step (fun t k => XS.aloadN X0.here hx rfl (hb hby own_d5_0) rfl rfl k) ?_
  refine own_step (fun t k => XS.iconst X0.here hx rfl (hb hby own_d5_1) k) ?_
  refine own_step (own_ldJ X0 hx hZ e0 V0 (j := (0 : Int32)) (v := (.long u0)) ⟨by decide, by decide⟩ rfl (g := (mkF m 2 #[.val (.ref a0), .val (.ref a1), .val (.ref a1), .unset, .unset, .unset, .unset, .unset, .unset, .unset, .unset, .unset, .unset, .unset, .unset] [(.int (0 : Int32)), (.ref a0)])) rfl rfl (hb hby own_d5_2)) ?_
  show own_Run p e below s₁ (mkF m 3 #[.val (.ref a0), .val (.ref a1), .val (.ref a1), .unset, .unset, .unset, .unset, .unset, .unset, .unset, .unset, .unset, .unset, .unset, .unset] [(.long u0)]) _
  refine own_step (fun t k => XS.aloadN X0.here hx rfl (hb hby own_d5_3) rfl rfl k) ?_
  refine own_step (fun t k => XS.iconst X0.here hx rfl (hb hby own_d5_4) k) ?_
  refine own_step (own_ldJ X0 hx hZ e0 V1 (j := (0 : Int32)) (v := (.long v0)) ⟨by decide, by decide⟩ rfl (g := (mkF m 5 #[.val (.ref a0), .val (.ref a1), .val (.ref a1), .unset, .unset, .unset, .unset, .unset, .unset, .unset, .unset, .unset, .unset, .unset, .unset] [(.int (0 : Int32)), (.ref a1), (.long u0)])) rfl rfl (hb hby own_d5_5)) ?_
  show own_Run p e below s₁ (mkF m 6 #[.val (.ref a0), .val (.ref a1), .val (.ref a1), .unset, .unset, .unset, .unset, .unset, .unset, .unset, .unset, .unset, .unset, .unset, .unset] [(.long v0), (.long u0)]) _
  refine own_step (fun t k => XS.lsub X0.here hx rfl (hb hby own_d5_6) rfl k) ?_
  show own_Run p e below s₁ (mkF m 7 #[.val (.ref a0), .val (.ref a1), .val (.ref a1), .unset, .unset, .unset, .unset, .unset, .unset, .unset, .unset, .unset, .unset, .unset, .unset] [(.long (u0 - v0))]) _
  refine own_step (fun t k => XS.lstoreN X0.here hx rfl (hb hby own_d5_7) rfl (l' := #[.val (.ref a0), .val (.ref a1), .val (.ref a1), .val (.long (u0 - v0)), .second, .unset, .unset, .unset, .unset, .unset, .unset, .unset, .unset, .unset, .unset]) rfl k) ?_
  show own_Run p e below s₁ (mkF m 8 #[.val (.ref a0), .val (.ref a1), .val (.ref a1), .val (.long (u0 - v0)), .second, .unset, .unset, .unset, .unset, .unset, .unset, .unset, .unset, .unset, .unset] []) _
  refine own_step (fun t k => XS.aloadN X0.here hx rfl (hb hby own_d5_8) rfl rfl k) ?_
  refine own_step (fun t k => XS.iconst X0.here hx rfl (hb hby own_d5_9) k) ?_
  refine own_step (own_ldJ X0 hx hZ e0 V0 (j := (1 : Int32)) (v := (.long u1)) ⟨by decide, by decide⟩ rfl (g := (mkF m 10 #[.val (.ref a0), .val (.ref a1), .val (.ref a1), .val (.long (u0 - v0)), .second, .unset, .unset, .unset, .unset, .unset, .unset, .unset, .unset, .unset, .unset] [(.int (1 : Int32)), (.ref a0)])) rfl rfl (hb hby own_d5_10)) ?_
  show own_Run p e below s₁ (mkF m 11 #[.val (.ref a0), .val (.ref a1), .val (.ref a1), .val (.long (u0 - v0)), .second, .unset, .unset, .unset, .unset, .unset, .unset, .unset, .unset, .unset, .unset] [(.long u1)]) _
  refine own_step (fun t k => XS.aloadN X0.here hx rfl (hb hby own_d5_11) rfl rfl k) ?_
  refine own_step (fun t k => XS.iconst X0.here hx rfl (hb hby own_d5_12) k) ?_
  refine own_step (own_ldJ X0 hx hZ e0 V1 (j := (1 : Int32)) (v := (.long v1)) ⟨by decide, by decide⟩ rfl (g := (mkF m 13 #[.val (.ref a0), .val (.ref a1), .val (.ref a1), .val (.long (u0 - v0)), .second, .unset, .unset, .unset, .unset, .unset, .unset, .unset, .unset, .unset, .unset] [(.int (1 : Int32)), (.ref a1), (.long u1)])) rfl rfl (hb hby own_d5_13)) ?_
  show own_Run p e below s₁ (mkF m 14 #[.val (.ref a0), .val (.ref a1), .val (.ref a1), .val (.long (u0 - v0)), .second, .unset, .unset, .unset, .unset, .unset, .unset, .unset, .unset, .unset, .unset] [(.long v1), (.long u1)]) _
  refine own_step (fun t k => XS.lsub X0.here hx rfl (hb hby own_d5_14) rfl k) ?_
  show own_Run p e below s₁ (mkF m 15 #[.val (.ref a0), .val (.ref a1), .val (.ref a1), .val (.long (u0 - v0)), .second, .unset, .unset, .unset, .unset, .unset, .unset, .unset, .unset, .unset, .unset] [(.long (u1 - v1))]) _
  refine own_step (fun t k => XS.lloadN X0.here hx rfl (hb hby own_d5_15) rfl  k) ?_
  refine own_step (fun t k => XS.bipush X0.here hx rfl (hb hby own_d5_16) k) ?_
  refine own_step (fun t k => XS.lshr X0.here hx rfl (hb hby own_d5_18) rfl k) ?_
  show own_Run p e below s₁ (mkF m 19 #[.val (.ref a0), .val (.ref a1), .val (.ref a1), .val (.long (u0 - v0)), .second, .unset, .unset, .unset, .unset, .unset, .unset, .unset, .unset, .unset, .unset] [(.long (own_shrL (u0 - v0) (52 : Int32))), (.long (u1 - v1))]) _
  refine own_step (fun t k => XS.ladd X0.here hx rfl (hb hby own_d5_19) rfl k) ?_
  show own_Run p e below s₁ (mkF m 20 #[.val (.ref a0), .val (.ref a1), .val (.ref a1), .val (.long (u0 - v0)), .second, .unset, .unset, .unset, .unset, .unset, .unset, .unset, .unset, .unset, .unset] [(.long ((u1 - v1) + (own_shrL (u0 - v0) (52 : Int32))))]) _
  obtain ⟨t36, ht36⟩ : ∃ z : Int64, z = ((u1 - v1) + (own_shrL (u0 - v0) (52 : Int32))) := ⟨_, rfl⟩
  refine own_step (fun t k => XS.lstore X0.here hx rfl (hb hby own_d5_20) rfl (l' := #[.val (.ref a0), .val (.ref a1), .val (.ref a1), .val (.long (u0 - v0)), .second, .val (.long t36), .second, .unset, .unset, .unset, .unset, .unset, .unset, .unset, .unset]) (by subst ht36; rfl) k) ?_
  show own_Run p e below s₁ (mkF m 22 #[.val (.ref a0), .val (.ref a1), .val (.ref a1), .val (.long (u0 - v0)), .second, .val (.long t36), .second, .unset, .unset, .unset, .unset, .unset, .unset, .unset, .unset] []) _
  refine own_step (fun t k => XS.aloadN X0.here hx rfl (hb hby own_d5_22) rfl rfl k) ?_
  refine own_step (fun t k => XS.iconst X0.here hx rfl (hb hby own_d5_23) k) ?_
  refine own_step (own_ldJ X0 hx hZ e0 V0 (j := (2 : Int32)) (v := (.long u2)) ⟨by decide, by decide⟩ rfl (g := (mkF m 24 #[.val (.ref a0), .val (.ref a1), .val (.ref a1), .val (.long (u0 - v0)), .second, .val (.long t36), .second, .unset, .unset, .unset, .unset, .unset, .unset, .unset, .unset] [(.int (2 : Int32)), (.ref a0)])) rfl rfl (hb hby own_d5_24)) ?_
  show own_Run p e below s₁ (mkF m 25 #[.val (.ref a0), .val (.ref a1), .val (.ref a1), .val (.long (u0 - v0)), .second, .val (.long t36), .second, .unset, .unset, .unset, .unset, .unset, .unset, .unset, .unset] [(.long u2)]) _
  refine own_step (fun t k => XS.aloadN X0.here hx rfl (hb hby own_d5_25) rfl rfl k) ?_
  refine own_step (fun t k => XS.iconst X0.here hx rfl (hb hby own_d5_26) k) ?_
  refine own_step (own_ldJ X0 hx hZ e0 V1 (j := (2 : Int32)) (v := (.long v2)) ⟨by decide, by decide⟩ rfl (g := (mkF m 27 #[.val (.ref a0), .val (.ref a1), .val (.ref a1), .val (.long (u0 - v0)), .second, .val (.long t36), .second, .unset, .unset, .unset, .unset, .unset, .unset, .unset, .unset] [(.int (2 : Int32)), (.ref a1), (.long u2)])) rfl rfl (hb hby own_d5_27)) ?_
  show own_Run p e below s₁ (mkF m 28 #[.val (.ref a0), .val (.ref a1), .val (.ref a1), .val (.long (u0 - v0)), .second, .val (.long t36), .second, .unset, .unset, .unset, .unset, .unset, .unset, .unset, .unset] [(.long v2), (.long u2)]) _
  refine own_step (fun t k => XS.lsub X0.here hx rfl (hb hby own_d5_28) rfl k) ?_
  show own_Run p e below s₁ (mkF m 29 #[.val (.ref a0), .val (.ref a1), .val (.ref a1), .val (.long (u0 - v0)), .second, .val (.long t36), .second, .unset, .unset, .unset, .unset, .unset, .unset, .unset, .unset] [(.long (u2 - v2))]) _
  refine own_step (fun t k => XS.lload X0.here hx rfl (hb hby own_d5_29) rfl  k) ?_
  refine own_step (fun t k => XS.bipush X0.here hx rfl (hb hby own_d5_31) k) ?_
  refine own_step (fun t k => XS.lshr X0.here hx rfl (hb hby own_d5_33) rfl k) ?_
  show own_Run p e below s₁ (mkF m 34 #[.val (.ref a0), .val (.ref a1), .val (.ref a1), .val (.long (u0 - v0)), .second, .val (.long t36), .second, .unset, .unset, .unset, .unset, .unset, .unset, .unset, .unset] [(.long (own_shrL t36 (52 : Int32))), (.long (u2 - v2))]) _
  refine own_step (fun t k => XS.ladd X0.here hx rfl (hb hby own_d5_34) rfl k) ?_
  show own_Run p e below s₁ (mkF m 35 #[.val (.ref a0), .val (.ref a1), .val (.ref a1), .val (.long (u0 - v0)), .second, .val (.long t36), .second, .unset, .unset, .unset, .unset, .unset, .unset, .unset, .unset] [(.long ((u2 - v2) + (own_shrL t36 (52 : Int32))))]) _
  obtain ⟨t37, ht37⟩ : ∃ z : Int64, z = ((u2 - v2) + (own_shrL t36 (52 : Int32))) := ⟨_, rfl⟩
  refine own_step (fun t k => XS.lstore X0.here hx rfl (hb hby own_d5_35) rfl (l' := #[.val (.ref a0), .val (.ref a1), .val (.ref a1), .val (.long (u0 - v0)), .second, .val (.long t36), .second, .val (.long t37), .second, .unset, .unset, .unset, .unset, .unset, .unset]) (by subst ht37; rfl) k) ?_
  show own_Run p e below s₁ (mkF m 37 #[.val (.ref a0), .val (.ref a1), .val (.ref a1), .val (.long (u0 - v0)), .second, .val (.long t36), .second, .val (.long t37), .second, .unset, .unset, .unset, .unset, .unset, .unset] []) _
  refine own_step (fun t k => XS.aloadN X0.here hx rfl (hb hby own_d5_37) rfl rfl k) ?_
  refine own_step (fun t k => XS.iconst X0.here hx rfl (hb hby own_d5_38) k) ?_
  refine own_step (own_ldJ X0 hx hZ e0 V0 (j := (3 : Int32)) (v := (.long u3)) ⟨by decide, by decide⟩ rfl (g := (mkF m 39 #[.val (.ref a0), .val (.ref a1), .val (.ref a1), .val (.long (u0 - v0)), .second, .val (.long t36), .second, .val (.long t37), .second, .unset, .unset, .unset, .unset, .unset, .unset] [(.int (3 : Int32)), (.ref a0)])) rfl rfl (hb hby own_d5_39)) ?_
  show own_Run p e below s₁ (mkF m 40 #[.val (.ref a0), .val (.ref a1), .val (.ref a1), .val (.long (u0 - v0)), .second, .val (.long t36), .second, .val (.long t37), .second, .unset, .unset, .unset, .unset, .unset, .unset] [(.long u3)]) _
  refine own_step (fun t k => XS.aloadN X0.here hx rfl (hb hby own_d5_40) rfl rfl k) ?_
  refine own_step (fun t k => XS.iconst X0.here hx rfl (hb hby own_d5_41) k) ?_
  refine own_step (own_ldJ X0 hx hZ e0 V1 (j := (3 : Int32)) (v := (.long v3)) ⟨by decide, by decide⟩ rfl (g := (mkF m 42 #[.val (.ref a0), .val (.ref a1), .val (.ref a1), .val (.long (u0 - v0)), .second, .val (.long t36), .second, .val (.long t37), .second, .unset, .unset, .unset, .unset, .unset, .unset] [(.int (3 : Int32)), (.ref a1), (.long u3)])) rfl rfl (hb hby own_d5_42)) ?_
  show own_Run p e below s₁ (mkF m 43 #[.val (.ref a0), .val (.ref a1), .val (.ref a1), .val (.long (u0 - v0)), .second, .val (.long t36), .second, .val (.long t37), .second, .unset, .unset, .unset, .unset, .unset, .unset] [(.long v3), (.long u3)]) _
  refine own_step (fun t k => XS.lsub X0.here hx rfl (hb hby own_d5_43) rfl k) ?_
  show own_Run p e below s₁ (mkF m 44 #[.val (.ref a0), .val (.ref a1), .val (.ref a1), .val (.long (u0 - v0)), .second, .val (.long t36), .second, .val (.long t37), .second, .unset, .unset, .unset, .unset, .unset, .unset] [(.long (u3 - v3))]) _
  refine own_step (fun t k => XS.lload X0.here hx rfl (hb hby own_d5_44) rfl  k) ?_
  refine own_step (fun t k => XS.bipush X0.here hx rfl (hb hby own_d5_46) k) ?_
  refine own_step (fun t k => XS.lshr X0.here hx rfl (hb hby own_d5_48) rfl k) ?_
  show own_Run p e below s₁ (mkF m 49 #[.val (.ref a0), .val (.ref a1), .val (.ref a1), .val (.long (u0 - v0)), .second, .val (.long t36), .second, .val (.long t37), .second, .unset, .unset, .unset, .unset, .unset, .unset] [(.long (own_shrL t37 (52 : Int32))), (.long (u3 - v3))]) _
  refine own_step (fun t k => XS.ladd X0.here hx rfl (hb hby own_d5_49) rfl k) ?_
  show own_Run p e below s₁ (mkF m 50 #[.val (.ref a0), .val (.ref a1), .val (.ref a1), .val (.long (u0 - v0)), .second, .val (.long t36), .second, .val (.long t37), .second, .unset, .unset, .unset, .unset, .unset, .unset] [(.long ((u3 - v3) + (own_shrL t37 (52 : Int32))))]) _
  obtain ⟨t38, ht38⟩ : ∃ z : Int64, z = ((u3 - v3) + (own_shrL t37 (52 : Int32))) := ⟨_, rfl⟩
  refine own_step (fun t k => XS.lstore X0.here hx rfl (hb hby own_d5_50) rfl (l' := #[.val (.ref a0), .val (.ref a1), .val (.ref a1), .val (.long (u0 - v0)), .second, .val (.long t36), .second, .val (.long t37), .second, .val (.long t38), .second, .unset, .unset, .unset, .unset]) (by subst ht38; rfl) k) ?_
  show own_Run p e below s₁ (mkF m 52 #[.val (.ref a0), .val (.ref a1), .val (.ref a1), .val (.long (u0 - v0)), .second, .val (.long t36), .second, .val (.long t37), .second, .val (.long t38), .second, .unset, .unset, .unset, .unset] []) _
  refine own_step (fun t k => XS.aloadN X0.here hx rfl (hb hby own_d5_52) rfl rfl k) ?_
  refine own_step (fun t k => XS.iconst X0.here hx rfl (hb hby own_d5_53) k) ?_
  refine own_step (own_ldJ X0 hx hZ e0 V0 (j := (4 : Int32)) (v := (.long u4)) ⟨by decide, by decide⟩ rfl (g := (mkF m 54 #[.val (.ref a0), .val (.ref a1), .val (.ref a1), .val (.long (u0 - v0)), .second, .val (.long t36), .second, .val (.long t37), .second, .val (.long t38), .second, .unset, .unset, .unset, .unset] [(.int (4 : Int32)), (.ref a0)])) rfl rfl (hb hby own_d5_54)) ?_
  show own_Run p e below s₁ (mkF m 55 #[.val (.ref a0), .val (.ref a1), .val (.ref a1), .val (.long (u0 - v0)), .second, .val (.long t36), .second, .val (.long t37), .second, .val (.long t38), .second, .unset, .unset, .unset, .unset] [(.long u4)]) _
  refine own_step (fun t k => XS.aloadN X0.here hx rfl (hb hby own_d5_55) rfl rfl k) ?_
  refine own_step (fun t k => XS.iconst X0.here hx rfl (hb hby own_d5_56) k) ?_
  refine own_step (own_ldJ X0 hx hZ e0 V1 (j := (4 : Int32)) (v := (.long v4)) ⟨by decide, by decide⟩ rfl (g := (mkF m 57 #[.val (.ref a0), .val (.ref a1), .val (.ref a1), .val (.long (u0 - v0)), .second, .val (.long t36), .second, .val (.long t37), .second, .val (.long t38), .second, .unset, .unset, .unset, .unset] [(.int (4 : Int32)), (.ref a1), (.long u4)])) rfl rfl (hb hby own_d5_57)) ?_
  show own_Run p e below s₁ (mkF m 58 #[.val (.ref a0), .val (.ref a1), .val (.ref a1), .val (.long (u0 - v0)), .second, .val (.long t36), .second, .val (.long t37), .second, .val (.long t38), .second, .unset, .unset, .unset, .unset] [(.long v4), (.long u4)]) _
  refine own_step (fun t k => XS.lsub X0.here hx rfl (hb hby own_d5_58) rfl k) ?_
  show own_Run p e below s₁ (mkF m 59 #[.val (.ref a0), .val (.ref a1), .val (.ref a1), .val (.long (u0 - v0)), .second, .val (.long t36), .second, .val (.long t37), .second, .val (.long t38), .second, .unset, .unset, .unset, .unset] [(.long (u4 - v4))]) _
  refine own_step (fun t k => XS.lload X0.here hx rfl (hb hby own_d5_59) rfl  k) ?_
  refine own_step (fun t k => XS.bipush X0.here hx rfl (hb hby own_d5_61) k) ?_
  refine own_step (fun t k => XS.lshr X0.here hx rfl (hb hby own_d5_63) rfl k) ?_
  show own_Run p e below s₁ (mkF m 64 #[.val (.ref a0), .val (.ref a1), .val (.ref a1), .val (.long (u0 - v0)), .second, .val (.long t36), .second, .val (.long t37), .second, .val (.long t38), .second, .unset, .unset, .unset, .unset] [(.long (own_shrL t38 (52 : Int32))), (.long (u4 - v4))]) _
  refine own_step (fun t k => XS.ladd X0.here hx rfl (hb hby own_d5_64) rfl k) ?_
  show own_Run p e below s₁ (mkF m 65 #[.val (.ref a0), .val (.ref a1), .val (.ref a1), .val (.long (u0 - v0)), .second, .val (.long t36), .second, .val (.long t37), .second, .val (.long t38), .second, .unset, .unset, .unset, .unset] [(.long ((u4 - v4) + (own_shrL t38 (52 : Int32))))]) _
  obtain ⟨t39, ht39⟩ : ∃ z : Int64, z = ((u4 - v4) + (own_shrL t38 (52 : Int32))) := ⟨_, rfl⟩
  refine own_step (fun t k => XS.lstore X0.here hx rfl (hb hby own_d5_65) rfl (l' := #[.val (.ref a0), .val (.ref a1), .val (.ref a1), .val (.long (u0 - v0)), .second, .val (.long t36), .second, .val (.long t37), .second, .val (.long t38), .second, .val (.long t39), .second, .unset, .unset]) (by subst ht39; rfl) k) ?_
  show own_Run p e below s₁ (mkF m 67 #[.val (.ref a0), .val (.ref a1), .val (.ref a1), .val (.long (u0 - v0)), .second, .val (.long t36), .second, .val (.long t37), .second, .val (.long t38), .second, .val (.long t39), .second, .unset, .unset] []) _
  refine own_step (fun t k => XS.lload X0.here hx rfl (hb hby own_d5_67) rfl  k) ?_
  refine own_step (fun t k => XS.bipush X0.here hx rfl (hb hby own_d5_69) k) ?_
  refine own_step (fun t k => XS.lshr X0.here hx rfl (hb hby own_d5_71) rfl k) ?_
  show own_Run p e below s₁ (mkF m 72 #[.val (.ref a0), .val (.ref a1), .val (.ref a1), .val (.long (u0 - v0)), .second, .val (.long t36), .second, .val (.long t37), .second, .val (.long t38), .second, .val (.long t39), .second, .unset, .unset] [(.long (own_shrL t39 (63 : Int32)))]) _
  obtain ⟨t40, ht40⟩ : ∃ z : Int64, z = (own_shrL t39 (63 : Int32)) := ⟨_, rfl⟩
  refine own_step (fun t k => XS.lstore X0.here hx rfl (hb hby own_d5_72) rfl (l' := #[.val (.ref a0), .val (.ref a1), .val (.ref a1), .val (.long (u0 - v0)), .second, .val (.long t36), .second, .val (.long t37), .second, .val (.long t38), .second, .val (.long t39), .second, .val (.long t40), .second]) (by subst ht40; rfl) k) ?_
  show own_Run p e below s₁ (mkF m 74 #[.val (.ref a0), .val (.ref a1), .val (.ref a1), .val (.long (u0 - v0)), .second, .val (.long t36), .second, .val (.long t37), .second, .val (.long t38), .second, .val (.long t39), .second, .val (.long t40), .second] []) _
  refine own_step (fun t k => XS.lloadN X0.here hx rfl (hb hby own_d5_74) rfl  k) ?_
  refine own_step (fun t k => X0.ldc2Long hx hown (mvT hZ (hw _ (List.mem_of_getElem? (i := 25) rfl))) (g := (mkF m 75 #[.val (.ref a0), .val (.ref a1), .val (.ref a1), .val (.long (u0 - v0)), .second, .val (.long t36), .second, .val (.long t37), .second, .val (.long t38), .second, .val (.long t39), .second, .val (.long t40), .second] [(.long (u0 - v0))])) rfl (hb hby own_d5_75) t k) ?_
  show own_Run p e below s₁ (mkF m 78 #[.val (.ref a0), .val (.ref a1), .val (.ref a1), .val (.long (u0 - v0)), .second, .val (.long t36), .second, .val (.long t37), .second, .val (.long t38), .second, .val (.long t39), .second, .val (.long t40), .second] [(.long (4503599627370495 : Int64)), (.long (u0 - v0))]) _
  refine own_step (fun t k => XS.land X0.here hx rfl (hb hby own_d5_78) rfl k) ?_
  show own_Run p e below s₁ (mkF m 79 #[.val (.ref a0), .val (.ref a1), .val (.ref a1), .val (.long (u0 - v0)), .second, .val (.long t36), .second, .val (.long t37), .second, .val (.long t38), .second, .val (.long t39), .second, .val (.long t40), .second] [(.long ((u0 - v0) &&& (4503599627370495 : Int64)))]) _
  obtain ⟨T41, X41, e41, st41⟩ := getS2 X0 hx hZ hown (host := "") (Or.inl (hw _ (List.mem_of_getElem? (i := 26) rfl))) Via.refl e0 Sp (g := (mkF m 79 #[.val (.ref a0), .val (.ref a1), .val (.ref a1), .val (.long (u0 - v0)), .second, .val (.long t36), .second, .val (.long t37), .second, .val (.long t38), .second, .val (.long t39), .second, .val (.long t40), .second] [(.long ((u0 - v0) &&& (4503599627370495 : Int64)))])) rfl (hb hby own_d5_79)
  refine own_step st41 ?_
  show own_Run p e below T41 (mkF m 82 #[.val (.ref a0), .val (.ref a1), .val (.ref a1), .val (.long (u0 - v0)), .second, .val (.long t36), .second, .val (.long t37), .second, .val (.long t38), .second, .val (.long t39), .second, .val (.long t40), .second] [(.ref pl), (.long ((u0 - v0) &&& (4503599627370495 : Int64)))]) _
  refine own_step (fun t k => XS.iconst X41.here hx rfl (hb hby own_d5_82) k) ?_
  refine own_step (own_ldJ X41 hx hZ e41 Vp (j := (0 : Int32)) (v := (.long (4503599627370495 : Int64))) ⟨by decide, by decide⟩ rfl (g := (mkF m 83 #[.val (.ref a0), .val (.ref a1), .val (.ref a1), .val (.long (u0 - v0)), .second, .val (.long t36), .second, .val (.long t37), .second, .val (.long t38), .second, .val (.long t39), .second, .val (.long t40), .second] [(.int (0 : Int32)), (.ref pl), (.long ((u0 - v0) &&& (4503599627370495 : Int64)))])) rfl rfl (hb hby own_d5_83)) ?_
  show own_Run p e below T41 (mkF m 84 #[.val (.ref a0), .val (.ref a1), .val (.ref a1), .val (.long (u0 - v0)), .second, .val (.long t36), .second, .val (.long t37), .second, .val (.long t38), .second, .val (.long t39), .second, .val (.long t40), .second] [(.long (4503599627370495 : Int64)), (.long ((u0 - v0) &&& (4503599627370495 : Int64)))]) _
  refine own_step (fun t k => XS.lload X41.here hx rfl (hb hby own_d5_84) rfl  k) ?_
  refine own_step (fun t k => XS.land X41.here hx rfl (hb hby own_d5_86) rfl k) ?_
  show own_Run p e below T41 (mkF m 87 #[.val (.ref a0), .val (.ref a1), .val (.ref a1), .val (.long (u0 - v0)), .second, .val (.long t36), .second, .val (.long t37), .second, .val (.long t38), .second, .val (.long t39), .second, .val (.long t40), .second] [(.long ((4503599627370495 : Int64) &&& t40)), (.long ((u0 - v0) &&& (4503599627370495 : Int64)))]) _
  refine own_step (fun t k => XS.ladd X41.here hx rfl (hb hby own_d5_87) rfl k) ?_
  show own_Run p e below T41 (mkF m 88 #[.val (.ref a0), .val (.ref a1), .val (.ref a1), .val (.long (u0 - v0)), .second, .val (.long t36), .second, .val (.long t37), .second, .val (.long t38), .second, .val (.long t39), .second, .val (.long t40), .second] [(.long (((u0 - v0) &&& (4503599627370495 : Int64)) + ((4503599627370495 : Int64) &&& t40)))]) _
  obtain ⟨t42, ht42⟩ : ∃ z : Int64, z = (((u0 - v0) &&& (4503599627370495 : Int64)) + ((4503599627370495 : Int64) &&& t40)) := ⟨_, rfl⟩
  refine own_step (fun t k => XS.lstoreN X41.here hx rfl (hb hby own_d5_88) rfl (l' := #[.val (.ref a0), .val (.ref a1), .val (.ref a1), .val (.long t42), .second, .val (.long t36), .second, .val (.long t37), .second, .val (.long t38), .second, .val (.long t39), .second, .val (.long t40), .second]) (by subst ht42; rfl) k) ?_
  show own_Run p e below T41 (mkF m 89 #[.val (.ref a0), .val (.ref a1), .val (.ref a1), .val (.long t42), .second, .val (.long t36), .second, .val (.long t37), .second, .val (.long t38), .second, .val (.long t39), .second, .val (.long t40), .second] []) _
  refine own_step (fun t k => XS.lload X41.here hx rfl (hb hby own_d5_89) rfl  k) ?_
  refine own_step (fun t k => X41.ldc2Long hx hown (mvT hZ (hw _ (List.mem_of_getElem? (i := 25) rfl))) (g := (mkF m 91 #[.val (.ref a0), .val (.ref a1), .val (.ref a1), .val (.long t42), .second, .val (.long t36), .second, .val (.long t37), .second, .val (.long t38), .second, .val (.long t39), .second, .val (.long t40), .second] [(.long t36)])) rfl (hb hby own_d5_91) t k) ?_
  show own_Run p e below T41 (mkF m 94 #[.val (.ref a0), .val (.ref a1), .val (.ref a1), .val (.long t42), .second, .val (.long t36), .second, .val (.long t37), .second, .val (.long t38), .second, .val (.long t39), .second, .val (.long t40), .second] [(.long (4503599627370495 : Int64)), (.long t36)]) _
  refine own_step (fun t k => XS.land X41.here hx rfl (hb hby own_d5_94) rfl k) ?_
  show own_Run p e below T41 (mkF m 95 #[.val (.ref a0), .val (.ref a1), .val (.ref a1), .val (.long t42), .second, .val (.long t36), .second, .val (.long t37), .second, .val (.long t38), .second, .val (.long t39), .second, .val (.long t40), .second] [(.long (t36 &&& (4503599627370495 : Int64)))]) _
  obtain ⟨T43, X43, e43, st43⟩ := getS2 X41 hx hZ hown (host := "") (Or.inl (hw _ (List.mem_of_getElem? (i := 26) rfl))) Via.refl e41 Sp (g := (mkF m 95 #[.val (.ref a0), .val (.ref a1), .val (.ref a1), .val (.long t42), .second, .val (.long t36), .second, .val (.long t37), .second, .val (.long t38), .second, .val (.long t39), .second, .val (.long t40), .second] [(.long (t36 &&& (4503599627370495 : Int64)))])) rfl (hb hby own_d5_95)
  refine own_step st43 ?_
  show own_Run p e below T43 (mkF m 98 #[.val (.ref a0), .val (.ref a1), .val (.ref a1), .val (.long t42), .second, .val (.long t36), .second, .val (.long t37), .second, .val (.long t38), .second, .val (.long t39), .second, .val (.long t40), .second] [(.ref pl), (.long (t36 &&& (4503599627370495 : Int64)))]) _
  refine own_step (fun t k => XS.iconst X43.here hx rfl (hb hby own_d5_98) k) ?_
  refine own_step (own_ldJ X43 hx hZ e43 Vp (j := (1 : Int32)) (v := (.long (4486007441330175 : Int64))) ⟨by decide, by decide⟩ rfl (g := (mkF m 99 #[.val (.ref a0), .val (.ref a1), .val (.ref a1), .val (.long t42), .second, .val (.long t36), .second, .val (.long t37), .second, .val (.long t38), .second, .val (.long t39), .second, .val (.long t40), .second] [(.int (1 : Int32)), (.ref pl), (.long (t36 &&& (4503599627370495 : Int64)))])) rfl rfl (hb hby own_d5_99)) ?_
  show own_Run p e below T43 (mkF m 100 #[.val (.ref a0), .val (.ref a1), .val (.ref a1), .val (.long t42), .second, .val (.long t36), .second, .val (.long t37), .second, .val (.long t38), .second, .val (.long t39), .second, .val (.long t40), .second] [(.long (4486007441330175 : Int64)), (.long (t36 &&& (4503599627370495 : Int64)))]) _
  refine own_step (fun t k => XS.lload X43.here hx rfl (hb hby own_d5_100) rfl  k) ?_
  refine own_step (fun t k => XS.land X43.here hx rfl (hb hby own_d5_102) rfl k) ?_
  show own_Run p e below T43 (mkF m 103 #[.val (.ref a0), .val (.ref a1), .val (.ref a1), .val (.long t42), .second, .val (.long t36), .second, .val (.long t37), .second, .val (.long t38), .second, .val (.long t39), .second, .val (.long t40), .second] [(.long ((4486007441330175 : Int64) &&& t40)), (.long (t36 &&& (4503599627370495 : Int64)))]) _
  refine own_step (fun t k => XS.ladd X43.here hx rfl (hb hby own_d5_103) rfl k) ?_
  show own_Run p e below T43 (mkF m 104 #[.val (.ref a0), .val (.ref a1), .val (.ref a1), .val (.long t42), .second, .val (.long t36), .second, .val (.long t37), .second, .val (.long t38), .second, .val (.long t39), .second, .val (.long t40), .second] [(.long ((t36 &&& (4503599627370495 : Int64)) + ((4486007441330175 : Int64) &&& t40)))]) _
  refine own_step (fun t k => XS.lloadN X43.here hx rfl (hb hby own_d5_104) rfl  k) ?_
  refine own_step (fun t k => XS.bipush X43.here hx rfl (hb hby own_d5_105) k) ?_
  refine own_step (fun t k => XS.lshr X43.here hx rfl (hb hby own_d5_107) rfl k) ?_
  show own_Run p e below T43 (mkF m 108 #[.val (.ref a0), .val (.ref a1), .val (.ref a1), .val (.long t42), .second, .val (.long t36), .second, .val (.long t37), .second, .val (.long t38), .second, .val (.long t39), .second, .val (.long t40), .second] [(.long (own_shrL t42 (52 : Int32))), (.long ((t36 &&& (4503599627370495 : Int64)) + ((4486007441330175 : Int64) &&& t40)))]) _
  refine own_step (fun t k => XS.ladd X43.here hx rfl (hb hby own_d5_108) rfl k) ?_
  show own_Run p e below T43 (mkF m 109 #[.val (.ref a0), .val (.ref a1), .val (.ref a1), .val (.long t42), .second, .val (.long t36), .second, .val (.long t37), .second, .val (.long t38), .second, .val (.long t39), .second, .val (.long t40), .second] [(.long (((t36 &&& (4503599627370495 : Int64)) + ((4486007441330175 : Int64) &&& t40)) + (own_shrL t42 (52 : Int32))))]) _
  obtain ⟨t44, ht44⟩ : ∃ z : Int64, z = (((t36 &&& (4503599627370495 : Int64)) + ((4486007441330175 : Int64) &&& t40)) + (own_shrL t42 (52 : Int32))) := ⟨_, rfl⟩
  refine own_step (fun t k => XS.lstore X43.here hx rfl (hb hby own_d5_109) rfl (l' := #[.val (.ref a0), .val (.ref a1), .val (.ref a1), .val (.long t42), .second, .val (.long t44), .second, .val (.long t37), .second, .val (.long t38), .second, .val (.long t39), .second, .val (.long t40), .second]) (by subst ht44; rfl) k) ?_
  show own_Run p e below T43 (mkF m 111 #[.val (.ref a0), .val (.ref a1), .val (.ref a1), .val (.long t42), .second, .val (.long t44), .second, .val (.long t37), .second, .val (.long t38), .second, .val (.long t39), .second, .val (.long t40), .second] []) _
  refine own_step (fun t k => XS.lload X43.here hx rfl (hb hby own_d5_111) rfl  k) ?_
  refine own_step (fun t k => X43.ldc2Long hx hown (mvT hZ (hw _ (List.mem_of_getElem? (i := 25) rfl))) (g := (mkF m 113 #[.val (.ref a0), .val (.ref a1), .val (.ref a1), .val (.long t42), .second, .val (.long t44), .second, .val (.long t37), .second, .val (.long t38), .second, .val (.long t39), .second, .val (.long t40), .second] [(.long t37)])) rfl (hb hby own_d5_113) t k) ?_
  show own_Run p e below T43 (mkF m 116 #[.val (.ref a0), .val (.ref a1), .val (.ref a1), .val (.long t42), .second, .val (.long t44), .second, .val (.long t37), .second, .val (.long t38), .second, .val (.long t39), .second, .val (.long t40), .second] [(.long (4503599627370495 : Int64)), (.long t37)]) _
  refine own_step (fun t k => XS.land X43.here hx rfl (hb hby own_d5_116) rfl k) ?_
  show own_Run p e below T43 (mkF m 117 #[.val (.ref a0), .val (.ref a1), .val (.ref a1), .val (.long t42), .second, .val (.long t44), .second, .val (.long t37), .second, .val (.long t38), .second, .val (.long t39), .second, .val (.long t40), .second] [(.long (t37 &&& (4503599627370495 : Int64)))]) _
  obtain ⟨T45, X45, e45, st45⟩ := getS2 X43 hx hZ hown (host := "") (Or.inl (hw _ (List.mem_of_getElem? (i := 26) rfl))) Via.refl e43 Sp (g := (mkF m 117 #[.val (.ref a0), .val (.ref a1), .val (.ref a1), .val (.long t42), .second, .val (.long t44), .second, .val (.long t37), .second, .val (.long t38), .second, .val (.long t39), .second, .val (.long t40), .second] [(.long (t37 &&& (4503599627370495 : Int64)))])) rfl (hb hby own_d5_117)
  refine own_step st45 ?_
  show own_Run p e below T45 (mkF m 120 #[.val (.ref a0), .val (.ref a1), .val (.ref a1), .val (.long t42), .second, .val (.long t44), .second, .val (.long t37), .second, .val (.long t38), .second, .val (.long t39), .second, .val (.long t40), .second] [(.ref pl), (.long (t37 &&& (4503599627370495 : Int64)))]) _
  refine own_step (fun t k => XS.iconst X45.here hx rfl (hb hby own_d5_120) k) ?_
  refine own_step (own_ldJ X45 hx hZ e45 Vp (j := (2 : Int32)) (v := (.long (4503599627370495 : Int64))) ⟨by decide, by decide⟩ rfl (g := (mkF m 121 #[.val (.ref a0), .val (.ref a1), .val (.ref a1), .val (.long t42), .second, .val (.long t44), .second, .val (.long t37), .second, .val (.long t38), .second, .val (.long t39), .second, .val (.long t40), .second] [(.int (2 : Int32)), (.ref pl), (.long (t37 &&& (4503599627370495 : Int64)))])) rfl rfl (hb hby own_d5_121)) ?_
  show own_Run p e below T45 (mkF m 122 #[.val (.ref a0), .val (.ref a1), .val (.ref a1), .val (.long t42), .second, .val (.long t44), .second, .val (.long t37), .second, .val (.long t38), .second, .val (.long t39), .second, .val (.long t40), .second] [(.long (4503599627370495 : Int64)), (.long (t37 &&& (4503599627370495 : Int64)))]) _
  refine own_step (fun t k => XS.lload X45.here hx rfl (hb hby own_d5_122) rfl  k) ?_
  refine own_step (fun t k => XS.land X45.here hx rfl (hb hby own_d5_124) rfl k) ?_
  show own_Run p e below T45 (mkF m 125 #[.val (.ref a0), .val (.ref a1), .val (.ref a1), .val (.long t42), .second, .val (.long t44), .second, .val (.long t37), .second, .val (.long t38), .second, .val (.long t39), .second, .val (.long t40), .second] [(.long ((4503599627370495 : Int64) &&& t40)), (.long (t37 &&& (4503599627370495 : Int64)))]) _
  refine own_step (fun t k => XS.ladd X45.here hx rfl (hb hby own_d5_125) rfl k) ?_
  show own_Run p e below T45 (mkF m 126 #[.val (.ref a0), .val (.ref a1), .val (.ref a1), .val (.long t42), .second, .val (.long t44), .second, .val (.long t37), .second, .val (.long t38), .second, .val (.long t39), .second, .val (.long t40), .second] [(.long ((t37 &&& (4503599627370495 : Int64)) + ((4503599627370495 : Int64) &&& t40)))]) _
  refine own_step (fun t k => XS.lload X45.here hx rfl (hb hby own_d5_126) rfl  k) ?_
  refine own_step (fun t k => XS.bipush X45.here hx rfl (hb hby own_d5_128) k) ?_
  refine own_step (fun t k => XS.lshr X45.here hx rfl (hb hby own_d5_130) rfl k) ?_
  show own_Run p e below T45 (mkF m 131 #[.val (.ref a0), .val (.ref a1), .val (.ref a1), .val (.long t42), .second, .val (.long t44), .second, .val (.long t37), .second, .val (.long t38), .second, .val (.long t39), .second, .val (.long t40), .second] [(.long (own_shrL t44 (52 : Int32))), (.long ((t37 &&& (4503599627370495 : Int64)) + ((4503599627370495 : Int64) &&& t40)))]) _
  refine own_step (fun t k => XS.ladd X45.here hx rfl (hb hby own_d5_131) rfl k) ?_
  show own_Run p e below T45 (mkF m 132 #[.val (.ref a0), .val (.ref a1), .val (.ref a1), .val (.long t42), .second, .val (.long t44), .second, .val (.long t37), .second, .val (.long t38), .second, .val (.long t39), .second, .val (.long t40), .second] [(.long (((t37 &&& (4503599627370495 : Int64)) + ((4503599627370495 : Int64) &&& t40)) + (own_shrL t44 (52 : Int32))))]) _
  obtain ⟨t46, ht46⟩ : ∃ z : Int64, z = (((t37 &&& (4503599627370495 : Int64)) + ((4503599627370495 : Int64) &&& t40)) + (own_shrL t44 (52 : Int32))) := ⟨_, rfl⟩
  refine own_step (fun t k => XS.lstore X45.here hx rfl (hb hby own_d5_132) rfl (l' := #[.val (.ref a0), .val (.ref a1), .val (.ref a1), .val (.long t42), .second, .val (.long t44), .second, .val (.long t46), .second, .val (.long t38), .second, .val (.long t39), .second, .val (.long t40), .second]) (by subst ht46; rfl) k) ?_
  show own_Run p e below T45 (mkF m 134 #[.val (.ref a0), .val (.ref a1), .val (.ref a1), .val (.long t42), .second, .val (.long t44), .second, .val (.long t46), .second, .val (.long t38), .second, .val (.long t39), .second, .val (.long t40), .second] []) _
  refine own_step (fun t k => XS.lload X45.here hx rfl (hb hby own_d5_134) rfl  k) ?_
  refine own_step (fun t k => X45.ldc2Long hx hown (mvT hZ (hw _ (List.mem_of_getElem? (i := 25) rfl))) (g := (mkF m 136 #[.val (.ref a0), .val (.ref a1), .val (.ref a1), .val (.long t42), .second, .val (.long t44), .second, .val (.long t46), .second, .val (.long t38), .second, .val (.long t39), .second, .val (.long t40), .second] [(.long t38)])) rfl (hb hby own_d5_136) t k) ?_
  show own_Run p e below T45 (mkF m 139 #[.val (.ref a0), .val (.ref a1), .val (.ref a1), .val (.long t42), .second, .val (.long t44), .second, .val (.long t46), .second, .val (.long t38), .second, .val (.long t39), .second, .val (.long t40), .second] [(.long (4503599627370495 : Int64)), (.long t38)]) _
  refine own_step (fun t k => XS.land X45.here hx rfl (hb hby own_d5_139) rfl k) ?_
  show own_Run p e below T45 (mkF m 140 #[.val (.ref a0), .val (.ref a1), .val (.ref a1), .val (.long t42), .second, .val (.long t44), .second, .val (.long t46), .second, .val (.long t38), .second, .val (.long t39), .second, .val (.long t40), .second] [(.long (t38 &&& (4503599627370495 : Int64)))]) _
  obtain ⟨T47, X47, e47, st47⟩ := getS2 X45 hx hZ hown (host := "") (Or.inl (hw _ (List.mem_of_getElem? (i := 26) rfl))) Via.refl e45 Sp (g := (mkF m 140 #[.val (.ref a0), .val (.ref a1), .val (.ref a1), .val (.long t42), .second, .val (.long t44), .second, .val (.long t46), .second, .val (.long t38), .second, .val (.long t39), .second, .val (.long t40), .second] [(.long (t38 &&& (4503599627370495 : Int64)))])) rfl (hb hby own_d5_140)
  refine own_step st47 ?_
  show own_Run p e below T47 (mkF m 143 #[.val (.ref a0), .val (.ref a1), .val (.ref a1), .val (.long t42), .second, .val (.long t44), .second, .val (.long t46), .second, .val (.long t38), .second, .val (.long t39), .second, .val (.long t40), .second] [(.ref pl), (.long (t38 &&& (4503599627370495 : Int64)))]) _
  refine own_step (fun t k => XS.iconst X47.here hx rfl (hb hby own_d5_143) k) ?_
  refine own_step (own_ldJ X47 hx hZ e47 Vp (j := (3 : Int32)) (v := (.long (4503599627370495 : Int64))) ⟨by decide, by decide⟩ rfl (g := (mkF m 144 #[.val (.ref a0), .val (.ref a1), .val (.ref a1), .val (.long t42), .second, .val (.long t44), .second, .val (.long t46), .second, .val (.long t38), .second, .val (.long t39), .second, .val (.long t40), .second] [(.int (3 : Int32)), (.ref pl), (.long (t38 &&& (4503599627370495 : Int64)))])) rfl rfl (hb hby own_d5_144)) ?_
  show own_Run p e below T47 (mkF m 145 #[.val (.ref a0), .val (.ref a1), .val (.ref a1), .val (.long t42), .second, .val (.long t44), .second, .val (.long t46), .second, .val (.long t38), .second, .val (.long t39), .second, .val (.long t40), .second] [(.long (4503599627370495 : Int64)), (.long (t38 &&& (4503599627370495 : Int64)))]) _
  refine own_step (fun t k => XS.lload X47.here hx rfl (hb hby own_d5_145) rfl  k) ?_
  refine own_step (fun t k => XS.land X47.here hx rfl (hb hby own_d5_147) rfl k) ?_
  show own_Run p e below T47 (mkF m 148 #[.val (.ref a0), .val (.ref a1), .val (.ref a1), .val (.long t42), .second, .val (.long t44), .second, .val (.long t46), .second, .val (.long t38), .second, .val (.long t39), .second, .val (.long t40), .second] [(.long ((4503599627370495 : Int64) &&& t40)), (.long (t38 &&& (4503599627370495 : Int64)))]) _
  refine own_step (fun t k => XS.ladd X47.here hx rfl (hb hby own_d5_148) rfl k) ?_
  show own_Run p e below T47 (mkF m 149 #[.val (.ref a0), .val (.ref a1), .val (.ref a1), .val (.long t42), .second, .val (.long t44), .second, .val (.long t46), .second, .val (.long t38), .second, .val (.long t39), .second, .val (.long t40), .second] [(.long ((t38 &&& (4503599627370495 : Int64)) + ((4503599627370495 : Int64) &&& t40)))]) _
  refine own_step (fun t k => XS.lload X47.here hx rfl (hb hby own_d5_149) rfl  k) ?_
  refine own_step (fun t k => XS.bipush X47.here hx rfl (hb hby own_d5_151) k) ?_
  refine own_step (fun t k => XS.lshr X47.here hx rfl (hb hby own_d5_153) rfl k) ?_
  show own_Run p e below T47 (mkF m 154 #[.val (.ref a0), .val (.ref a1), .val (.ref a1), .val (.long t42), .second, .val (.long t44), .second, .val (.long t46), .second, .val (.long t38), .second, .val (.long t39), .second, .val (.long t40), .second] [(.long (own_shrL t46 (52 : Int32))), (.long ((t38 &&& (4503599627370495 : Int64)) + ((4503599627370495 : Int64) &&& t40)))]) _
  refine own_step (fun t k => XS.ladd X47.here hx rfl (hb hby own_d5_154) rfl k) ?_
  show own_Run p e below T47 (mkF m 155 #[.val (.ref a0), .val (.ref a1), .val (.ref a1), .val (.long t42), .second, .val (.long t44), .second, .val (.long t46), .second, .val (.long t38), .second, .val (.long t39), .second, .val (.long t40), .second] [(.long (((t38 &&& (4503599627370495 : Int64)) + ((4503599627370495 : Int64) &&& t40)) + (own_shrL t46 (52 : Int32))))]) _
  obtain ⟨t48, ht48⟩ : ∃ z : Int64, z = (((t38 &&& (4503599627370495 : Int64)) + ((4503599627370495 : Int64) &&& t40)) + (own_shrL t46 (52 : Int32))) := ⟨_, rfl⟩
  refine own_step (fun t k => XS.lstore X47.here hx rfl (hb hby own_d5_155) rfl (l' := #[.val (.ref a0), .val (.ref a1), .val (.ref a1), .val (.long t42), .second, .val (.long t44), .second, .val (.long t46), .second, .val (.long t48), .second, .val (.long t39), .second, .val (.long t40), .second]) (by subst ht48; rfl) k) ?_
  show own_Run p e below T47 (mkF m 157 #[.val (.ref a0), .val (.ref a1), .val (.ref a1), .val (.long t42), .second, .val (.long t44), .second, .val (.long t46), .second, .val (.long t48), .second, .val (.long t39), .second, .val (.long t40), .second] []) _
  refine own_step (fun t k => XS.lload X47.here hx rfl (hb hby own_d5_157) rfl  k) ?_
  obtain ⟨T49, X49, e49, st49⟩ := getS2 X47 hx hZ hown (host := "") (Or.inl (hw _ (List.mem_of_getElem? (i := 26) rfl))) Via.refl e47 Sp (g := (mkF m 159 #[.val (.ref a0), .val (.ref a1), .val (.ref a1), .val (.long t42), .second, .val (.long t44), .second, .val (.long t46), .second, .val (.long t48), .second, .val (.long t39), .second, .val (.long t40), .second] [(.long t39)])) rfl (hb hby own_d5_159)
  refine own_step st49 ?_
  show own_Run p e below T49 (mkF m 162 #[.val (.ref a0), .val (.ref a1), .val (.ref a1), .val (.long t42), .second, .val (.long t44), .second, .val (.long t46), .second, .val (.long t48), .second, .val (.long t39), .second, .val (.long t40), .second] [(.ref pl), (.long t39)]) _
  refine own_step (fun t k => XS.iconst X49.here hx rfl (hb hby own_d5_162) k) ?_
  refine own_step (own_ldJ X49 hx hZ e49 Vp (j := (4 : Int32)) (v := (.long (281474976645119 : Int64))) ⟨by decide, by decide⟩ rfl (g := (mkF m 163 #[.val (.ref a0), .val (.ref a1), .val (.ref a1), .val (.long t42), .second, .val (.long t44), .second, .val (.long t46), .second, .val (.long t48), .second, .val (.long t39), .second, .val (.long t40), .second] [(.int (4 : Int32)), (.ref pl), (.long t39)])) rfl rfl (hb hby own_d5_163)) ?_
  show own_Run p e below T49 (mkF m 164 #[.val (.ref a0), .val (.ref a1), .val (.ref a1), .val (.long t42), .second, .val (.long t44), .second, .val (.long t46), .second, .val (.long t48), .second, .val (.long t39), .second, .val (.long t40), .second] [(.long (281474976645119 : Int64)), (.long t39)]) _
  refine own_step (fun t k => XS.lload X49.here hx rfl (hb hby own_d5_164) rfl  k) ?_
  refine own_step (fun t k => XS.land X49.here hx rfl (hb hby own_d5_166) rfl k) ?_
  show own_Run p e below T49 (mkF m 167 #[.val (.ref a0), .val (.ref a1), .val (.ref a1), .val (.long t42), .second, .val (.long t44), .second, .val (.long t46), .second, .val (.long t48), .second, .val (.long t39), .second, .val (.long t40), .second] [(.long ((281474976645119 : Int64) &&& t40)), (.long t39)]) _
  refine own_step (fun t k => XS.ladd X49.here hx rfl (hb hby own_d5_167) rfl k) ?_
  show own_Run p e below T49 (mkF m 168 #[.val (.ref a0), .val (.ref a1), .val (.ref a1), .val (.long t42), .second, .val (.long t44), .second, .val (.long t46), .second, .val (.long t48), .second, .val (.long t39), .second, .val (.long t40), .second] [(.long (t39 + ((281474976645119 : Int64) &&& t40)))]) _
  refine own_step (fun t k => XS.lload X49.here hx rfl (hb hby own_d5_168) rfl  k) ?_
  refine own_step (fun t k => XS.bipush X49.here hx rfl (hb hby own_d5_170) k) ?_
  refine own_step (fun t k => XS.lshr X49.here hx rfl (hb hby own_d5_172) rfl k) ?_
  show own_Run p e below T49 (mkF m 173 #[.val (.ref a0), .val (.ref a1), .val (.ref a1), .val (.long t42), .second, .val (.long t44), .second, .val (.long t46), .second, .val (.long t48), .second, .val (.long t39), .second, .val (.long t40), .second] [(.long (own_shrL t48 (52 : Int32))), (.long (t39 + ((281474976645119 : Int64) &&& t40)))]) _
  refine own_step (fun t k => XS.ladd X49.here hx rfl (hb hby own_d5_173) rfl k) ?_
  show own_Run p e below T49 (mkF m 174 #[.val (.ref a0), .val (.ref a1), .val (.ref a1), .val (.long t42), .second, .val (.long t44), .second, .val (.long t46), .second, .val (.long t48), .second, .val (.long t39), .second, .val (.long t40), .second] [(.long ((t39 + ((281474976645119 : Int64) &&& t40)) + (own_shrL t48 (52 : Int32))))]) _
  obtain ⟨t50, ht50⟩ : ∃ z : Int64, z = ((t39 + ((281474976645119 : Int64) &&& t40)) + (own_shrL t48 (52 : Int32))) := ⟨_, rfl⟩
  refine own_step (fun t k => XS.lstore X49.here hx rfl (hb hby own_d5_174) rfl (l' := #[.val (.ref a0), .val (.ref a1), .val (.ref a1), .val (.long t42), .second, .val (.long t44), .second, .val (.long t46), .second, .val (.long t48), .second, .val (.long t50), .second, .val (.long t40), .second]) (by subst ht50; rfl) k) ?_
  show own_Run p e below T49 (mkF m 176 #[.val (.ref a0), .val (.ref a1), .val (.ref a1), .val (.long t42), .second, .val (.long t44), .second, .val (.long t46), .second, .val (.long t48), .second, .val (.long t50), .second, .val (.long t40), .second] []) _
  refine own_step (fun t k => XS.aloadN X49.here hx rfl (hb hby own_d5_176) rfl rfl k) ?_
  refine own_step (fun t k => XS.iconst X49.here hx rfl (hb hby own_d5_177) k) ?_
  refine own_step (fun t k => XS.lloadN X49.here hx rfl (hb hby own_d5_178) rfl  k) ?_
  show own_Run p e below T49 (mkF m 179 #[.val (.ref a0), .val (.ref a1), .val (.ref a1), .val (.long t42), .second, .val (.long t44), .second, .val (.long t46), .second, .val (.long t48), .second, .val (.long t50), .second, .val (.long t40), .second] [(.long t42), (.int (0 : Int32)), (.ref a1)]) _
  refine own_step (fun t k => X49.ldc2Long hx hown (mvT hZ (hw _ (List.mem_of_getElem? (i := 25) rfl))) (g := (mkF m 179 #[.val (.ref a0), .val (.ref a1), .val (.ref a1), .val (.long t42), .second, .val (.long t44), .second, .val (.long t46), .second, .val (.long t48), .second, .val (.long t50), .second, .val (.long t40), .second] [(.long t42), (.int (0 : Int32)), (.ref a1)])) rfl (hb hby own_d5_179) t k) ?_
  show own_Run p e below T49 (mkF m 182 #[.val (.ref a0), .val (.ref a1), .val (.ref a1), .val (.long t42), .second, .val (.long t44), .second, .val (.long t46), .second, .val (.long t48), .second, .val (.long t50), .second, .val (.long t40), .second] [(.long (4503599627370495 : Int64)), (.long t42), (.int (0 : Int32)), (.ref a1)]) _
  refine own_step (fun t k => XS.land X49.here hx rfl (hb hby own_d5_182) rfl k) ?_
  show own_Run p e below T49 (mkF m 183 #[.val (.ref a0), .val (.ref a1), .val (.ref a1), .val (.long t42), .second, .val (.long t44), .second, .val (.long t46), .second, .val (.long t48), .second, .val (.long t50), .second, .val (.long t40), .second] [(.long (t42 &&& (4503599627370495 : Int64))), (.int (0 : Int32)), (.ref a1)]) _
  obtain ⟨T51, h51, L51, X51, e51, N51, W51, V51, st51⟩ := own_stJ X49 hx hZ e49 V1 N0 gw (j := (0 : Int32)) ⟨by decide, by decide⟩ 0 rfl (Nat.le_of_ble_eq_true rfl) (g := (mkF m 183 #[.val (.ref a0), .val (.ref a1), .val (.ref a1), .val (.long t42), .second, .val (.long t44), .second, .val (.long t46), .second, .val (.long t48), .second, .val (.long t50), .second, .val (.long t40), .second] [(.long (t42 &&& (4503599627370495 : Int64))), (.int (0 : Int32)), (.ref a1)])) rfl rfl (hb hby own_d5_183)
  have V51x : Arv Z h51 a1 k1 .long (5 : Int32) [(.long (t42 &&& (4503599627370495 : Int64))), (.long v1), (.long v2), (.long v3), (.long v4)] (.long (0 : Int64)) := V51
  have f52 := V0.other W51 ne1
  have f53 := Sta.wr W51 Sp
  have f54 := Vp.other W51 nep
  have Zn51 : n0 ≤ h51.size := Nat.le_trans Z0 (Keep.of_wr W51).1
  have K51 : Keep h0 h51 [a1] := (Keep.refl h0 [a1]).wr W51 (Or.inl (List.mem_of_getElem? (i := 0) rfl))
  refine own_step st51 ?_
  show own_Run p e below T51 (mkF m 184 #[.val (.ref a0), .val (.ref a1), .val (.ref a1), .val (.long t42), .second, .val (.long t44), .second, .val (.long t46), .second, .val (.long t48), .second, .val (.long t50), .second, .val (.long t40), .second] []) _
  refine own_step (fun t k => XS.aloadN X51.here hx rfl (hb hby own_d5_184) rfl rfl k) ?_
  refine own_step (fun t k => XS.iconst X51.here hx rfl (hb hby own_d5_185) k) ?_
  refine own_step (fun t k => XS.lload X51.here hx rfl (hb hby own_d5_186) rfl  k) ?_
  show own_Run p e below T51 (mkF m 188 #[.val (.ref a0), .val (.ref a1), .val (.ref a1), .val (.long t42), .second, .val (.long t44), .second, .val (.long t46), .second, .val (.long t48), .second, .val (.long t50), .second, .val (.long t40), .second] [(.long t44), (.int (1 : Int32)), (.ref a1)]) _
  refine own_step (fun t k => X51.ldc2Long hx hown (mvT hZ (hw _ (List.mem_of_getElem? (i := 25) rfl))) (g := (mkF m 188 #[.val (.ref a0), .val (.ref a1), .val (.ref a1), .val (.long t42), .second, .val (.long t44), .second, .val (.long t46), .second, .val (.long t48), .second, .val (.long t50), .second, .val (.long t40), .second] [(.long t44), (.int (1 : Int32)), (.ref a1)])) rfl (hb hby own_d5_188) t k) ?_
  show own_Run p e below T51 (mkF m 191 #[.val (.ref a0), .val (.ref a1), .val (.ref a1), .val (.long t42), .second, .val (.long t44), .second, .val (.long t46), .second, .val (.long t48), .second, .val (.long t50), .second, .val (.long t40), .second] [(.long (4503599627370495 : Int64)), (.long t44), (.int (1 : Int32)), (.ref a1)]) _
  refine own_step (fun t k => XS.land X51.here hx rfl (hb hby own_d5_191) rfl k) ?_
  show own_Run p e below T51 (mkF m 192 #[.val (.ref a0), .val (.ref a1), .val (.ref a1), .val (.long t42), .second, .val (.long t44), .second, .val (.long t46), .second, .val (.long t48), .second, .val (.long t50), .second, .val (.long t40), .second] [(.long (t44 &&& (4503599627370495 : Int64))), (.int (1 : Int32)), (.ref a1)]) _
  obtain ⟨T55, h55, L55, X55, e55, N55, W55, V55, st55⟩ := own_stJ X51 hx hZ e51 V51x N51 gw (j := (1 : Int32)) ⟨by decide, by decide⟩ 1 rfl (Nat.le_of_ble_eq_true rfl) (g := (mkF m 192 #[.val (.ref a0), .val (.ref a1), .val (.ref a1), .val (.long t42), .second, .val (.long t44), .second, .val (.long t46), .second, .val (.long t48), .second, .val (.long t50), .second, .val (.long t40), .second] [(.long (t44 &&& (4503599627370495 : Int64))), (.int (1 : Int32)), (.ref a1)])) rfl rfl (hb hby own_d5_192)
  have V55x : Arv Z h55 a1 k1 .long (5 : Int32) [(.long (t42 &&& (4503599627370495 : Int64))), (.long (t44 &&& (4503599627370495 : Int64))), (.long v2), (.long v3), (.long v4)] (.long (0 : Int64)) := V55
  have f56 := f52.other W55 ne1
  have f57 := Sta.wr W55 f53
  have f58 := f54.other W55 nep
  have Zn55 : n0 ≤ h55.size := Nat.le_trans Zn51 (Keep.of_wr W55).1
  have K55 : Keep h0 h55 [a1] := K51.wr W55 (Or.inl (List.mem_of_getElem? (i := 0) rfl))
  refine own_step st55 ?_
  show own_Run p e below T55 (mkF m 193 #[.val (.ref a0), .val (.ref a1), .val (.ref a1), .val (.long t42), .second, .val (.long t44), .second, .val (.long t46), .second, .val (.long t48), .second, .val (.long t50), .second, .val (.long t40), .second] []) _
  refine own_step (fun t k => XS.aloadN X55.here hx rfl (hb hby own_d5_193) rfl rfl k) ?_
  refine own_step (fun t k => XS.iconst X55.here hx rfl (hb hby own_d5_194) k) ?_
  refine own_step (fun t k => XS.lload X55.here hx rfl (hb hby own_d5_195) rfl  k) ?_
  show own_Run p e below T55 (mkF m 197 #[.val (.ref a0), .val (.ref a1), .val (.ref a1), .val (.long t42), .second, .val (.long t44), .second, .val (.long t46), .second, .val (.long t48), .second, .val (.long t50), .second, .val (.long t40), .second] [(.long t46), (.int (2 : Int32)), (.ref a1)]) _
  refine own_step (fun t k => X55.ldc2Long hx hown (mvT hZ (hw _ (List.mem_of_getElem? (i := 25) rfl))) (g := (mkF m 197 #[.val (.ref a0), .val (.ref a1), .val (.ref a1), .val (.long t42), .second, .val (.long t44), .second, .val (.long t46), .second, .val (.long t48), .second, .val (.long t50), .second, .val (.long t40), .second] [(.long t46), (.int (2 : Int32)), (.ref a1)])) rfl (hb hby own_d5_197) t k) ?_
  show own_Run p e below T55 (mkF m 200 #[.val (.ref a0), .val (.ref a1), .val (.ref a1), .val (.long t42), .second, .val (.long t44), .second, .val (.long t46), .second, .val (.long t48), .second, .val (.long t50), .second, .val (.long t40), .second] [(.long (4503599627370495 : Int64)), (.long t46), (.int (2 : Int32)), (.ref a1)]) _
  refine own_step (fun t k => XS.land X55.here hx rfl (hb hby own_d5_200) rfl k) ?_
  show own_Run p e below T55 (mkF m 201 #[.val (.ref a0), .val (.ref a1), .val (.ref a1), .val (.long t42), .second, .val (.long t44), .second, .val (.long t46), .second, .val (.long t48), .second, .val (.long t50), .second, .val (.long t40), .second] [(.long (t46 &&& (4503599627370495 : Int64))), (.int (2 : Int32)), (.ref a1)]) _
  obtain ⟨T59, h59, L59, X59, e59, N59, W59, V59, st59⟩ := own_stJ X55 hx hZ e55 V55x N55 gw (j := (2 : Int32)) ⟨by decide, by decide⟩ 2 rfl (Nat.le_of_ble_eq_true rfl) (g := (mkF m 201 #[.val (.ref a0), .val (.ref a1), .val (.ref a1), .val (.long t42), .second, .val (.long t44), .second, .val (.long t46), .second, .val (.long t48), .second, .val (.long t50), .second, .val (.long t40), .second] [(.long (t46 &&& (4503599627370495 : Int64))), (.int (2 : Int32)), (.ref a1)])) rfl rfl (hb hby own_d5_201)
  have V59x : Arv Z h59 a1 k1 .long (5 : Int32) [(.long (t42 &&& (4503599627370495 : Int64))), (.long (t44 &&& (4503599627370495 : Int64))), (.long (t46 &&& (4503599627370495 : Int64))), (.long v3), (.long v4)] (.long (0 : Int64)) := V59
  have f60 := f56.other W59 ne1
  have f61 := Sta.wr W59 f57
  have f62 := f58.other W59 nep
  have Zn59 : n0 ≤ h59.size := Nat.le_trans Zn55 (Keep.of_wr W59).1
  have K59 : Keep h0 h59 [a1] := K55.wr W59 (Or.inl (List.mem_of_getElem? (i := 0) rfl))
  refine own_step st59 ?_
  show own_Run p e below T59 (mkF m 202 #[.val (.ref a0), .val (.ref a1), .val (.ref a1), .val (.long t42), .second, .val (.long t44), .second, .val (.long t46), .second, .val (.long t48), .second, .val (.long t50), .second, .val (.long t40), .second] []) _
  refine own_step (fun t k => XS.aloadN X59.here hx rfl (hb hby own_d5_202) rfl rfl k) ?_
  refine own_step (fun t k => XS.iconst X59.here hx rfl (hb hby own_d5_203) k) ?_
  refine own_step (fun t k => XS.lload X59.here hx rfl (hb hby own_d5_204) rfl  k) ?_
  show own_Run p e below T59 (mkF m 206 #[.val (.ref a0), .val (.ref a1), .val (.ref a1), .val (.long t42), .second, .val (.long t44), .second, .val (.long t46), .second, .val (.long t48), .second, .val (.long t50), .second, .val (.long t40), .second] [(.long t48), (.int (3 : Int32)), (.ref a1)]) _
  refine own_step (fun t k => X59.ldc2Long hx hown (mvT hZ (hw _ (List.mem_of_getElem? (i := 25) rfl))) (g := (mkF m 206 #[.val (.ref a0), .val (.ref a1), .val (.ref a1), .val (.long t42), .second, .val (.long t44), .second, .val (.long t46), .second, .val (.long t48), .second, .val (.long t50), .second, .val (.long t40), .second] [(.long t48), (.int (3 : Int32)), (.ref a1)])) rfl (hb hby own_d5_206) t k) ?_
  show own_Run p e below T59 (mkF m 209 #[.val (.ref a0), .val (.ref a1), .val (.ref a1), .val (.long t42), .second, .val (.long t44), .second, .val (.long t46), .second, .val (.long t48), .second, .val (.long t50), .second, .val (.long t40), .second] [(.long (4503599627370495 : Int64)), (.long t48), (.int (3 : Int32)), (.ref a1)]) _
  refine own_step (fun t k => XS.land X59.here hx rfl (hb hby own_d5_209) rfl k) ?_
  show own_Run p e below T59 (mkF m 210 #[.val (.ref a0), .val (.ref a1), .val (.ref a1), .val (.long t42), .second, .val (.long t44), .second, .val (.long t46), .second, .val (.long t48), .second, .val (.long t50), .second, .val (.long t40), .second] [(.long (t48 &&& (4503599627370495 : Int64))), (.int (3 : Int32)), (.ref a1)]) _
  obtain ⟨T63, h63, L63, X63, e63, N63, W63, V63, st63⟩ := own_stJ X59 hx hZ e59 V59x N59 gw (j := (3 : Int32)) ⟨by decide, by decide⟩ 3 rfl (Nat.le_of_ble_eq_true rfl) (g := (mkF m 210 #[.val (.ref a0), .val (.ref a1), .val (.ref a1), .val (.long t42), .second, .val (.long t44), .second, .val (.long t46), .second, .val (.long t48), .second, .val (.long t50), .second, .val (.long t40), .second] [(.long (t48 &&& (4503599627370495 : Int64))), (.int (3 : Int32)), (.ref a1)])) rfl rfl (hb hby own_d5_210)
  have V63x : Arv Z h63 a1 k1 .long (5 : Int32) [(.long (t42 &&& (4503599627370495 : Int64))), (.long (t44 &&& (4503599627370495 : Int64))), (.long (t46 &&& (4503599627370495 : Int64))), (.long (t48 &&& (4503599627370495 : Int64))), (.long v4)] (.long (0 : Int64)) := V63
  have f64 := f60.other W63 ne1
  have f65 := Sta.wr W63 f61
  have f66 := f62.other W63 nep
  have Zn63 : n0 ≤ h63.size := Nat.le_trans Zn59 (Keep.of_wr W63).1
  have K63 : Keep h0 h63 [a1] := K59.wr W63 (Or.inl (List.mem_of_getElem? (i := 0) rfl))
  refine own_step st63 ?_
  show own_Run p e below T63 (mkF m 211 #[.val (.ref a0), .val (.ref a1), .val (.ref a1), .val (.long t42), .second, .val (.long t44), .second, .val (.long t46), .second, .val (.long t48), .second, .val (.long t50), .second, .val (.long t40), .second] []) _
  refine own_step (fun t k => XS.aloadN X63.here hx rfl (hb hby own_d5_211) rfl rfl k) ?_
  refine own_step (fun t k => XS.iconst X63.here hx rfl (hb hby own_d5_212) k) ?_
  refine own_step (fun t k => XS.lload X63.here hx rfl (hb hby own_d5_213) rfl  k) ?_
  show own_Run p e below T63 (mkF m 215 #[.val (.ref a0), .val (.ref a1), .val (.ref a1), .val (.long t42), .second, .val (.long t44), .second, .val (.long t46), .second, .val (.long t48), .second, .val (.long t50), .second, .val (.long t40), .second] [(.long t50), (.int (4 : Int32)), (.ref a1)]) _
  obtain ⟨T67, h67, L67, X67, e67, N67, W67, V67, st67⟩ := own_stJ X63 hx hZ e63 V63x N63 gw (j := (4 : Int32)) ⟨by decide, by decide⟩ 4 rfl (Nat.le_of_ble_eq_true rfl) (g := (mkF m 215 #[.val (.ref a0), .val (.ref a1), .val (.ref a1), .val (.long t42), .second, .val (.long t44), .second, .val (.long t46), .second, .val (.long t48), .second, .val (.long t50), .second, .val (.long t40), .second] [(.long t50), (.int (4 : Int32)), (.ref a1)])) rfl rfl (hb hby own_d5_215)
  have V67x : Arv Z h67 a1 k1 .long (5 : Int32) [(.long (t42 &&& (4503599627370495 : Int64))), (.long (t44 &&& (4503599627370495 : Int64))), (.long (t46 &&& (4503599627370495 : Int64))), (.long (t48 &&& (4503599627370495 : Int64))), (.long t50)] (.long (0 : Int64)) := V67
  have f68 := f64.other W67 ne1
  have f69 := Sta.wr W67 f65
  have f70 := f66.other W67 nep
  have Zn67 : n0 ≤ h67.size := Nat.le_trans Zn63 (Keep.of_wr W67).1
  have K67 : Keep h0 h67 [a1] := K63.wr W67 (Or.inl (List.mem_of_getElem? (i := 0) rfl))
  refine own_step st67 ?_
  show own_Run p e below T67 (mkF m 216 #[.val (.ref a0), .val (.ref a1), .val (.ref a1), .val (.long t42), .second, .val (.long t44), .second, .val (.long t46), .second, .val (.long t48), .second, .val (.long t50), .second, .val (.long t40), .second] []) _
  subst ht50
  subst ht48
  subst ht46
  subst ht44
  subst ht42
  subst ht40
  subst ht39
  subst ht38
  subst ht37
  subst ht36
  exact own_retV X67 hx hlk hret (hb hby own_d5_216) (by decide) (by decide) N67 (by rw [e67]; exact ⟨K67, V67x⟩)
def own_f5c_20 (u1 : Int64) (u0 : Int64) : Int64 := ((u1 - u1) + (own_shrL (u0 - u0) (52 : Int32)))
def own_f5c_35 (u2 : Int64) (u1 : Int64) (u0 : Int64) : Int64 := ((u2 - u2) + (own_shrL (own_f5c_20 u1 u0) (52 : Int32)))
def own_f5c_50 (u3 : Int64) (u2 : Int64) (u1 : Int64) (u0 : Int64) : Int64 := ((u3 - u3) + (own_shrL (own_f5c_35 u2 u1 u0) (52 : Int32)))
def own_f5c_65 (u4 : Int64) (u3 : Int64) (u2 : Int64) (u1 : Int64) (u0 : Int64) : Int64 := ((u4 - u4) + (own_shrL (own_f5c_50 u3 u2 u1 u0) (52 : Int32)))
def own_f5c_72 (u4 : Int64) (u3 : Int64) (u2 : Int64) (u1 : Int64) (u0 : Int64) : Int64 := (own_shrL (own_f5c_65 u4 u3 u2 u1 u0) (63 : Int32))
def own_f5c_88 (u0 : Int64) (u4 : Int64) (u3 : Int64) (u2 : Int64) (u1 : Int64) : Int64 := (((u0 - u0) &&& (4503599627370495 : Int64)) + ((4503599627370495 : Int64) &&& (own_f5c_72 u4 u3 u2 u1 u0)))
def own_f5c_109 (u1 : Int64) (u0 : Int64) (u4 : Int64) (u3 : Int64) (u2 : Int64) : Int64 := ((((own_f5c_20 u1 u0) &&& (4503599627370495 : Int64)) + ((4486007441330175 : Int64) &&& (own_f5c_72 u4 u3 u2 u1 u0))) + (own_shrL (own_f5c_88 u0 u4 u3 u2 u1) (52 : Int32)))
def own_f5c_132 (u2 : Int64) (u1 : Int64) (u0 : Int64) (u4 : Int64) (u3 : Int64) : Int64 := ((((own_f5c_35 u2 u1 u0) &&& (4503599627370495 : Int64)) + ((4503599627370495 : Int64) &&& (own_f5c_72 u4 u3 u2 u1 u0))) + (own_shrL (own_f5c_109 u1 u0 u4 u3 u2) (52 : Int32)))
def own_f5c_155 (u3 : Int64) (u2 : Int64) (u1 : Int64) (u0 : Int64) (u4 : Int64) : Int64 := ((((own_f5c_50 u3 u2 u1 u0) &&& (4503599627370495 : Int64)) + ((4503599627370495 : Int64) &&& (own_f5c_72 u4 u3 u2 u1 u0))) + (own_shrL (own_f5c_132 u2 u1 u0 u4 u3) (52 : Int32)))
def own_f5c_174 (u4 : Int64) (u3 : Int64) (u2 : Int64) (u1 : Int64) (u0 : Int64) : Int64 := (((own_f5c_65 u4 u3 u2 u1 u0) + ((281474976645119 : Int64) &&& (own_f5c_72 u4 u3 u2 u1 u0))) + (own_shrL (own_f5c_155 u3 u2 u1 u0 u4) (52 : Int32)))
def own_f5c_v0_0 (u0 : Int64) (u4 : Int64) (u3 : Int64) (u2 : Int64) (u1 : Int64) : Int64 := ((own_f5c_88 u0 u4 u3 u2 u1) &&& (4503599627370495 : Int64))
def own_f5c_v0_1 (u1 : Int64) (u0 : Int64) (u4 : Int64) (u3 : Int64) (u2 : Int64) : Int64 := ((own_f5c_109 u1 u0 u4 u3 u2) &&& (4503599627370495 : Int64))
def own_f5c_v0_2 (u2 : Int64) (u1 : Int64) (u0 : Int64) (u4 : Int64) (u3 : Int64) : Int64 := ((own_f5c_132 u2 u1 u0 u4 u3) &&& (4503599627370495 : Int64))
def own_f5c_v0_3 (u3 : Int64) (u2 : Int64) (u1 : Int64) (u0 : Int64) (u4 : Int64) : Int64 := ((own_f5c_155 u3 u2 u1 u0 u4) &&& (4503599627370495 : Int64))
def own_f5c_v0_4 (u4 : Int64) (u3 : Int64) (u2 : Int64) (u1 : Int64) (u0 : Int64) : Int64 := (own_f5c_174 u4 u3 u2 u1 u0)
theorem own_ef5c (m : MethodId) (a0 : Addr) : entryFrame m #[(.ref a0), (.ref a0), (.ref a0)] 15 = (mkF m 0 #[.val (.ref a0), .val (.ref a0), .val (.ref a0), .unset, .unset, .unset, .unset, .unset, .unset, .unset, .unset, .unset, .unset, .unset, .unset] []) := by first | (simp [entryFrame, mkF, argsToLocals, Value.category]; done) | rfl
set_option maxRecDepth 65536 in
set_option maxHeartbeats 40000000 in
theorem rm5c (l : Launch) (Z : State) (av0 : Array Value) (hw : ∀ d ∈ tables_1, d.before av0 Z = true) (ws : List Jvm.Cond) (a0 : Addr) (pl : Addr) (kp : ClassId) (k0 : ClassId) (u0 : Int64) (u1 : Int64) (u2 : Int64) (u3 : Int64) (u4 : Int64) (h0 : Heap) (n0 : Nat) (Z0 : n0 ≤ h0.size) (gw : n0 ≤ a0) (nep : pl ≠ a0) (V0 : Arv Z h0 a0 k0 .long (5 : Int32) [(.long u0), (.long u1), (.long u2), (.long u3), (.long u4)] (.long (0 : Int64))) (Sp : Sta Z h0 "com/example/rxrelay/rxrelay/protocol/gm/Sm2Field" "P_LIMBS" "[J" (.ref pl)) (Vp : Arv Z h0 pl kp .long (5 : Int32) [(.long (4503599627370495 : Int64)), (.long (4486007441330175 : Int64)), (.long (4503599627370495 : Int64)), (.long (4503599627370495 : Int64)), (.long (281474976645119 : Int64))] (.long (0 : Int64))) :
    MetFree l (⟨"com/example/rxrelay/rxrelay/protocol/gm/Sm2Field", "subtract", "([J[J[J)V"⟩ : MethodName) (head1 (Jvm.Cond.code (⟨"com/example/rxrelay/rxrelay/protocol/gm/Sm2Field", "subtract", "([J[J[J)V"⟩ : MethodName) prog_33_method_10_code 15 none :: ws) ({ frames := 0, cells := 0, slots := 0, locals := 0 } : Room)) (fun a U => a = #[(.ref a0), (.ref a0), (.ref a0)] ∧ Z.Warmed39 U.vm ∧ U.heap = h0) (fun _ _ _ _ _ => True) (fun _ U o U' => ∃ v L, o = .returned v ∧ own_Q n0 (fun h => Keep h0 h [a0] ∧ Arv Z h a0 k0 .long (5 : Int32) [(.long (own_f5c_v0_0 u0 u4 u3 u2 u1)), (.long (own_f5c_v0_1 u1 u0 u4 u3 u2)), (.long (own_f5c_v0_2 u2 u1 u0 u4 u3)), (.long (own_f5c_v0_3 u3 u2 u1 u0 u4)), (.long (own_f5c_v0_4 u4 u3 u2 u1 u0))] (.long (0 : Int64))) none v U'.heap L ∧ FrameEnd U o U' L ({ frames := 0, cells := 0, slots := 0, locals := 0 } : Room).cells ({ frames := 0, cells := 0, slots := 0, locals := 0 } : Room).slots) := by
  refine MetFree.of_bodySF (plainFor_of_name own_pn1) hisR ?_
  intro p e s m args below meth c s₁ Bd hml0 hP hK
  obtain ⟨rfl, hZ, hh⟩ := hP
  have hx := Bd.exec
  have hby := Bd.bytes
  have hml : c.maxLocals = 15 := hml0
  have hown : s.vm.findClass "com/example/rxrelay/rxrelay/protocol/gm/Sm2Field" = some m.cls := findClass_of_methodNamed Bd.named
  have hnm := (name_of_methodNamed Bd.named Bd.method).1
  have hret := Bd.returns
  have hlk : meth.locks = false := BodyLoose.notSynchronized Bd
  have X0 : Stand p l e ({ frames := 0, cells := 0, slots := 0, locals := 0 } : Room) s m #[(.ref a0), (.ref a0), (.ref a0)] below meth c s₁ [] 0 0 := Stand.of_body Bd
  have e0 : s₁.heap = h0 := by rw [← hh, Bd.state]; rfl
  have N0 := Fr.nil n0
  clear Bd hh hK
  refine own_fin ?_
  refine own_entry (own_ef5c m a0) ?_
  show own_Run p e below s₁ (mkF m 0 #[.val (.ref a0), .val (.ref a0), .val (.ref a0), .unset, .unset, .unset, .unset, .unset, .unset, .unset, .unset, .unset, .unset, .unset, .unset] []) _
  refine own_step (fun t k => XS.aloadN X0.here hx rfl (hb hby own_d5_0) rfl rfl k) ?_
  refine own_step (fun t k => XS.iconst X0.here hx rfl (hb hby own_d5_1) k) ?_
  refine own_step (own_ldJ X0 hx hZ e0 V0 (j := (0 : Int32)) (v := (.long u0)) ⟨by decide, by decide⟩ rfl (g := (mkF m 2 #[.val (.ref a0), .val (.ref a0), .val (.ref a0), .unset, .unset, .unset, .unset, .unset, .unset, .unset, .unset, .unset, .unset, .unset, .unset] [(.int (0 : Int32)), (.ref a0)])) rfl rfl (hb hby own_d5_2)) ?_
  show own_Run p e below s₁ (mkF m 3 #[.val (.ref a0), .val (.ref a0), .val (.ref a0), .unset, .unset, .unset, .unset, .unset, .unset, .unset, .unset, .unset, .unset, .unset, .unset] [(.long u0)]) _
  refine own_step (fun t k => XS.aloadN X0.here hx rfl (hb hby own_d5_3) rfl rfl k) ?_
  refine own_step (fun t k => XS.iconst X0.here hx rfl (hb hby own_d5_4) k) ?_
  refine own_step (own_ldJ X0 hx hZ e0 V0 (j := (0 : Int32)) (v := (.long u0)) ⟨by decide, by decide⟩ rfl (g := (mkF m 5 #[.val (.ref a0), .val (.ref a0), .val (.ref a0), .unset, .unset, .unset, .unset, .unset, .unset, .unset, .unset, .unset, .unset, .unset, .unset] [(.int (0 : Int32)), (.ref a0), (.long u0)])) rfl rfl (hb hby own_d5_5)) ?_
  show own_Run p e below s₁ (mkF m 6 #[.val (.ref a0), .val (.ref a0), .val (.ref a0), .unset, .unset, .unset, .unset, .unset, .unset, .unset, .unset, .unset, .unset, .unset, .unset] [(.long u0), (.long u0)]) _
  refine own_step (fun t k => XS.lsub X0.here hx rfl (hb hby own_d5_6) rfl k) ?_
  show own_Run p e below s₁ (mkF m 7 #[.val (.ref a0), .val (.ref a0), .val (.ref a0), .unset, .unset, .unset, .unset, .unset, .unset, .unset, .unset, .unset, .unset, .unset, .unset] [(.long (u0 - u0))]) _
  refine own_step (fun t k => XS.lstoreN X0.here hx rfl (hb hby own_d5_7) rfl (l' := #[.val (.ref a0), .val (.ref a0), .val (.ref a0), .val (.long (u0 - u0)), .second, .unset, .unset, .unset, .unset, .unset, .unset, .unset, .unset, .unset, .unset]) rfl k) ?_
  show own_Run p e below s₁ (mkF m 8 #[.val (.ref a0), .val (.ref a0), .val (.ref a0), .val (.long (u0 - u0)), .second, .unset, .unset, .unset, .unset, .unset, .unset, .unset, .unset, .unset, .unset] []) _
  refine own_step (fun t k => XS.aloadN X0.here hx rfl (hb hby own_d5_8) rfl rfl k) ?_
  refine own_step (fun t k => XS.iconst X0.here hx rfl (hb hby own_d5_9) k) ?_
  refine own_step (own_ldJ X0 hx hZ e0 V0 (j := (1 : Int32)) (v := (.long u1)) ⟨by decide, by decide⟩ rfl (g := (mkF m 10 #[.val (.ref a0), .val (.ref a0), .val (.ref a0), .val (.long (u0 - u0)), .second, .unset, .unset, .unset, .unset, .unset, .unset, .unset, .unset, .unset, .unset] [(.int (1 : Int32)), (.ref a0)])) rfl rfl (hb hby own_d5_10)) ?_
  show own_Run p e below s₁ (mkF m 11 #[.val (.ref a0), .val (.ref a0), .val (.ref a0), .val (.long (u0 - u0)), .second, .unset, .unset, .unset, .unset, .unset, .unset, .unset, .unset, .unset, .unset] [(.long u1)]) _
  refine own_step (fun t k => XS.aloadN X0.here hx rfl (hb hby own_d5_11) rfl rfl k) ?_
  refine own_step (fun t k => XS.iconst X0.here hx rfl (hb hby own_d5_12) k) ?_
  refine own_step (own_ldJ X0 hx hZ e0 V0 (j := (1 : Int32)) (v := (.long u1)) ⟨by decide, by decide⟩ rfl (g := (mkF m 13 #[.val (.ref a0), .val (.ref a0), .val (.ref a0), .val (.long (u0 - u0)), .second, .unset, .unset, .unset, .unset, .unset, .unset, .unset, .unset, .unset, .unset] [(.int (1 : Int32)), (.ref a0), (.long u1)])) rfl rfl (hb hby own_d5_13)) ?_
  show own_Run p e below s₁ (mkF m 14 #[.val (.ref a0), .val (.ref a0), .val (.ref a0), .val (.long (u0 - u0)), .second, .unset, .unset, .unset, .unset, .unset, .unset, .unset, .unset, .unset, .unset] [(.long u1), (.long u1)]) _
  refine own_step (fun t k => XS.lsub X0.here hx rfl (hb hby own_d5_14) rfl k) ?_
  show own_Run p e below s₁ (mkF m 15 #[.val (.ref a0), .val (.ref a0), .val (.ref a0), .val (.long (u0 - u0)), .second, .unset, .unset, .unset, .unset, .unset, .unset, .unset, .unset, .unset, .unset] [(.long (u1 - u1))]) _
  refine own_step (fun t k => XS.lloadN X0.here hx rfl (hb hby own_d5_15) rfl  k) ?_
  refine own_step (fun t k => XS.bipush X0.here hx rfl (hb hby own_d5_16) k) ?_
  refine own_step (fun t k => XS.lshr X0.here hx rfl (hb hby own_d5_18) rfl k) ?_
  show own_Run p e below s₁ (mkF m 19 #[.val (.ref a0), .val (.ref a0), .val (.ref a0), .val (.long (u0 - u0)), .second, .unset, .unset, .unset, .unset, .unset, .unset, .unset, .unset, .unset, .unset] [(.long (own_shrL (u0 - u0) (52 : Int32))), (.long (u1 - u1))]) _
  refine own_step (fun t k => XS.ladd X0.here hx rfl (hb hby own_d5_19) rfl k) ?_
  show own_Run p e below s₁ (mkF m 20 #[.val (.ref a0), .val (.ref a0), .val (.ref a0), .val (.long (u0 - u0)), .second, .unset, .unset, .unset, .unset, .unset, .unset, .unset, .unset, .unset, .unset] [(.long ((u1 - u1) + (own_shrL (u0 - u0) (52 : Int32))))]) _
  obtain ⟨t31, ht31⟩ : ∃ z : Int64, z = ((u1 - u1) + (own_shrL (u0 - u0) (52 : Int32))) := ⟨_, rfl⟩
  refine own_step (fun t k => XS.lstore X0.here hx rfl (hb hby own_d5_20) rfl (l' := #[.val (.ref a0), .val (.ref a0), .val (.ref a0), .val (.long (u0 - u0)), .second, .val (.long t31), .second, .unset, .unset, .unset, .unset, .unset, .unset, .unset, .unset]) (by subst ht31; rfl) k) ?_
  show own_Run p e below s₁ (mkF m 22 #[.val (.ref a0), .val (.ref a0), .val (.ref a0), .val (.long (u0 - u0)), .second, .val (.long t31), .second, .unset, .unset, .unset, .unset, .unset, .unset, .unset, .unset] []) _
  refine own_step (fun t k => XS.aloadN X0.here hx rfl (hb hby own_d5_22) rfl rfl k) ?_
  refine own_step (fun t k => XS.iconst X0.here hx rfl (hb hby own_d5_23) k) ?_
  refine own_step (own_ldJ X0 hx hZ e0 V0 (j := (2 : Int32)) (v := (.long u2)) ⟨by decide, by decide⟩ rfl (g := (mkF m 24 #[.val (.ref a0), .val (.ref a0), .val (.ref a0), .val (.long (u0 - u0)), .second, .val (.long t31), .second, .unset, .unset, .unset, .unset, .unset, .unset, .unset, .unset] [(.int (2 : Int32)), (.ref a0)])) rfl rfl (hb hby own_d5_24)) ?_
  show own_Run p e below s₁ (mkF m 25 #[.val (.ref a0), .val (.ref a0), .val (.ref a0), .val (.long (u0 - u0)), .second, .val (.long t31), .second, .unset, .unset, .unset, .unset, .unset, .unset, .unset, .unset] [(.long u2)]) _
  refine own_step (fun t k => XS.aloadN X0.here hx rfl (hb hby own_d5_25) rfl rfl k) ?_
  refine own_step (fun t k => XS.iconst X0.here hx rfl (hb hby own_d5_26) k) ?_
  refine own_step (own_ldJ X0 hx hZ e0 V0 (j := (2 : Int32)) (v := (.long u2)) ⟨by decide, by decide⟩ rfl (g := (mkF m 27 #[.val (.ref a0), .val (.ref a0), .val (.ref a0), .val (.long (u0 - u0)), .second, .val (.long t31), .second, .unset, .unset, .unset, .unset, .unset, .unset, .unset, .unset] [(.int (2 : Int32)), (.ref a0), (.long u2)])) rfl rfl (hb hby own_d5_27)) ?_
  show own_Run p e below s₁ (mkF m 28 #[.val (.ref a0), .val (.ref a0), .val (.ref a0), .val (.long (u0 - u0)), .second, .val (.long t31), .second, .unset, .unset, .unset, .unset, .unset, .unset, .unset, .unset] [(.long u2), (.long u2)]) _
  refine own_step (fun t k => XS.lsub X0.here hx rfl (hb hby own_d5_28) rfl k) ?_
  show own_Run p e below s₁ (mkF m 29 #[.val (.ref a0), .val (.ref a0), .val (.ref a0), .val (.long (u0 - u0)), .second, .val (.long t31), .second, .unset, .unset, .unset, .unset, .unset, .unset, .unset, .unset] [(.long (u2 - u2))]) _
  refine own_step (fun t k => XS.lload X0.here hx rfl (hb hby own_d5_29) rfl  k) ?_
  refine own_step (fun t k => XS.bipush X0.here hx rfl (hb hby own_d5_31) k) ?_
  refine own_step (fun t k => XS.lshr X0.here hx rfl (hb hby own_d5_33) rfl k) ?_
  show own_Run p e below s₁ (mkF m 34 #[.val (.ref a0), .val (.ref a0), .val (.ref a0), .val (.long (u0 - u0)), .second, .val (.long t31), .second, .unset, .unset, .unset, .unset, .unset, .unset, .unset, .unset] [(.long (own_shrL t31 (52 : Int32))), (.long (u2 - u2))]) _
  refine own_step (fun t k => XS.ladd X0.here hx rfl (hb hby own_d5_34) rfl k) ?_
  show own_Run p e below s₁ (mkF m 35 #[.val (.ref a0), .val (.ref a0), .val (.ref a0), .val (.long (u0 - u0)), .second, .val (.long t31), .second, .unset, .unset, .unset, .unset, .unset, .unset, .unset, .unset] [(.long ((u2 - u2) + (own_shrL t31 (52 : Int32))))]) _
  obtain ⟨t32, ht32⟩ : ∃ z : Int64, z = ((u2 - u2) + (own_shrL t31 (52 : Int32))) := ⟨_, rfl⟩
  refine own_step (fun t k => XS.lstore X0.here hx rfl (hb hby own_d5_35) rfl (l' := #[.val (.ref a0), .val (.ref a0), .val (.ref a0), .val (.long (u0 - u0)), .second, .val (.long t31), .second, .val (.long t32), .second, .unset, .unset, .unset, .unset, .unset, .unset]) (by subst ht32; rfl) k) ?_
  show own_Run p e below s₁ (mkF m 37 #[.val (.ref a0), .val (.ref a0), .val (.ref a0), .val (.long (u0 - u0)), .second, .val (.long t31), .second, .val (.long t32), .second, .unset, .unset, .unset, .unset, .unset, .unset] []) _
  refine own_step (fun t k => XS.aloadN X0.here hx rfl (hb hby own_d5_37) rfl rfl k) ?_
  refine own_step (fun t k => XS.iconst X0.here hx rfl (hb hby own_d5_38) k) ?_
  refine own_step (own_ldJ X0 hx hZ e0 V0 (j := (3 : Int32)) (v := (.long u3)) ⟨by decide, by decide⟩ rfl (g := (mkF m 39 #[.val (.ref a0), .val (.ref a0), .val (.ref a0), .val (.long (u0 - u0)), .second, .val (.long t31), .second, .val (.long t32), .second, .unset, .unset, .unset, .unset, .unset, .unset] [(.int (3 : Int32)), (.ref a0)])) rfl rfl (hb hby own_d5_39)) ?_
  show own_Run p e below s₁ (mkF m 40 #[.val (.ref a0), .val (.ref a0), .val (.ref a0), .val (.long (u0 - u0)), .second, .val (.long t31), .second, .val (.long t32), .second, .unset, .unset, .unset, .unset, .unset, .unset] [(.long u3)]) _
  refine own_step (fun t k => XS.aloadN X0.here hx rfl (hb hby own_d5_40) rfl rfl k) ?_
  refine own_step (fun t k => XS.iconst X0.here hx rfl (hb hby own_d5_41) k) ?_
  refine own_step (own_ldJ X0 hx hZ e0 V0 (j := (3 : Int32)) (v := (.long u3)) ⟨by decide, by decide⟩ rfl (g := (mkF m 42 #[.val (.ref a0), .val (.ref a0), .val (.ref a0), .val (.long (u0 - u0)), .second, .val (.long t31), .second, .val (.long t32), .second, .unset, .unset, .unset, .unset, .unset, .unset] [(.int (3 : Int32)), (.ref a0), (.long u3)])) rfl rfl (hb hby own_d5_42)) ?_
  show own_Run p e below s₁ (mkF m 43 #[.val (.ref a0), .val (.ref a0), .val (.ref a0), .val (.long (u0 - u0)), .second, .val (.long t31), .second, .val (.long t32), .second, .unset, .unset, .unset, .unset, .unset, .unset] [(.long u3), (.long u3)]) _
  refine own_step (fun t k => XS.lsub X0.here hx rfl (hb hby own_d5_43) rfl k) ?_
  show own_Run p e below s₁ (mkF m 44 #[.val (.ref a0), .val (.ref a0), .val (.ref a0), .val (.long (u0 - u0)), .second, .val (.long t31), .second, .val (.long t32), .second, .unset, .unset, .unset, .unset, .unset, .unset] [(.long (u3 - u3))]) _
  refine own_step (fun t k => XS.lload X0.here hx rfl (hb hby own_d5_44) rfl  k) ?_
  refine own_step (fun t k => XS.bipush X0.here hx rfl (hb hby own_d5_46) k) ?_
  refine own_step (fun t k => XS.lshr X0.here hx rfl (hb hby own_d5_48) rfl k) ?_
  show own_Run p e below s₁ (mkF m 49 #[.val (.ref a0), .val (.ref a0), .val (.ref a0), .val (.long (u0 - u0)), .second, .val (.long t31), .second, .val (.long t32), .second, .unset, .unset, .unset, .unset, .unset, .unset] [(.long (own_shrL t32 (52 : Int32))), (.long (u3 - u3))]) _
  refine own_step (fun t k => XS.ladd X0.here hx rfl (hb hby own_d5_49) rfl k) ?_
  show own_Run p e below s₁ (mkF m 50 #[.val (.ref a0), .val (.ref a0), .val (.ref a0), .val (.long (u0 - u0)), .second, .val (.long t31), .second, .val (.long t32), .second, .unset, .unset, .unset, .unset, .unset, .unset] [(.long ((u3 - u3) + (own_shrL t32 (52 : Int32))))]) _
  obtain ⟨t33, ht33⟩ : ∃ z : Int64, z = ((u3 - u3) + (own_shrL t32 (52 : Int32))) := ⟨_, rfl⟩
  refine own_step (fun t k => XS.lstore X0.here hx rfl (hb hby own_d5_50) rfl (l' := #[.val (.ref a0), .val (.ref a0), .val (.ref a0), .val (.long (u0 - u0)), .second, .val (.long t31), .second, .val (.long t32), .second, .val (.long t33), .second, .unset, .unset, .unset, .unset]) (by subst ht33; rfl) k) ?_
  show own_Run p e below s₁ (mkF m 52 #[.val (.ref a0), .val (.ref a0), .val (.ref a0), .val (.long (u0 - u0)), .second, .val (.long t31), .second, .val (.long t32), .second, .val (.long t33), .second, .unset, .unset, .unset, .unset] []) _
  refine own_step (fun t k => XS.aloadN X0.here hx rfl (hb hby own_d5_52) rfl rfl k) ?_
  refine own_step (fun t k => XS.iconst X0.here hx rfl (hb hby own_d5_53) k) ?_
  refine own_step (own_ldJ X0 hx hZ e0 V0 (j := (4 : Int32)) (v := (.long u4)) ⟨by decide, by decide⟩ rfl (g := (mkF m 54 #[.val (.ref a0), .val (.ref a0), .val (.ref a0), .val (.long (u0 - u0)), .second, .val (.long t31), .second, .val (.long t32), .second, .val (.long t33), .second, .unset, .unset, .unset, .unset] [(.int (4 : Int32)), (.ref a0)])) rfl rfl (hb hby own_d5_54)) ?_
  show own_Run p e below s₁ (mkF m 55 #[.val (.ref a0), .val (.ref a0), .val (.ref a0), .val (.long (u0 - u0)), .second, .val (.long t31), .second, .val (.long t32), .second, .val (.long t33), .second, .unset, .unset, .unset, .unset] [(.long u4)]) _
  refine own_step (fun t k => XS.aloadN X0.here hx rfl (hb hby own_d5_55) rfl rfl k) ?_
  refine own_step (fun t k => XS.iconst X0.here hx rfl (hb hby own_d5_56) k) ?_
  refine own_step (own_ldJ X0 hx hZ e0 V0 (j := (4 : Int32)) (v := (.long u4)) ⟨by decide, by decide⟩ rfl (g := (mkF m 57 #[.val (.ref a0), .val (.ref a0), .val (.ref a0), .val (.long (u0 - u0)), .second, .val (.long t31), .second, .val (.long t32), .second, .val (.long t33), .second, .unset, .unset, .unset, .unset] [(.int (4 : Int32)), (.ref a0), (.long u4)])) rfl rfl (hb hby own_d5_57)) ?_
  show own_Run p e below s₁ (mkF m 58 #[.val (.ref a0), .val (.ref a0), .val (.ref a0), .val (.long (u0 - u0)), .second, .val (.long t31), .second, .val (.long t32), .second, .val (.long t33), .second, .unset, .unset, .unset, .unset] [(.long u4), (.long u4)]) _
  refine own_step (fun t k => XS.lsub X0.here hx rfl (hb hby own_d5_58) rfl k) ?_
  show own_Run p e below s₁ (mkF m 59 #[.val (.ref a0), .val (.ref a0), .val (.ref a0), .val (.long (u0 - u0)), .second, .val (.long t31), .second, .val (.long t32), .second, .val (.long t33), .second, .unset, .unset, .unset, .unset] [(.long (u4 - u4))]) _
  refine own_step (fun t k => XS.lload X0.here hx rfl (hb hby own_d5_59) rfl  k) ?_
  refine own_step (fun t k => XS.bipush X0.here hx rfl (hb hby own_d5_61) k) ?_
  refine own_step (fun t k => XS.lshr X0.here hx rfl (hb hby own_d5_63) rfl k) ?_
  show own_Run p e below s₁ (mkF m 64 #[.val (.ref a0), .val (.ref a0), .val (.ref a0), .val (.long (u0 - u0)), .second, .val (.long t31), .second, .val (.long t32), .second, .val (.long t33), .second, .unset, .unset, .unset, .unset] [(.long (own_shrL t33 (52 : Int32))), (.long (u4 - u4))]) _
  refine own_step (fun t k => XS.ladd X0.here hx rfl (hb hby own_d5_64) rfl k) ?_
  show own_Run p e below s₁ (mkF m 65 #[.val (.ref a0), .val (.ref a0), .val (.ref a0), .val (.long (u0 - u0)), .second, .val (.long t31), .second, .val (.long t32), .second, .val (.long t33), .second, .unset, .unset, .unset, .unset] [(.long ((u4 - u4) + (own_shrL t33 (52 : Int32))))]) _
  obtain ⟨t34, ht34⟩ : ∃ z : Int64, z = ((u4 - u4) + (own_shrL t33 (52 : Int32))) := ⟨_, rfl⟩
  refine own_step (fun t k => XS.lstore X0.here hx rfl (hb hby own_d5_65) rfl (l' := #[.val (.ref a0), .val (.ref a0), .val (.ref a0), .val (.long (u0 - u0)), .second, .val (.long t31), .second, .val (.long t32), .second, .val (.long t33), .second, .val (.long t34), .second, .unset, .unset]) (by subst ht34; rfl) k) ?_
  show own_Run p e below s₁ (mkF m 67 #[.val (.ref a0), .val (.ref a0), .val (.ref a0), .val (.long (u0 - u0)), .second, .val (.long t31), .second, .val (.long t32), .second, .val (.long t33), .second, .val (.long t34), .second, .unset, .unset] []) _
  refine own_step (fun t k => XS.lload X0.here hx rfl (hb hby own_d5_67) rfl  k) ?_
  refine own_step (fun t k => XS.bipush X0.here hx rfl (hb hby own_d5_69) k) ?_
  refine own_step (fun t k => XS.lshr X0.here hx rfl (hb hby own_d5_71) rfl k) ?_
  show own_Run p e below s₁ (mkF m 72 #[.val (.ref a0), .val (.ref a0), .val (.ref a0), .val (.long (u0 - u0)), .second, .val (.long t31), .second, .val (.long t32), .second, .val (.long t33), .second, .val (.long t34), .second, .unset, .unset] [(.long (own_shrL t34 (63 : Int32)))]) _
  obtain ⟨t35, ht35⟩ : ∃ z : Int64, z = (own_shrL t34 (63 : Int32)) := ⟨_, rfl⟩
  refine own_step (fun t k => XS.lstore X0.here hx rfl (hb hby own_d5_72) rfl (l' := #[.val (.ref a0), .val (.ref a0), .val (.ref a0), .val (.long (u0 - u0)), .second, .val (.long t31), .second, .val (.long t32), .second, .val (.long t33), .second, .val (.long t34), .second, .val (.long t35), .second]) (by subst ht35; rfl) k) ?_
  show own_Run p e below s₁ (mkF m 74 #[.val (.ref a0), .val (.ref a0), .val (.ref a0), .val (.long (u0 - u0)), .second, .val (.long t31), .second, .val (.long t32), .second, .val (.long t33), .second, .val (.long t34), .second, .val (.long t35), .second] []) _
  refine own_step (fun t k => XS.lloadN X0.here hx rfl (hb hby own_d5_74) rfl  k) ?_
  refine own_step (fun t k => X0.ldc2Long hx hown (mvT hZ (hw _ (List.mem_of_getElem? (i := 25) rfl))) (g := (mkF m 75 #[.val (.ref a0), .val (.ref a0), .val (.ref a0), .val (.long (u0 - u0)), .second, .val (.long t31), .second, .val (.long t32), .second, .val (.long t33), .second, .val (.long t34), .second, .val (.long t35), .second] [(.long (u0 - u0))])) rfl (hb hby own_d5_75) t k) ?_
  show own_Run p e below s₁ (mkF m 78 #[.val (.ref a0), .val (.ref a0), .val (.ref a0), .val (.long (u0 - u0)), .second, .val (.long t31), .second, .val (.long t32), .second, .val (.long t33), .second, .val (.long t34), .second, .val (.long t35), .second] [(.long (4503599627370495 : Int64)), (.long (u0 - u0))]) _
  refine own_step (fun t k => XS.land X0.here hx rfl (hb hby own_d5_78) rfl k) ?_
  show own_Run p e below s₁ (mkF m 79 #[.val (.ref a0), .val (.ref a0), .val (.ref a0), .val (.long (u0 - u0)), .second, .val (.long t31), .second, .val (.long t32), .second, .val (.long t33), .second, .val (.long t34), .second, .val (.long t35), .second] [(.long ((u0 - u0) &&& (4503599627370495 : Int64)))]) _
  obtain ⟨T36, X36, e36, st36⟩ := getS2 X0 hx hZ hown (host := "") (Or.inl (hw _ (List.mem_of_getElem? (i := 26) rfl))) Via.refl e0 Sp (g := (mkF m 79 #[.val (.ref a0), .val (.ref a0), .val (.ref a0), .val (.long (u0 - u0)), .second, .val (.long t31), .second, .val (.long t32), .second, .val (.long t33), .second, .val (.long t34), .second, .val (.long t35), .second] [(.long ((u0 - u0) &&& (4503599627370495 : Int64)))])) rfl (hb hby own_d5_79)
  refine own_step st36 ?_
  show own_Run p e below T36 (mkF m 82 #[.val (.ref a0), .val (.ref a0), .val (.ref a0), .val (.long (u0 - u0)), .second, .val (.long t31), .second, .val (.long t32), .second, .val (.long t33), .second, .val (.long t34), .second, .val (.long t35), .second] [(.ref pl), (.long ((u0 - u0) &&& (4503599627370495 : Int64)))]) _
  refine own_step (fun t k => XS.iconst X36.here hx rfl (hb hby own_d5_82) k) ?_
  refine own_step (own_ldJ X36 hx hZ e36 Vp (j := (0 : Int32)) (v := (.long (4503599627370495 : Int64))) ⟨by decide, by decide⟩ rfl (g := (mkF m 83 #[.val (.ref a0), .val (.ref a0), .val (.ref a0), .val (.long (u0 - u0)), .second, .val (.long t31), .second, .val (.long t32), .second, .val (.long t33), .second, .val (.long t34), .second, .val (.long t35), .second] [(.int (0 : Int32)), (.ref pl), (.long ((u0 - u0) &&& (4503599627370495 : Int64)))])) rfl rfl (hb hby own_d5_83)) ?_
  show own_Run p e below T36 (mkF m 84 #[.val (.ref a0), .val (.ref a0), .val (.ref a0), .val (.long (u0 - u0)), .second, .val (.long t31), .second, .val (.long t32), .second, .val (.long t33), .second, .val (.long t34), .second, .val (.long t35), .second] [(.long (4503599627370495 : Int64)), (.long ((u0 - u0) &&& (4503599627370495 : Int64)))]) _
  refine own_step (fun t k => XS.lload X36.here hx rfl (hb hby own_d5_84) rfl  k) ?_
  refine own_step (fun t k => XS.land X36.here hx rfl (hb hby own_d5_86) rfl k) ?_
  show own_Run p e below T36 (mkF m 87 #[.val (.ref a0), .val (.ref a0), .val (.ref a0), .val (.long (u0 - u0)), .second, .val (.long t31), .second, .val (.long t32), .second, .val (.long t33), .second, .val (.long t34), .second, .val (.long t35), .second] [(.long ((4503599627370495 : Int64) &&& t35)), (.long ((u0 - u0) &&& (4503599627370495 : Int64)))]) _
  refine own_step (fun t k => XS.ladd X36.here hx rfl (hb hby own_d5_87) rfl k) ?_
  show own_Run p e below T36 (mkF m 88 #[.val (.ref a0), .val (.ref a0), .val (.ref a0), .val (.long (u0 - u0)), .second, .val (.long t31), .second, .val (.long t32), .second, .val (.long t33), .second, .val (.long t34), .second, .val (.long t35), .second] [(.long (((u0 - u0) &&& (4503599627370495 : Int64)) + ((4503599627370495 : Int64) &&& t35)))]) _
  obtain ⟨t37, ht37⟩ : ∃ z : Int64, z = (((u0 - u0) &&& (4503599627370495 : Int64)) + ((4503599627370495 : Int64) &&& t35)) := ⟨_, rfl⟩
  refine own_step (fun t k => XS.lstoreN X36.here hx rfl (hb hby own_d5_88) rfl (l' := #[.val (.ref a0), .val (.ref a0), .val (.ref a0), .val (.long t37), .second, .val (.long t31), .second, .val (.long t32), .second, .val (.long t33), .second, .val (.long t34), .second, .val (.long t35), .second]) (by subst ht37; rfl) k) ?_
  show own_Run p e below T36 (mkF m 89 #[.val (.ref a0), .val (.ref a0), .val (.ref a0), .val (.long t37), .second, .val (.long t31), .second, .val (.long t32), .second, .val (.long t33), .second, .val (.long t34), .second, .val (.long t35), .second] []) _
  refine own_step (fun t k => XS.lload X36.here hx rfl (hb hby own_d5_89) rfl  k) ?_
  refine own_step (fun t k => X36.ldc2Long hx hown (mvT hZ (hw _ (List.mem_of_getElem? (i := 25) rfl))) (g := (mkF m 91 #[.val (.ref a0), .val (.ref a0), .val (.ref a0), .val (.long t37), .second, .val (.long t31), .second, .val (.long t32), .second, .val (.long t33), .second, .val (.long t34), .second, .val (.long t35), .second] [(.long t31)])) rfl (hb hby own_d5_91) t k) ?_
  show own_Run p e below T36 (mkF m 94 #[.val (.ref a0), .val (.ref a0), .val (.ref a0), .val (.long t37), .second, .val (.long t31), .second, .val (.long t32), .second, .val (.long t33), .second, .val (.long t34), .second, .val (.long t35), .second] [(.long (4503599627370495 : Int64)), (.long t31)]) _
  refine own_step (fun t k => XS.land X36.here hx rfl (hb hby own_d5_94) rfl k) ?_
  show own_Run p e below T36 (mkF m 95 #[.val (.ref a0), .val (.ref a0), .val (.ref a0), .val (.long t37), .second, .val (.long t31), .second, .val (.long t32), .second, .val (.long t33), .second, .val (.long t34), .second, .val (.long t35), .second] [(.long (t31 &&& (4503599627370495 : Int64)))]) _
  obtain ⟨T38, X38, e38, st38⟩ := getS2 X36 hx hZ hown (host := "") (Or.inl (hw _ (List.mem_of_getElem? (i := 26) rfl))) Via.refl e36 Sp (g := (mkF m 95 #[.val (.ref a0), .val (.ref a0), .val (.ref a0), .val (.long t37), .second, .val (.long t31), .second, .val (.long t32), .second, .val (.long t33), .second, .val (.long t34), .second, .val (.long t35), .second] [(.long (t31 &&& (4503599627370495 : Int64)))])) rfl (hb hby own_d5_95)
  refine own_step st38 ?_
  show own_Run p e below T38 (mkF m 98 #[.val (.ref a0), .val (.ref a0), .val (.ref a0), .val (.long t37), .second, .val (.long t31), .second, .val (.long t32), .second, .val (.long t33), .second, .val (.long t34), .second, .val (.long t35), .second] [(.ref pl), (.long (t31 &&& (4503599627370495 : Int64)))]) _
  refine own_step (fun t k => XS.iconst X38.here hx rfl (hb hby own_d5_98) k) ?_
  refine own_step (own_ldJ X38 hx hZ e38 Vp (j := (1 : Int32)) (v := (.long (4486007441330175 : Int64))) ⟨by decide, by decide⟩ rfl (g := (mkF m 99 #[.val (.ref a0), .val (.ref a0), .val (.ref a0), .val (.long t37), .second, .val (.long t31), .second, .val (.long t32), .second, .val (.long t33), .second, .val (.long t34), .second, .val (.long t35), .second] [(.int (1 : Int32)), (.ref pl), (.long (t31 &&& (4503599627370495 : Int64)))])) rfl rfl (hb hby own_d5_99)) ?_
  show own_Run p e below T38 (mkF m 100 #[.val (.ref a0), .val (.ref a0), .val (.ref a0), .val (.long t37), .second, .val (.long t31), .second, .val (.long t32), .second, .val (.long t33), .second, .val (.long t34), .second, .val (.long t35), .second] [(.long (4486007441330175 : Int64)), (.long (t31 &&& (4503599627370495 : Int64)))]) _
  refine own_step (fun t k => XS.lload X38.here hx rfl (hb hby own_d5_100) rfl  k) ?_
  refine own_step (fun t k => XS.land X38.here hx rfl (hb hby own_d5_102) rfl k) ?_
  show own_Run p e below T38 (mkF m 103 #[.val (.ref a0), .val (.ref a0), .val (.ref a0), .val (.long t37), .second, .val (.long t31), .second, .val (.long t32), .second, .val (.long t33), .second, .val (.long t34), .second, .val (.long t35), .second] [(.long ((4486007441330175 : Int64) &&& t35)), (.long (t31 &&& (4503599627370495 : Int64)))]) _
  refine own_step (fun t k => XS.ladd X38.here hx rfl (hb hby own_d5_103) rfl k) ?_
  show own_Run p e below T38 (mkF m 104 #[.val (.ref a0), .val (.ref a0), .val (.ref a0), .val (.long t37), .second, .val (.long t31), .second, .val (.long t32), .second, .val (.long t33), .second, .val (.long t34), .second, .val (.long t35), .second] [(.long ((t31 &&& (4503599627370495 : Int64)) + ((4486007441330175 : Int64) &&& t35)))]) _
  refine own_step (fun t k => XS.lloadN X38.here hx rfl (hb hby own_d5_104) rfl  k) ?_
  refine own_step (fun t k => XS.bipush X38.here hx rfl (hb hby own_d5_105) k) ?_
  refine own_step (fun t k => XS.lshr X38.here hx rfl (hb hby own_d5_107) rfl k) ?_
  show own_Run p e below T38 (mkF m 108 #[.val (.ref a0), .val (.ref a0), .val (.ref a0), .val (.long t37), .second, .val (.long t31), .second, .val (.long t32), .second, .val (.long t33), .second, .val (.long t34), .second, .val (.long t35), .second] [(.long (own_shrL t37 (52 : Int32))), (.long ((t31 &&& (4503599627370495 : Int64)) + ((4486007441330175 : Int64) &&& t35)))]) _
  refine own_step (fun t k => XS.ladd X38.here hx rfl (hb hby own_d5_108) rfl k) ?_
  show own_Run p e below T38 (mkF m 109 #[.val (.ref a0), .val (.ref a0), .val (.ref a0), .val (.long t37), .second, .val (.long t31), .second, .val (.long t32), .second, .val (.long t33), .second, .val (.long t34), .second, .val (.long t35), .second] [(.long (((t31 &&& (4503599627370495 : Int64)) + ((4486007441330175 : Int64) &&& t35)) + (own_shrL t37 (52 : Int32))))]) _
  obtain ⟨t39, ht39⟩ : ∃ z : Int64, z = (((t31 &&& (4503599627370495 : Int64)) + ((4486007441330175 : Int64) &&& t35)) + (own_shrL t37 (52 : Int32))) := ⟨_, rfl⟩
  refine own_step (fun t k => XS.lstore X38.here hx rfl (hb hby own_d5_109) rfl (l' := #[.val (.ref a0), .val (.ref a0), .val (.ref a0), .val (.long t37), .second, .val (.long t39), .second, .val (.long t32), .second, .val (.long t33), .second, .val (.long t34), .second, .val (.long t35), .second]) (by subst ht39; rfl) k) ?_
  show own_Run p e below T38 (mkF m 111 #[.val (.ref a0), .val (.ref a0), .val (.ref a0), .val (.long t37), .second, .val (.long t39), .second, .val (.long t32), .second, .val (.long t33), .second, .val (.long t34), .second, .val (.long t35), .second] []) _
  refine own_step (fun t k => XS.lload X38.here hx rfl (hb hby own_d5_111) rfl  k) ?_
  refine own_step (fun t k => X38.ldc2Long hx hown (mvT hZ (hw _ (List.mem_of_getElem? (i := 25) rfl))) (g := (mkF m 113 #[.val (.ref a0), .val (.ref a0), .val (.ref a0), .val (.long t37), .second, .val (.long t39), .second, .val (.long t32), .second, .val (.long t33), .second, .val (.long t34), .second, .val (.long t35), .second] [(.long t32)])) rfl (hb hby own_d5_113) t k) ?_
  show own_Run p e below T38 (mkF m 116 #[.val (.ref a0), .val (.ref a0), .val (.ref a0), .val (.long t37), .second, .val (.long t39), .second, .val (.long t32), .second, .val (.long t33), .second, .val (.long t34), .second, .val (.long t35), .second] [(.long (4503599627370495 : Int64)), (.long t32)]) _
  refine own_step (fun t k => XS.land X38.here hx rfl (hb hby own_d5_116) rfl k) ?_
  show own_Run p e below T38 (mkF m 117 #[.val (.ref a0), .val (.ref a0), .val (.ref a0), .val (.long t37), .second, .val (.long t39), .second, .val (.long t32), .second, .val (.long t33), .second, .val (.long t34), .second, .val (.long t35), .second] [(.long (t32 &&& (4503599627370495 : Int64)))]) _
  obtain ⟨T40, X40, e40, st40⟩ := getS2 X38 hx hZ hown (host := "") (Or.inl (hw _ (List.mem_of_getElem? (i := 26) rfl))) Via.refl e38 Sp (g := (mkF m 117 #[.val (.ref a0), .val (.ref a0), .val (.ref a0), .val (.long t37), .second, .val (.long t39), .second, .val (.long t32), .second, .val (.long t33), .second, .val (.long t34), .second, .val (.long t35), .second] [(.long (t32 &&& (4503599627370495 : Int64)))])) rfl (hb hby own_d5_117)
  refine own_step st40 ?_
  show own_Run p e below T40 (mkF m 120 #[.val (.ref a0), .val (.ref a0), .val (.ref a0), .val (.long t37), .second, .val (.long t39), .second, .val (.long t32), .second, .val (.long t33), .second, .val (.long t34), .second, .val (.long t35), .second] [(.ref pl), (.long (t32 &&& (4503599627370495 : Int64)))]) _
  refine own_step (fun t k => XS.iconst X40.here hx rfl (hb hby own_d5_120) k) ?_
  refine own_step (own_ldJ X40 hx hZ e40 Vp (j := (2 : Int32)) (v := (.long (4503599627370495 : Int64))) ⟨by decide, by decide⟩ rfl (g := (mkF m 121 #[.val (.ref a0), .val (.ref a0), .val (.ref a0), .val (.long t37), .second, .val (.long t39), .second, .val (.long t32), .second, .val (.long t33), .second, .val (.long t34), .second, .val (.long t35), .second] [(.int (2 : Int32)), (.ref pl), (.long (t32 &&& (4503599627370495 : Int64)))])) rfl rfl (hb hby own_d5_121)) ?_
  show own_Run p e below T40 (mkF m 122 #[.val (.ref a0), .val (.ref a0), .val (.ref a0), .val (.long t37), .second, .val (.long t39), .second, .val (.long t32), .second, .val (.long t33), .second, .val (.long t34), .second, .val (.long t35), .second] [(.long (4503599627370495 : Int64)), (.long (t32 &&& (4503599627370495 : Int64)))]) _
  refine own_step (fun t k => XS.lload X40.here hx rfl (hb hby own_d5_122) rfl  k) ?_
  refine own_step (fun t k => XS.land X40.here hx rfl (hb hby own_d5_124) rfl k) ?_
  show own_Run p e below T40 (mkF m 125 #[.val (.ref a0), .val (.ref a0), .val (.ref a0), .val (.long t37), .second, .val (.long t39), .second, .val (.long t32), .second, .val (.long t33), .second, .val (.long t34), .second, .val (.long t35), .second] [(.long ((4503599627370495 : Int64) &&& t35)), (.long (t32 &&& (4503599627370495 : Int64)))]) _
  refine own_step (fun t k => XS.ladd X40.here hx rfl (hb hby own_d5_125) rfl k) ?_
  show own_Run p e below T40 (mkF m 126 #[.val (.ref a0), .val (.ref a0), .val (.ref a0), .val (.long t37), .second, .val (.long t39), .second, .val (.long t32), .second, .val (.long t33), .second, .val (.long t34), .second, .val (.long t35), .second] [(.long ((t32 &&& (4503599627370495 : Int64)) + ((4503599627370495 : Int64) &&& t35)))]) _
  refine own_step (fun t k => XS.lload X40.here hx rfl (hb hby own_d5_126) rfl  k) ?_
  refine own_step (fun t k => XS.bipush X40.here hx rfl (hb hby own_d5_128) k) ?_
  refine own_step (fun t k => XS.lshr X40.here hx rfl (hb hby own_d5_130) rfl k) ?_
  show own_Run p e below T40 (mkF m 131 #[.val (.ref a0), .val (.ref a0), .val (.ref a0), .val (.long t37), .second, .val (.long t39), .second, .val (.long t32), .second, .val (.long t33), .second, .val (.long t34), .second, .val (.long t35), .second] [(.long (own_shrL t39 (52 : Int32))), (.long ((t32 &&& (4503599627370495 : Int64)) + ((4503599627370495 : Int64) &&& t35)))]) _
  refine own_step (fun t k => XS.ladd X40.here hx rfl (hb hby own_d5_131) rfl k) ?_
  show own_Run p e below T40 (mkF m 132 #[.val (.ref a0), .val (.ref a0), .val (.ref a0), .val (.long t37), .second, .val (.long t39), .second, .val (.long t32), .second, .val (.long t33), .second, .val (.long t34), .second, .val (.long t35), .second] [(.long (((t32 &&& (4503599627370495 : Int64)) + ((4503599627370495 : Int64) &&& t35)) + (own_shrL t39 (52 : Int32))))]) _
  obtain ⟨t41, ht41⟩ : ∃ z : Int64, z = (((t32 &&& (4503599627370495 : Int64)) + ((4503599627370495 : Int64) &&& t35)) + (own_shrL t39 (52 : Int32))) := ⟨_, rfl⟩
  refine own_step (fun t k => XS.lstore X40.here hx rfl (hb hby own_d5_132) rfl (l' := #[.val (.ref a0), .val (.ref a0), .val (.ref a0), .val (.long t37), .second, .val (.long t39), .second, .val (.long t41), .second, .val (.long t33), .second, .val (.long t34), .second, .val (.long t35), .second]) (by subst ht41; rfl) k) ?_
  show own_Run p e below T40 (mkF m 134 #[.val (.ref a0), .val (.ref a0), .val (.ref a0), .val (.long t37), .second, .val (.long t39), .second, .val (.long t41), .second, .val (.long t33), .second, .val (.long t34), .second, .val (.long t35), .second] []) _
  refine own_step (fun t k => XS.lload X40.here hx rfl (hb hby own_d5_134) rfl  k) ?_
  refine own_step (fun t k => X40.ldc2Long hx hown (mvT hZ (hw _ (List.mem_of_getElem? (i := 25) rfl))) (g := (mkF m 136 #[.val (.ref a0), .val (.ref a0), .val (.ref a0), .val (.long t37), .second, .val (.long t39), .second, .val (.long t41), .second, .val (.long t33), .second, .val (.long t34), .second, .val (.long t35), .second] [(.long t33)])) rfl (hb hby own_d5_136) t k) ?_
  show own_Run p e below T40 (mkF m 139 #[.val (.ref a0), .val (.ref a0), .val (.ref a0), .val (.long t37), .second, .val (.long t39), .second, .val (.long t41), .second, .val (.long t33), .second, .val (.long t34), .second, .val (.long t35), .second] [(.long (4503599627370495 : Int64)), (.long t33)]) _
  refine own_step (fun t k => XS.land X40.here hx rfl (hb hby own_d5_139) rfl k) ?_
  show own_Run p e below T40 (mkF m 140 #[.val (.ref a0), .val (.ref a0), .val (.ref a0), .val (.long t37), .second, .val (.long t39), .second, .val (.long t41), .second, .val (.long t33), .second, .val (.long t34), .second, .val (.long t35), .second] [(.long (t33 &&& (4503599627370495 : Int64)))]) _
  obtain ⟨T42, X42, e42, st42⟩ := getS2 X40 hx hZ hown (host := "") (Or.inl (hw _ (List.mem_of_getElem? (i := 26) rfl))) Via.refl e40 Sp (g := (mkF m 140 #[.val (.ref a0), .val (.ref a0), .val (.ref a0), .val (.long t37), .second, .val (.long t39), .second, .val (.long t41), .second, .val (.long t33), .second, .val (.long t34), .second, .val (.long t35), .second] [(.long (t33 &&& (4503599627370495 : Int64)))])) rfl (hb hby own_d5_140)
  refine own_step st42 ?_
  show own_Run p e below T42 (mkF m 143 #[.val (.ref a0), .val (.ref a0), .val (.ref a0), .val (.long t37), .second, .val (.long t39), .second, .val (.long t41), .second, .val (.long t33), .second, .val (.long t34), .second, .val (.long t35), .second] [(.ref pl), (.long (t33 &&& (4503599627370495 : Int64)))]) _
  refine own_step (fun t k => XS.iconst X42.here hx rfl (hb hby own_d5_143) k) ?_
  refine own_step (own_ldJ X42 hx hZ e42 Vp (j := (3 : Int32)) (v := (.long (4503599627370495 : Int64))) ⟨by decide, by decide⟩ rfl (g := (mkF m 144 #[.val (.ref a0), .val (.ref a0), .val (.ref a0), .val (.long t37), .second, .val (.long t39), .second, .val (.long t41), .second, .val (.long t33), .second, .val (.long t34), .second, .val (.long t35), .second] [(.int (3 : Int32)), (.ref pl), (.long (t33 &&& (4503599627370495 : Int64)))])) rfl rfl (hb hby own_d5_144)) ?_
  show own_Run p e below T42 (mkF m 145 #[.val (.ref a0), .val (.ref a0), .val (.ref a0), .val (.long t37), .second, .val (.long t39), .second, .val (.long t41), .second, .val (.long t33), .second, .val (.long t34), .second, .val (.long t35), .second] [(.long (4503599627370495 : Int64)), (.long (t33 &&& (4503599627370495 : Int64)))]) _
  refine own_step (fun t k => XS.lload X42.here hx rfl (hb hby own_d5_145) rfl  k) ?_
  refine own_step (fun t k => XS.land X42.here hx rfl (hb hby own_d5_147) rfl k) ?_
  show own_Run p e below T42 (mkF m 148 #[.val (.ref a0), .val (.ref a0), .val (.ref a0), .val (.long t37), .second, .val (.long t39), .second, .val (.long t41), .second, .val (.long t33), .second, .val (.long t34), .second, .val (.long t35), .second] [(.long ((4503599627370495 : Int64) &&& t35)), (.long (t33 &&& (4503599627370495 : Int64)))]) _
  refine own_step (fun t k => XS.ladd X42.here hx rfl (hb hby own_d5_148) rfl k) ?_
  show own_Run p e below T42 (mkF m 149 #[.val (.ref a0), .val (.ref a0), .val (.ref a0), .val (.long t37), .second, .val (.long t39), .second, .val (.long t41), .second, .val (.long t33), .second, .val (.long t34), .second, .val (.long t35), .second] [(.long ((t33 &&& (4503599627370495 : Int64)) + ((4503599627370495 : Int64) &&& t35)))]) _
  refine own_step (fun t k => XS.lload X42.here hx rfl (hb hby own_d5_149) rfl  k) ?_
  refine own_step (fun t k => XS.bipush X42.here hx rfl (hb hby own_d5_151) k) ?_
  refine own_step (fun t k => XS.lshr X42.here hx rfl (hb hby own_d5_153) rfl k) ?_
  show own_Run p e below T42 (mkF m 154 #[.val (.ref a0), .val (.ref a0), .val (.ref a0), .val (.long t37), .second, .val (.long t39), .second, .val (.long t41), .second, .val (.long t33), .second, .val (.long t34), .second, .val (.long t35), .second] [(.long (own_shrL t41 (52 : Int32))), (.long ((t33 &&& (4503599627370495 : Int64)) + ((4503599627370495 : Int64) &&& t35)))]) _
  refine own_step (fun t k => XS.ladd X42.here hx rfl (hb hby own_d5_154) rfl k) ?_
  show own_Run p e below T42 (mkF m 155 #[.val (.ref a0), .val (.ref a0), .val (.ref a0), .val (.long t37), .second, .val (.long t39), .second, .val (.long t41), .second, .val (.long t33), .second, .val (.long t34), .second, .val (.long t35), .second] [(.long (((t33 &&& (4503599627370495 : Int64)) + ((4503599627370495 : Int64) &&& t35)) + (own_shrL t41 (52 : Int32))))]) _
  obtain ⟨t43, ht43⟩ : ∃ z : Int64, z = (((t33 &&& (4503599627370495 : Int64)) + ((4503599627370495 : Int64) &&& t35)) + (own_shrL t41 (52 : Int32))) := ⟨_, rfl⟩
  refine own_step (fun t k => XS.lstore X42.here hx rfl (hb hby own_d5_155) rfl (l' := #[.val (.ref a0), .val (.ref a0), .val (.ref a0), .val (.long t37), .second, .val (.long t39), .second, .val (.long t41), .second, .val (.long t43), .second, .val (.long t34), .second, .val (.long t35), .second]) (by subst ht43; rfl) k) ?_
  show own_Run p e below T42 (mkF m 157 #[.val (.ref a0), .val (.ref a0), .val (.ref a0), .val (.long t37), .second, .val (.long t39), .second, .val (.long t41), .second, .val (.long t43), .second, .val (.long t34), .second, .val (.long t35), .second] []) _
  refine own_step (fun t k => XS.lload X42.here hx rfl (hb hby own_d5_157) rfl  k) ?_
  obtain ⟨T44, X44, e44, st44⟩ := getS2 X42 hx hZ hown (host := "") (Or.inl (hw _ (List.mem_of_getElem? (i := 26) rfl))) Via.refl e42 Sp (g := (mkF m 159 #[.val (.ref a0), .val (.ref a0), .val (.ref a0), .val (.long t37), .second, .val (.long t39), .second, .val (.long t41), .second, .val (.long t43), .second, .val (.long t34), .second, .val (.long t35), .second] [(.long t34)])) rfl (hb hby own_d5_159)
  refine own_step st44 ?_
  show own_Run p e below T44 (mkF m 162 #[.val (.ref a0), .val (.ref a0), .val (.ref a0), .val (.long t37), .second, .val (.long t39), .second, .val (.long t41), .second, .val (.long t43), .second, .val (.long t34), .second, .val (.long t35), .second] [(.ref pl), (.long t34)]) _
  refine own_step (fun t k => XS.iconst X44.here hx rfl (hb hby own_d5_162) k) ?_
  refine own_step (own_ldJ X44 hx hZ e44 Vp (j := (4 : Int32)) (v := (.long (281474976645119 : Int64))) ⟨by decide, by decide⟩ rfl (g := (mkF m 163 #[.val (.ref a0), .val (.ref a0), .val (.ref a0), .val (.long t37), .second, .val (.long t39), .second, .val (.long t41), .second, .val (.long t43), .second, .val (.long t34), .second, .val (.long t35), .second] [(.int (4 : Int32)), (.ref pl), (.long t34)])) rfl rfl (hb hby own_d5_163)) ?_
  show own_Run p e below T44 (mkF m 164 #[.val (.ref a0), .val (.ref a0), .val (.ref a0), .val (.long t37), .second, .val (.long t39), .second, .val (.long t41), .second, .val (.long t43), .second, .val (.long t34), .second, .val (.long t35), .second] [(.long (281474976645119 : Int64)), (.long t34)]) _
  refine own_step (fun t k => XS.lload X44.here hx rfl (hb hby own_d5_164) rfl  k) ?_
  refine own_step (fun t k => XS.land X44.here hx rfl (hb hby own_d5_166) rfl k) ?_
  show own_Run p e below T44 (mkF m 167 #[.val (.ref a0), .val (.ref a0), .val (.ref a0), .val (.long t37), .second, .val (.long t39), .second, .val (.long t41), .second, .val (.long t43), .second, .val (.long t34), .second, .val (.long t35), .second] [(.long ((281474976645119 : Int64) &&& t35)), (.long t34)]) _
  refine own_step (fun t k => XS.ladd X44.here hx rfl (hb hby own_d5_167) rfl k) ?_
  show own_Run p e below T44 (mkF m 168 #[.val (.ref a0), .val (.ref a0), .val (.ref a0), .val (.long t37), .second, .val (.long t39), .second, .val (.long t41), .second, .val (.long t43), .second, .val (.long t34), .second, .val (.long t35), .second] [(.long (t34 + ((281474976645119 : Int64) &&& t35)))]) _
  refine own_step (fun t k => XS.lload X44.here hx rfl (hb hby own_d5_168) rfl  k) ?_
  refine own_step (fun t k => XS.bipush X44.here hx rfl (hb hby own_d5_170) k) ?_
  refine own_step (fun t k => XS.lshr X44.here hx rfl (hb hby own_d5_172) rfl k) ?_
  show own_Run p e below T44 (mkF m 173 #[.val (.ref a0), .val (.ref a0), .val (.ref a0), .val (.long t37), .second, .val (.long t39), .second, .val (.long t41), .second, .val (.long t43), .second, .val (.long t34), .second, .val (.long t35), .second] [(.long (own_shrL t43 (52 : Int32))), (.long (t34 + ((281474976645119 : Int64) &&& t35)))]) _
  refine own_step (fun t k => XS.ladd X44.here hx rfl (hb hby own_d5_173) rfl k) ?_
  show own_Run p e below T44 (mkF m 174 #[.val (.ref a0), .val (.ref a0), .val (.ref a0), .val (.long t37), .second, .val (.long t39), .second, .val (.long t41), .second, .val (.long t43), .second, .val (.long t34), .second, .val (.long t35), .second] [(.long ((t34 + ((281474976645119 : Int64) &&& t35)) + (own_shrL t43 (52 : Int32))))]) _
  obtain ⟨t45, ht45⟩ : ∃ z : Int64, z = ((t34 + ((281474976645119 : Int64) &&& t35)) + (own_shrL t43 (52 : Int32))) := ⟨_, rfl⟩
  refine own_step (fun t k => XS.lstore X44.here hx rfl (hb hby own_d5_174) rfl (l' := #[.val (.ref a0), .val (.ref a0), .val (.ref a0), .val (.long t37), .second, .val (.long t39), .second, .val (.long t41), .second, .val (.long t43), .second, .val (.long t45), .second, .val (.long t35), .second]) (by subst ht45; rfl) k) ?_
  show own_Run p e below T44 (mkF m 176 #[.val (.ref a0), .val (.ref a0), .val (.ref a0), .val (.long t37), .second, .val (.long t39), .second, .val (.long t41), .second, .val (.long t43), .second, .val (.long t45), .second, .val (.long t35), .second] []) _
  refine own_step (fun t k => XS.aloadN X44.here hx rfl (hb hby own_d5_176) rfl rfl k) ?_
  refine own_step (fun t k => XS.iconst X44.here hx rfl (hb hby own_d5_177) k) ?_
  refine own_step (fun t k => XS.lloadN X44.here hx rfl (hb hby own_d5_178) rfl  k) ?_
  show own_Run p e below T44 (mkF m 179 #[.val (.ref a0), .val (.ref a0), .val (.ref a0), .val (.long t37), .second, .val (.long t39), .second, .val (.long t41), .second, .val (.long t43), .second, .val (.long t45), .second, .val (.long t35), .second] [(.long t37), (.int (0 : Int32)), (.ref a0)]) _
  refine own_step (fun t k => X44.ldc2Long hx hown (mvT hZ (hw _ (List.mem_of_getElem? (i := 25) rfl))) (g := (mkF m 179 #[.val (.ref a0), .val (.ref a0), .val (.ref a0), .val (.long t37), .second, .val (.long t39), .second, .val (.long t41), .second, .val (.long t43), .second, .val (.long t45), .second, .val (.long t35), .second] [(.long t37), (.int (0 : Int32)), (.ref a0)])) rfl (hb hby own_d5_179) t k) ?_
  show own_Run p e below T44 (mkF m 182 #[.val (.ref a0), .val (.ref a0), .val (.ref a0), .val (.long t37), .second, .val (.long t39), .second, .val (.long t41), .second, .val (.long t43), .second, .val (.long t45), .second, .val (.long t35), .second] [(.long (4503599627370495 : Int64)), (.long t37), (.int (0 : Int32)), (.ref a0)]) _
  refine own_step (fun t k => XS.land X44.here hx rfl (hb hby own_d5_182) rfl k) ?_
  show own_Run p e below T44 (mkF m 183 #[.val (.ref a0), .val (.ref a0), .val (.ref a0), .val (.long t37), .second, .val (.long t39), .second, .val (.long t41), .second, .val (.long t43), .second, .val (.long t45), .second, .val (.long t35), .second] [(.long (t37 &&& (4503599627370495 : Int64))), (.int (0 : Int32)), (.ref a0)]) _
  obtain ⟨T46, h46, L46, X46, e46, N46, W46, V46, st46⟩ := own_stJ X44 hx hZ e44 V0 N0 gw (j := (0 : Int32)) ⟨by decide, by decide⟩ 0 rfl (Nat.le_of_ble_eq_true rfl) (g := (mkF m 183 #[.val (.ref a0), .val (.ref a0), .val (.ref a0), .val (.long t37), .second, .val (.long t39), .second, .val (.long t41), .second, .val (.long t43), .second, .val (.long t45), .second, .val (.long t35), .second] [(.long (t37 &&& (4503599627370495 : Int64))), (.int (0 : Int32)), (.ref a0)])) rfl rfl (hb hby own_d5_183)
  have V46x : Arv Z h46 a0 k0 .long (5 : Int32) [(.long (t37 &&& (4503599627370495 : Int64))), (.long u1), (.long u2), (.long u3), (.long u4)] (.long (0 : Int64)) := V46
  have f47 := Sta.wr W46 Sp
  have f48 := Vp.other W46 nep
  have Zn46 : n0 ≤ h46.size := Nat.le_trans Z0 (Keep.of_wr W46).1
  have K46 : Keep h0 h46 [a0] := (Keep.refl h0 [a0]).wr W46 (Or.inl (List.mem_of_getElem? (i := 0) rfl))
  refine own_step st46 ?_
  show own_Run p e below T46 (mkF m 184 #[.val (.ref a0), .val (.ref a0), .val (.ref a0), .val (.long t37), .second, .val (.long t39), .second, .val (.long t41), .second, .val (.long t43), .second, .val (.long t45), .second, .val (.long t35), .second] []) _
  refine own_step (fun t k => XS.aloadN X46.here hx rfl (hb hby own_d5_184) rfl rfl k) ?_
  refine own_step (fun t k => XS.iconst X46.here hx rfl (hb hby own_d5_185) k) ?_
  refine own_step (fun t k => XS.lload X46.here hx rfl (hb hby own_d5_186) rfl  k) ?_
  show own_Run p e below T46 (mkF m 188 #[.val (.ref a0), .val (.ref a0), .val (.ref a0), .val (.long t37), .second, .val (.long t39), .second, .val (.long t41), .second, .val (.long t43), .second, .val (.long t45), .second, .val (.long t35), .second] [(.long t39), (.int (1 : Int32)), (.ref a0)]) _
  refine own_step (fun t k => X46.ldc2Long hx hown (mvT hZ (hw _ (List.mem_of_getElem? (i := 25) rfl))) (g := (mkF m 188 #[.val (.ref a0), .val (.ref a0), .val (.ref a0), .val (.long t37), .second, .val (.long t39), .second, .val (.long t41), .second, .val (.long t43), .second, .val (.long t45), .second, .val (.long t35), .second] [(.long t39), (.int (1 : Int32)), (.ref a0)])) rfl (hb hby own_d5_188) t k) ?_
  show own_Run p e below T46 (mkF m 191 #[.val (.ref a0), .val (.ref a0), .val (.ref a0), .val (.long t37), .second, .val (.long t39), .second, .val (.long t41), .second, .val (.long t43), .second, .val (.long t45), .second, .val (.long t35), .second] [(.long (4503599627370495 : Int64)), (.long t39), (.int (1 : Int32)), (.ref a0)]) _
  refine own_step (fun t k => XS.land X46.here hx rfl (hb hby own_d5_191) rfl k) ?_
  show own_Run p e below T46 (mkF m 192 #[.val (.ref a0), .val (.ref a0), .val (.ref a0), .val (.long t37), .second, .val (.long t39), .second, .val (.long t41), .second, .val (.long t43), .second, .val (.long t45), .second, .val (.long t35), .second] [(.long (t39 &&& (4503599627370495 : Int64))), (.int (1 : Int32)), (.ref a0)]) _
  obtain ⟨T49, h49, L49, X49, e49, N49, W49, V49, st49⟩ := own_stJ X46 hx hZ e46 V46x N46 gw (j := (1 : Int32)) ⟨by decide, by decide⟩ 1 rfl (Nat.le_of_ble_eq_true rfl) (g := (mkF m 192 #[.val (.ref a0), .val (.ref a0), .val (.ref a0), .val (.long t37), .second, .val (.long t39), .second, .val (.long t41), .second, .val (.long t43), .second, .val (.long t45), .second, .val (.long t35), .second] [(.long (t39 &&& (4503599627370495 : Int64))), (.int (1 : Int32)), (.ref a0)])) rfl rfl (hb hby own_d5_192)
  have V49x : Arv Z h49 a0 k0 .long (5 : Int32) [(.long (t37 &&& (4503599627370495 : Int64))), (.long (t39 &&& (4503599627370495 : Int64))), (.long u2), (.long u3), (.long u4)] (.long (0 : Int64)) := V49
  have f50 := Sta.wr W49 f47
  have f51 := f48.other W49 nep
  have Zn49 : n0 ≤ h49.size := Nat.le_trans Zn46 (Keep.of_wr W49).1
  have K49 : Keep h0 h49 [a0] := K46.wr W49 (Or.inl (List.mem_of_getElem? (i := 0) rfl))
  refine own_step st49 ?_
  show own_Run p e below T49 (mkF m 193 #[.val (.ref a0), .val (.ref a0), .val (.ref a0), .val (.long t37), .second, .val (.long t39), .second, .val (.long t41), .second, .val (.long t43), .second, .val (.long t45), .second, .val (.long t35), .second] []) _
  refine own_step (fun t k => XS.aloadN X49.here hx rfl (hb hby own_d5_193) rfl rfl k) ?_
  refine own_step (fun t k => XS.iconst X49.here hx rfl (hb hby own_d5_194) k) ?_
  refine own_step (fun t k => XS.lload X49.here hx rfl (hb hby own_d5_195) rfl  k) ?_
  show own_Run p e below T49 (mkF m 197 #[.val (.ref a0), .val (.ref a0), .val (.ref a0), .val (.long t37), .second, .val (.long t39), .second, .val (.long t41), .second, .val (.long t43), .second, .val (.long t45), .second, .val (.long t35), .second] [(.long t41), (.int (2 : Int32)), (.ref a0)]) _
  refine own_step (fun t k => X49.ldc2Long hx hown (mvT hZ (hw _ (List.mem_of_getElem? (i := 25) rfl))) (g := (mkF m 197 #[.val (.ref a0), .val (.ref a0), .val (.ref a0), .val (.long t37), .second, .val (.long t39), .second, .val (.long t41), .second, .val (.long t43), .second, .val (.long t45), .second, .val (.long t35), .second] [(.long t41), (.int (2 : Int32)), (.ref a0)])) rfl (hb hby own_d5_197) t k) ?_
  show own_Run p e below T49 (mkF m 200 #[.val (.ref a0), .val (.ref a0), .val (.ref a0), .val (.long t37), .second, .val (.long t39), .second, .val (.long t41), .second, .val (.long t43), .second, .val (.long t45), .second, .val (.long t35), .second] [(.long (4503599627370495 : Int64)), (.long t41), (.int (2 : Int32)), (.ref a0)]) _
  refine own_step (fun t k => XS.land X49.here hx rfl (hb hby own_d5_200) rfl k) ?_
  show own_Run p e below T49 (mkF m 201 #[.val (.ref a0), .val (.ref a0), .val (.ref a0), .val (.long t37), .second, .val (.long t39), .second, .val (.long t41), .second, .val (.long t43), .second, .val (.long t45), .second, .val (.long t35), .second] [(.long (t41 &&& (4503599627370495 : Int64))), (.int (2 : Int32)), (.ref a0)]) _
  obtain ⟨T52, h52, L52, X52, e52, N52, W52, V52, st52⟩ := own_stJ X49 hx hZ e49 V49x N49 gw (j := (2 : Int32)) ⟨by decide, by decide⟩ 2 rfl (Nat.le_of_ble_eq_true rfl) (g := (mkF m 201 #[.val (.ref a0), .val (.ref a0), .val (.ref a0), .val (.long t37), .second, .val (.long t39), .second, .val (.long t41), .second, .val (.long t43), .second, .val (.long t45), .second, .val (.long t35), .second] [(.long (t41 &&& (4503599627370495 : Int64))), (.int (2 : Int32)), (.ref a0)])) rfl rfl (hb hby own_d5_201)
  have V52x : Arv Z h52 a0 k0 .long (5 : Int32) [(.long (t37 &&& (4503599627370495 : Int64))), (.long (t39 &&& (4503599627370495 : Int64))), (.long (t41 &&& (4503599627370495 : Int64))), (.long u3), (.long u4)] (.long (0 : Int64)) := V52
  have f53 := Sta.wr W52 f50
  have f54 := f51.other W52 nep
  have Zn52 : n0 ≤ h52.size := Nat.le_trans Zn49 (Keep.of_wr W52).1
  have K52 : Keep h0 h52 [a0] := K49.wr W52 (Or.inl (List.mem_of_getElem? (i := 0) rfl))
  refine own_step st52 ?_
  show own_Run p e below T52 (mkF m 202 #[.val (.ref a0), .val (.ref a0), .val (.ref a0), .val (.long t37), .second, .val (.long t39), .second, .val (.long t41), .second, .val (.long t43), .second, .val (.long t45), .second, .val (.long t35), .second] []) _
  refine own_step (fun t k => XS.aloadN X52.here hx rfl (hb hby own_d5_202) rfl rfl k) ?_
  refine own_step (fun t k => XS.iconst X52.here hx rfl (hb hby own_d5_203) k) ?_
  refine own_step (fun t k => XS.lload X52.here hx rfl (hb hby own_d5_204) rfl  k) ?_
  show own_Run p e below T52 (mkF m 206 #[.val (.ref a0), .val (.ref a0), .val (.ref a0), .val (.long t37), .second, .val (.long t39), .second, .val (.long t41), .second, .val (.long t43), .second, .val (.long t45), .second, .val (.long t35), .second] [(.long t43), (.int (3 : Int32)), (.ref a0)]) _
  refine own_step (fun t k => X52.ldc2Long hx hown (mvT hZ (hw _ (List.mem_of_getElem? (i := 25) rfl))) (g := (mkF m 206 #[.val (.ref a0), .val (.ref a0), .val (.ref a0), .val (.long t37), .second, .val (.long t39), .second, .val (.long t41), .second, .val (.long t43), .second, .val (.long t45), .second, .val (.long t35), .second] [(.long t43), (.int (3 : Int32)), (.ref a0)])) rfl (hb hby own_d5_206) t k) ?_
  show own_Run p e below T52 (mkF m 209 #[.val (.ref a0), .val (.ref a0), .val (.ref a0), .val (.long t37), .second, .val (.long t39), .second, .val (.long t41), .second, .val (.long t43), .second, .val (.long t45), .second, .val (.long t35), .second] [(.long (4503599627370495 : Int64)), (.long t43), (.int (3 : Int32)), (.ref a0)]) _
  refine own_step (fun t k => XS.land X52.here hx rfl (hb hby own_d5_209) rfl k) ?_
  show own_Run p e below T52 (mkF m 210 #[.val (.ref a0), .val (.ref a0), .val (.ref a0), .val (.long t37), .second, .val (.long t39), .second, .val (.long t41), .second, .val (.long t43), .second, .val (.long t45), .second, .val (.long t35), .second] [(.long (t43 &&& (4503599627370495 : Int64))), (.int (3 : Int32)), (.ref a0)]) _
  obtain ⟨T55, h55, L55, X55, e55, N55, W55, V55, st55⟩ := own_stJ X52 hx hZ e52 V52x N52 gw (j := (3 : Int32)) ⟨by decide, by decide⟩ 3 rfl (Nat.le_of_ble_eq_true rfl) (g := (mkF m 210 #[.val (.ref a0), .val (.ref a0), .val (.ref a0), .val (.long t37), .second, .val (.long t39), .second, .val (.long t41), .second, .val (.long t43), .second, .val (.long t45), .second, .val (.long t35), .second] [(.long (t43 &&& (4503599627370495 : Int64))), (.int (3 : Int32)), (.ref a0)])) rfl rfl (hb hby own_d5_210)
  have V55x : Arv Z h55 a0 k0 .long (5 : Int32) [(.long (t37 &&& (4503599627370495 : Int64))), (.long (t39 &&& (4503599627370495 : Int64))), (.long (t41 &&& (4503599627370495 : Int64))), (.long (t43 &&& (4503599627370495 : Int64))), (.long u4)] (.long (0 : Int64)) := V55
  have f56 := Sta.wr W55 f53
  have f57 := f54.other W55 nep
  have Zn55 : n0 ≤ h55.size := Nat.le_trans Zn52 (Keep.of_wr W55).1
  have K55 : Keep h0 h55 [a0] := K52.wr W55 (Or.inl (List.mem_of_getElem? (i := 0) rfl))
  refine own_step st55 ?_
  show own_Run p e below T55 (mkF m 211 #[.val (.ref a0), .val (.ref a0), .val (.ref a0), .val (.long t37), .second, .val (.long t39), .second, .val (.long t41), .second, .val (.long t43), .second, .val (.long t45), .second, .val (.long t35), .second] []) _
  refine own_step (fun t k => XS.aloadN X55.here hx rfl (hb hby own_d5_211) rfl rfl k) ?_
  refine own_step (fun t k => XS.iconst X55.here hx rfl (hb hby own_d5_212) k) ?_
  refine own_step (fun t k => XS.lload X55.here hx rfl (hb hby own_d5_213) rfl  k) ?_
  show own_Run p e below T55 (mkF m 215 #[.val (.ref a0), .val (.ref a0), .val (.ref a0), .val (.long t37), .second, .val (.long t39), .second, .val (.long t41), .second, .val (.long t43), .second, .val (.long t45), .second, .val (.long t35), .second] [(.long t45), (.int (4 : Int32)), (.ref a0)]) _
  obtain ⟨T58, h58, L58, X58, e58, N58, W58, V58, st58⟩ := own_stJ X55 hx hZ e55 V55x N55 gw (j := (4 : Int32)) ⟨by decide, by decide⟩ 4 rfl (Nat.le_of_ble_eq_true rfl) (g := (mkF m 215 #[.val (.ref a0), .val (.ref a0), .val (.ref a0), .val (.long t37), .second, .val (.long t39), .second, .val (.long t41), .second, .val (.long t43), .second, .val (.long t45), .second, .val (.long t35), .second] [(.long t45), (.int (4 : Int32)), (.ref a0)])) rfl rfl (hb hby own_d5_215)
  have V58x : Arv Z h58 a0 k0 .long (5 : Int32) [(.long (t37 &&& (4503599627370495 : Int64))), (.long (t39 &&& (4503599627370495 : Int64))), (.long (t41 &&& (4503599627370495 : Int64))), (.long (t43 &&& (4503599627370495 : Int64))), (.long t45)] (.long (0 : Int64)) := V58
  have f59 := Sta.wr W58 f56
  have f60 := f57.other W58 nep
  have Zn58 : n0 ≤ h58.size := Nat.le_trans Zn55 (Keep.of_wr W58).1
  have K58 : Keep h0 h58 [a0] := K55.wr W58 (Or.inl (List.mem_of_getElem? (i := 0) rfl))
  refine own_step st58 ?_
  show own_Run p e below T58 (mkF m 216 #[.val (.ref a0), .val (.ref a0), .val (.ref a0), .val (.long t37), .second, .val (.long t39), .second, .val (.long t41), .second, .val (.long t43), .second, .val (.long t45), .second, .val (.long t35), .second] []) _
  subst ht45
  subst ht43
  subst ht41
  subst ht39
  subst ht37
  subst ht35
  subst ht34
  subst ht33
  subst ht32
  subst ht31
  exact own_retV X58 hx hlk hret (hb hby own_d5_216) (by decide) (by decide) N58 (by rw [e58]; exact ⟨K58, V58x⟩)
theorem own_pd618 : parseMethodDescriptor "(JJJ)[J" = some ⟨[.long, .long, .long], some (.array .long)⟩ := by decide +kernel
theorem own_pd619 : parseMethodDescriptor "([J[J[J)V" = some ⟨[(.array .long), (.array .long), (.array .long)], none⟩ := by decide +kernel
def own_f0_78 (q2 : Int64) : Int32 := (((own_ushrL q2 (52 : Int32)) &&& (3 : Int64))).toInt32
def own_f0_c99_0_0 (q2 : Int64) (q0 : Int64) (q5 : Int64) (q3 : Int64) (q1 : Int64) (q4 : Int64) : Int64 := (own_f5_v2_0 (own_f1_42v q2 q0) (own_f1_42v q5 q3) (own_f1_151v q2 q1) (own_f1_151v q5 q4) (own_f1_118v q2 q0 q1) (own_f1_118v q5 q3 q4) (own_f1_87v q2) (own_f1_87v q5) (own_f1_64v q2 q1) (own_f1_64v q5 q4))
def own_f0_c99_0_1 (q2 : Int64) (q1 : Int64) (q5 : Int64) (q4 : Int64) (q0 : Int64) (q3 : Int64) : Int64 := (own_f5_v2_1 (own_f1_64v q2 q1) (own_f1_64v q5 q4) (own_f1_42v q2 q0) (own_f1_42v q5 q3) (own_f1_151v q2 q1) (own_f1_151v q5 q4) (own_f1_118v q2 q0 q1) (own_f1_118v q5 q3 q4) (own_f1_87v q2) (own_f1_87v q5))
def own_f0_c99_0_2 (q2 : Int64) (q5 : Int64) (q1 : Int64) (q4 : Int64) (q0 : Int64) (q3 : Int64) : Int64 := (own_f5_v2_2 (own_f1_87v q2) (own_f1_87v q5) (own_f1_64v q2 q1) (own_f1_64v q5 q4) (own_f1_42v q2 q0) (own_f1_42v q5 q3) (own_f1_151v q2 q1) (own_f1_151v q5 q4) (own_f1_118v q2 q0 q1) (own_f1_118v q5 q3 q4))
def own_f0_c99_0_3 (q2 : Int64) (q0 : Int64) (q1 : Int64) (q5 : Int64) (q3 : Int64) (q4 : Int64) : Int64 := (own_f5_v2_3 (own_f1_118v q2 q0 q1) (own_f1_118v q5 q3 q4) (own_f1_87v q2) (own_f1_87v q5) (own_f1_64v q2 q1) (own_f1_64v q5 q4) (own_f1_42v q2 q0) (own_f1_42v q5 q3) (own_f1_151v q2 q1) (own_f1_151v q5 q4))
def own_f0_c99_0_4 (q2 : Int64) (q1 : Int64) (q5 : Int64) (q4 : Int64) (q0 : Int64) (q3 : Int64) : Int64 := (own_f5_v2_4 (own_f1_151v q2 q1) (own_f1_151v q5 q4) (own_f1_118v q2 q0 q1) (own_f1_118v q5 q3 q4) (own_f1_87v q2) (own_f1_87v q5) (own_f1_64v q2 q1) (own_f1_64v q5 q4) (own_f1_42v q2 q0) (own_f1_42v q5 q3))
def own_f0_c186_0_0 (q2 : Int64) (q0 : Int64) (q5 : Int64) (q3 : Int64) (q1 : Int64) (q4 : Int64) : Int64 := (own_f6_c36_0_0 (own_f0_c99_0_0 q2 q0 q5 q3 q1 q4) (own_f1_42v q5 q3) (own_f0_c99_0_4 q2 q1 q5 q4 q0 q3) (own_f1_151v q5 q4) (own_f0_c99_0_3 q2 q0 q1 q5 q3 q4) (own_f1_118v q5 q3 q4) (own_f0_c99_0_2 q2 q5 q1 q4 q0 q3) (own_f1_87v q5) (own_f0_c99_0_1 q2 q1 q5 q4 q0 q3) (own_f1_64v q5 q4))
def own_f0_c186_0_1 (q2 : Int64) (q1 : Int64) (q5 : Int64) (q4 : Int64) (q0 : Int64) (q3 : Int64) : Int64 := (own_f6_c36_0_1 (own_f0_c99_0_1 q2 q1 q5 q4 q0 q3) (own_f1_64v q5 q4) (own_f0_c99_0_0 q2 q0 q5 q3 q1 q4) (own_f1_42v q5 q3) (own_f0_c99_0_4 q2 q1 q5 q4 q0 q3) (own_f1_151v q5 q4) (own_f0_c99_0_3 q2 q0 q1 q5 q3 q4) (own_f1_118v q5 q3 q4) (own_f0_c99_0_2 q2 q5 q1 q4 q0 q3) (own_f1_87v q5))
def own_f0_c186_0_2 (q2 : Int64) (q5 : Int64) (q1 : Int64) (q4 : Int64) (q0 : Int64) (q3 : Int64) : Int64 := (own_f6_c36_0_2 (own_f0_c99_0_2 q2 q5 q1 q4 q0 q3) (own_f1_87v q5) (own_f0_c99_0_1 q2 q1 q5 q4 q0 q3) (own_f1_64v q5 q4) (own_f0_c99_0_0 q2 q0 q5 q3 q1 q4) (own_f1_42v q5 q3) (own_f0_c99_0_4 q2 q1 q5 q4 q0 q3) (own_f1_151v q5 q4) (own_f0_c99_0_3 q2 q0 q1 q5 q3 q4) (own_f1_118v q5 q3 q4))
def own_f0_c186_0_3 (q2 : Int64) (q0 : Int64) (q1 : Int64) (q5 : Int64) (q3 : Int64) (q4 : Int64) : Int64 := (own_f6_c36_0_3 (own_f0_c99_0_3 q2 q0 q1 q5 q3 q4) (own_f1_118v q5 q3 q4) (own_f0_c99_0_2 q2 q5 q1 q4 q0 q3) (own_f1_87v q5) (own_f0_c99_0_1 q2 q1 q5 q4 q0 q3) (own_f1_64v q5 q4) (own_f0_c99_0_0 q2 q0 q5 q3 q1 q4) (own_f1_42v q5 q3) (own_f0_c99_0_4 q2 q1 q5 q4 q0 q3) (own_f1_151v q5 q4))
def own_f0_c186_0_4 (q2 : Int64) (q1 : Int64) (q5 : Int64) (q4 : Int64) (q0 : Int64) (q3 : Int64) : Int64 := (own_f6_c36_0_4 (own_f0_c99_0_4 q2 q1 q5 q4 q0 q3) (own_f1_151v q5 q4) (own_f0_c99_0_3 q2 q0 q1 q5 q3 q4) (own_f1_118v q5 q3 q4) (own_f0_c99_0_2 q2 q5 q1 q4 q0 q3) (own_f1_87v q5) (own_f0_c99_0_1 q2 q1 q5 q4 q0 q3) (own_f1_64v q5 q4) (own_f0_c99_0_0 q2 q0 q5 q3 q1 q4) (own_f1_42v q5 q3))
def own_f0_j254_S0 (q2 : Int64) (q0 : Int64) (q5 : Int64) (q3 : Int64) (q1 : Int64) (q4 : Int64) : Int32 := (if (lcmpW (own_f0_c186_0_0 q2 q0 q5 q3 q1 q4) (own_f1_42v q2 q0)) = (0 : Int32) then (if (lcmpW (own_f0_c186_0_1 q2 q1 q5 q4 q0 q3) (own_f1_64v q2 q1)) = (0 : Int32) then (if (lcmpW (own_f0_c186_0_2 q2 q5 q1 q4 q0 q3) (own_f1_87v q2)) = (0 : Int32) then (if (lcmpW (own_f0_c186_0_3 q2 q0 q1 q5 q3 q4) (own_f1_118v q2 q0 q1)) = (0 : Int32) then (if (lcmpW (own_f0_c186_0_4 q2 q1 q5 q4 q0 q3) (own_f1_151v q2 q1)) = (0 : Int32) then (1 : Int32) else (0 : Int32)) else (0 : Int32)) else (0 : Int32)) else (0 : Int32)) else (0 : Int32))
def own_f0_c121_0_0 (q2 : Int64) (q0 : Int64) (q5 : Int64) (q3 : Int64) (q1 : Int64) (q4 : Int64) : Int64 := (own_f5a_v0_0 (own_f1_42v q2 q0) (own_f1_42v q5 q3) (own_f1_151v q2 q1) (own_f1_151v q5 q4) (own_f1_118v q2 q0 q1) (own_f1_118v q5 q3 q4) (own_f1_87v q2) (own_f1_87v q5) (own_f1_64v q2 q1) (own_f1_64v q5 q4))
def own_f0_c121_0_1 (q2 : Int64) (q1 : Int64) (q5 : Int64) (q4 : Int64) (q0 : Int64) (q3 : Int64) : Int64 := (own_f5a_v0_1 (own_f1_64v q2 q1) (own_f1_64v q5 q4) (own_f1_42v q2 q0) (own_f1_42v q5 q3) (own_f1_151v q2 q1) (own_f1_151v q5 q4) (own_f1_118v q2 q0 q1) (own_f1_118v q5 q3 q4) (own_f1_87v q2) (own_f1_87v q5))
def own_f0_c121_0_2 (q2 : Int64) (q5 : Int64) (q1 : Int64) (q4 : Int64) (q0 : Int64) (q3 : Int64) : Int64 := (own_f5a_v0_2 (own_f1_87v q2) (own_f1_87v q5) (own_f1_64v q2 q1) (own_f1_64v q5 q4) (own_f1_42v q2 q0) (own_f1_42v q5 q3) (own_f1_151v q2 q1) (own_f1_151v q5 q4) (own_f1_118v q2 q0 q1) (own_f1_118v q5 q3 q4))
def own_f0_c121_0_3 (q2 : Int64) (q0 : Int64) (q1 : Int64) (q5 : Int64) (q3 : Int64) (q4 : Int64) : Int64 := (own_f5a_v0_3 (own_f1_118v q2 q0 q1) (own_f1_118v q5 q3 q4) (own_f1_87v q2) (own_f1_87v q5) (own_f1_64v q2 q1) (own_f1_64v q5 q4) (own_f1_42v q2 q0) (own_f1_42v q5 q3) (own_f1_151v q2 q1) (own_f1_151v q5 q4))
def own_f0_c121_0_4 (q2 : Int64) (q1 : Int64) (q5 : Int64) (q4 : Int64) (q0 : Int64) (q3 : Int64) : Int64 := (own_f5a_v0_4 (own_f1_151v q2 q1) (own_f1_151v q5 q4) (own_f1_118v q2 q0 q1) (own_f1_118v q5 q3 q4) (own_f1_87v q2) (own_f1_87v q5) (own_f1_64v q2 q1) (own_f1_64v q5 q4) (own_f1_42v q2 q0) (own_f1_42v q5 q3))
def own_f0_c186_0_0' (q2 : Int64) (q0 : Int64) (q5 : Int64) (q3 : Int64) (q1 : Int64) (q4 : Int64) : Int64 := (own_f6_c36_0_0 (own_f0_c121_0_0 q2 q0 q5 q3 q1 q4) (own_f1_42v q5 q3) (own_f0_c121_0_4 q2 q1 q5 q4 q0 q3) (own_f1_151v q5 q4) (own_f0_c121_0_3 q2 q0 q1 q5 q3 q4) (own_f1_118v q5 q3 q4) (own_f0_c121_0_2 q2 q5 q1 q4 q0 q3) (own_f1_87v q5) (own_f0_c121_0_1 q2 q1 q5 q4 q0 q3) (own_f1_64v q5 q4))
def own_f0_c186_0_1' (q2 : Int64) (q1 : Int64) (q5 : Int64) (q4 : Int64) (q0 : Int64) (q3 : Int64) : Int64 := (own_f6_c36_0_1 (own_f0_c121_0_1 q2 q1 q5 q4 q0 q3) (own_f1_64v q5 q4) (own_f0_c121_0_0 q2 q0 q5 q3 q1 q4) (own_f1_42v q5 q3) (own_f0_c121_0_4 q2 q1 q5 q4 q0 q3) (own_f1_151v q5 q4) (own_f0_c121_0_3 q2 q0 q1 q5 q3 q4) (own_f1_118v q5 q3 q4) (own_f0_c121_0_2 q2 q5 q1 q4 q0 q3) (own_f1_87v q5))
def own_f0_c186_0_2' (q2 : Int64) (q5 : Int64) (q1 : Int64) (q4 : Int64) (q0 : Int64) (q3 : Int64) : Int64 := (own_f6_c36_0_2 (own_f0_c121_0_2 q2 q5 q1 q4 q0 q3) (own_f1_87v q5) (own_f0_c121_0_1 q2 q1 q5 q4 q0 q3) (own_f1_64v q5 q4) (own_f0_c121_0_0 q2 q0 q5 q3 q1 q4) (own_f1_42v q5 q3) (own_f0_c121_0_4 q2 q1 q5 q4 q0 q3) (own_f1_151v q5 q4) (own_f0_c121_0_3 q2 q0 q1 q5 q3 q4) (own_f1_118v q5 q3 q4))
def own_f0_c186_0_3' (q2 : Int64) (q0 : Int64) (q1 : Int64) (q5 : Int64) (q3 : Int64) (q4 : Int64) : Int64 := (own_f6_c36_0_3 (own_f0_c121_0_3 q2 q0 q1 q5 q3 q4) (own_f1_118v q5 q3 q4) (own_f0_c121_0_2 q2 q5 q1 q4 q0 q3) (own_f1_87v q5) (own_f0_c121_0_1 q2 q1 q5 q4 q0 q3) (own_f1_64v q5 q4) (own_f0_c121_0_0 q2 q0 q5 q3 q1 q4) (own_f1_42v q5 q3) (own_f0_c121_0_4 q2 q1 q5 q4 q0 q3) (own_f1_151v q5 q4))
def own_f0_c186_0_4' (q2 : Int64) (q1 : Int64) (q5 : Int64) (q4 : Int64) (q0 : Int64) (q3 : Int64) : Int64 := (own_f6_c36_0_4 (own_f0_c121_0_4 q2 q1 q5 q4 q0 q3) (own_f1_151v q5 q4) (own_f0_c121_0_3 q2 q0 q1 q5 q3 q4) (own_f1_118v q5 q3 q4) (own_f0_c121_0_2 q2 q5 q1 q4 q0 q3) (own_f1_87v q5) (own_f0_c121_0_1 q2 q1 q5 q4 q0 q3) (own_f1_64v q5 q4) (own_f0_c121_0_0 q2 q0 q5 q3 q1 q4) (own_f1_42v q5 q3))
def own_f0_j254_S0' (q2 : Int64) (q0 : Int64) (q5 : Int64) (q3 : Int64) (q1 : Int64) (q4 : Int64) : Int32 := (if (lcmpW (own_f0_c186_0_0' q2 q0 q5 q3 q1 q4) (own_f1_42v q2 q0)) = (0 : Int32) then (if (lcmpW (own_f0_c186_0_1' q2 q1 q5 q4 q0 q3) (own_f1_64v q2 q1)) = (0 : Int32) then (if (lcmpW (own_f0_c186_0_2' q2 q5 q1 q4 q0 q3) (own_f1_87v q2)) = (0 : Int32) then (if (lcmpW (own_f0_c186_0_3' q2 q0 q1 q5 q3 q4) (own_f1_118v q2 q0 q1)) = (0 : Int32) then (if (lcmpW (own_f0_c186_0_4' q2 q1 q5 q4 q0 q3) (own_f1_151v q2 q1)) = (0 : Int32) then (1 : Int32) else (0 : Int32)) else (0 : Int32)) else (0 : Int32)) else (0 : Int32)) else (0 : Int32))
def own_f0_c143_0_0 (q2 : Int64) (q0 : Int64) (q5 : Int64) (q3 : Int64) (q1 : Int64) (q4 : Int64) : Int64 := (own_f5b_v1_0 (own_f1_42v q2 q0) (own_f1_42v q5 q3) (own_f1_151v q2 q1) (own_f1_151v q5 q4) (own_f1_118v q2 q0 q1) (own_f1_118v q5 q3 q4) (own_f1_87v q2) (own_f1_87v q5) (own_f1_64v q2 q1) (own_f1_64v q5 q4))
def own_f0_c143_0_1 (q2 : Int64) (q1 : Int64) (q5 : Int64) (q4 : Int64) (q0 : Int64) (q3 : Int64) : Int64 := (own_f5b_v1_1 (own_f1_64v q2 q1) (own_f1_64v q5 q4) (own_f1_42v q2 q0) (own_f1_42v q5 q3) (own_f1_151v q2 q1) (own_f1_151v q5 q4) (own_f1_118v q2 q0 q1) (own_f1_118v q5 q3 q4) (own_f1_87v q2) (own_f1_87v q5))
def own_f0_c143_0_2 (q2 : Int64) (q5 : Int64) (q1 : Int64) (q4 : Int64) (q0 : Int64) (q3 : Int64) : Int64 := (own_f5b_v1_2 (own_f1_87v q2) (own_f1_87v q5) (own_f1_64v q2 q1) (own_f1_64v q5 q4) (own_f1_42v q2 q0) (own_f1_42v q5 q3) (own_f1_151v q2 q1) (own_f1_151v q5 q4) (own_f1_118v q2 q0 q1) (own_f1_118v q5 q3 q4))
def own_f0_c143_0_3 (q2 : Int64) (q0 : Int64) (q1 : Int64) (q5 : Int64) (q3 : Int64) (q4 : Int64) : Int64 := (own_f5b_v1_3 (own_f1_118v q2 q0 q1) (own_f1_118v q5 q3 q4) (own_f1_87v q2) (own_f1_87v q5) (own_f1_64v q2 q1) (own_f1_64v q5 q4) (own_f1_42v q2 q0) (own_f1_42v q5 q3) (own_f1_151v q2 q1) (own_f1_151v q5 q4))
def own_f0_c143_0_4 (q2 : Int64) (q1 : Int64) (q5 : Int64) (q4 : Int64) (q0 : Int64) (q3 : Int64) : Int64 := (own_f5b_v1_4 (own_f1_151v q2 q1) (own_f1_151v q5 q4) (own_f1_118v q2 q0 q1) (own_f1_118v q5 q3 q4) (own_f1_87v q2) (own_f1_87v q5) (own_f1_64v q2 q1) (own_f1_64v q5 q4) (own_f1_42v q2 q0) (own_f1_42v q5 q3))
def own_f0_c186_0_0'' (q2 : Int64) (q0 : Int64) (q5 : Int64) (q3 : Int64) (q1 : Int64) (q4 : Int64) : Int64 := (own_f6_c36_0_0 (own_f0_c143_0_0 q2 q0 q5 q3 q1 q4) (own_f1_42v q5 q3) (own_f0_c143_0_4 q2 q1 q5 q4 q0 q3) (own_f1_151v q5 q4) (own_f0_c143_0_3 q2 q0 q1 q5 q3 q4) (own_f1_118v q5 q3 q4) (own_f0_c143_0_2 q2 q5 q1 q4 q0 q3) (own_f1_87v q5) (own_f0_c143_0_1 q2 q1 q5 q4 q0 q3) (own_f1_64v q5 q4))
def own_f0_c186_0_1'' (q2 : Int64) (q1 : Int64) (q5 : Int64) (q4 : Int64) (q0 : Int64) (q3 : Int64) : Int64 := (own_f6_c36_0_1 (own_f0_c143_0_1 q2 q1 q5 q4 q0 q3) (own_f1_64v q5 q4) (own_f0_c143_0_0 q2 q0 q5 q3 q1 q4) (own_f1_42v q5 q3) (own_f0_c143_0_4 q2 q1 q5 q4 q0 q3) (own_f1_151v q5 q4) (own_f0_c143_0_3 q2 q0 q1 q5 q3 q4) (own_f1_118v q5 q3 q4) (own_f0_c143_0_2 q2 q5 q1 q4 q0 q3) (own_f1_87v q5))
def own_f0_c186_0_2'' (q2 : Int64) (q5 : Int64) (q1 : Int64) (q4 : Int64) (q0 : Int64) (q3 : Int64) : Int64 := (own_f6_c36_0_2 (own_f0_c143_0_2 q2 q5 q1 q4 q0 q3) (own_f1_87v q5) (own_f0_c143_0_1 q2 q1 q5 q4 q0 q3) (own_f1_64v q5 q4) (own_f0_c143_0_0 q2 q0 q5 q3 q1 q4) (own_f1_42v q5 q3) (own_f0_c143_0_4 q2 q1 q5 q4 q0 q3) (own_f1_151v q5 q4) (own_f0_c143_0_3 q2 q0 q1 q5 q3 q4) (own_f1_118v q5 q3 q4))
def own_f0_c186_0_3'' (q2 : Int64) (q0 : Int64) (q1 : Int64) (q5 : Int64) (q3 : Int64) (q4 : Int64) : Int64 := (own_f6_c36_0_3 (own_f0_c143_0_3 q2 q0 q1 q5 q3 q4) (own_f1_118v q5 q3 q4) (own_f0_c143_0_2 q2 q5 q1 q4 q0 q3) (own_f1_87v q5) (own_f0_c143_0_1 q2 q1 q5 q4 q0 q3) (own_f1_64v q5 q4) (own_f0_c143_0_0 q2 q0 q5 q3 q1 q4) (own_f1_42v q5 q3) (own_f0_c143_0_4 q2 q1 q5 q4 q0 q3) (own_f1_151v q5 q4))
def own_f0_c186_0_4'' (q2 : Int64) (q1 : Int64) (q5 : Int64) (q4 : Int64) (q0 : Int64) (q3 : Int64) : Int64 := (own_f6_c36_0_4 (own_f0_c143_0_4 q2 q1 q5 q4 q0 q3) (own_f1_151v q5 q4) (own_f0_c143_0_3 q2 q0 q1 q5 q3 q4) (own_f1_118v q5 q3 q4) (own_f0_c143_0_2 q2 q5 q1 q4 q0 q3) (own_f1_87v q5) (own_f0_c143_0_1 q2 q1 q5 q4 q0 q3) (own_f1_64v q5 q4) (own_f0_c143_0_0 q2 q0 q5 q3 q1 q4) (own_f1_42v q5 q3))
def own_f0_j254_S0'' (q2 : Int64) (q0 : Int64) (q5 : Int64) (q3 : Int64) (q1 : Int64) (q4 : Int64) : Int32 := (if (lcmpW (own_f0_c186_0_0'' q2 q0 q5 q3 q1 q4) (own_f1_42v q2 q0)) = (0 : Int32) then (if (lcmpW (own_f0_c186_0_1'' q2 q1 q5 q4 q0 q3) (own_f1_64v q2 q1)) = (0 : Int32) then (if (lcmpW (own_f0_c186_0_2'' q2 q5 q1 q4 q0 q3) (own_f1_87v q2)) = (0 : Int32) then (if (lcmpW (own_f0_c186_0_3'' q2 q0 q1 q5 q3 q4) (own_f1_118v q2 q0 q1)) = (0 : Int32) then (if (lcmpW (own_f0_c186_0_4'' q2 q1 q5 q4 q0 q3) (own_f1_151v q2 q1)) = (0 : Int32) then (1 : Int32) else (0 : Int32)) else (0 : Int32)) else (0 : Int32)) else (0 : Int32)) else (0 : Int32))
def own_f0_c159_0_0 (q2 : Int64) (q0 : Int64) (q1 : Int64) : Int64 := (own_f5c_v0_0 (own_f1_42v q2 q0) (own_f1_151v q2 q1) (own_f1_118v q2 q0 q1) (own_f1_87v q2) (own_f1_64v q2 q1))
def own_f0_c159_0_1 (q2 : Int64) (q1 : Int64) (q0 : Int64) : Int64 := (own_f5c_v0_1 (own_f1_64v q2 q1) (own_f1_42v q2 q0) (own_f1_151v q2 q1) (own_f1_118v q2 q0 q1) (own_f1_87v q2))
def own_f0_c159_0_2 (q2 : Int64) (q1 : Int64) (q0 : Int64) : Int64 := (own_f5c_v0_2 (own_f1_87v q2) (own_f1_64v q2 q1) (own_f1_42v q2 q0) (own_f1_151v q2 q1) (own_f1_118v q2 q0 q1))
def own_f0_c159_0_3 (q2 : Int64) (q0 : Int64) (q1 : Int64) : Int64 := (own_f5c_v0_3 (own_f1_118v q2 q0 q1) (own_f1_87v q2) (own_f1_64v q2 q1) (own_f1_42v q2 q0) (own_f1_151v q2 q1))
def own_f0_c159_0_4 (q2 : Int64) (q1 : Int64) (q0 : Int64) : Int64 := (own_f5c_v0_4 (own_f1_151v q2 q1) (own_f1_118v q2 q0 q1) (own_f1_87v q2) (own_f1_64v q2 q1) (own_f1_42v q2 q0))
def own_f0_c186_0_0''' (q2 : Int64) (q0 : Int64) (q1 : Int64) : Int64 := (own_f6_c36_0_0 (own_f0_c159_0_0 q2 q0 q1) (own_f1_42v q2 q0) (own_f0_c159_0_4 q2 q1 q0) (own_f1_151v q2 q1) (own_f0_c159_0_3 q2 q0 q1) (own_f1_118v q2 q0 q1) (own_f0_c159_0_2 q2 q1 q0) (own_f1_87v q2) (own_f0_c159_0_1 q2 q1 q0) (own_f1_64v q2 q1))
def own_f0_c186_0_1''' (q2 : Int64) (q1 : Int64) (q0 : Int64) : Int64 := (own_f6_c36_0_1 (own_f0_c159_0_1 q2 q1 q0) (own_f1_64v q2 q1) (own_f0_c159_0_0 q2 q0 q1) (own_f1_42v q2 q0) (own_f0_c159_0_4 q2 q1 q0) (own_f1_151v q2 q1) (own_f0_c159_0_3 q2 q0 q1) (own_f1_118v q2 q0 q1) (own_f0_c159_0_2 q2 q1 q0) (own_f1_87v q2))
def own_f0_c186_0_2''' (q2 : Int64) (q1 : Int64) (q0 : Int64) : Int64 := (own_f6_c36_0_2 (own_f0_c159_0_2 q2 q1 q0) (own_f1_87v q2) (own_f0_c159_0_1 q2 q1 q0) (own_f1_64v q2 q1) (own_f0_c159_0_0 q2 q0 q1) (own_f1_42v q2 q0) (own_f0_c159_0_4 q2 q1 q0) (own_f1_151v q2 q1) (own_f0_c159_0_3 q2 q0 q1) (own_f1_118v q2 q0 q1))
def own_f0_c186_0_3''' (q2 : Int64) (q0 : Int64) (q1 : Int64) : Int64 := (own_f6_c36_0_3 (own_f0_c159_0_3 q2 q0 q1) (own_f1_118v q2 q0 q1) (own_f0_c159_0_2 q2 q1 q0) (own_f1_87v q2) (own_f0_c159_0_1 q2 q1 q0) (own_f1_64v q2 q1) (own_f0_c159_0_0 q2 q0 q1) (own_f1_42v q2 q0) (own_f0_c159_0_4 q2 q1 q0) (own_f1_151v q2 q1))
def own_f0_c186_0_4''' (q2 : Int64) (q1 : Int64) (q0 : Int64) : Int64 := (own_f6_c36_0_4 (own_f0_c159_0_4 q2 q1 q0) (own_f1_151v q2 q1) (own_f0_c159_0_3 q2 q0 q1) (own_f1_118v q2 q0 q1) (own_f0_c159_0_2 q2 q1 q0) (own_f1_87v q2) (own_f0_c159_0_1 q2 q1 q0) (own_f1_64v q2 q1) (own_f0_c159_0_0 q2 q0 q1) (own_f1_42v q2 q0))
def own_f0_j254_S0''' (q2 : Int64) (q0 : Int64) (q1 : Int64) : Int32 := (if (lcmpW (own_f0_c186_0_0''' q2 q0 q1) (own_f1_42v q2 q0)) = (0 : Int32) then (if (lcmpW (own_f0_c186_0_1''' q2 q1 q0) (own_f1_64v q2 q1)) = (0 : Int32) then (if (lcmpW (own_f0_c186_0_2''' q2 q1 q0) (own_f1_87v q2)) = (0 : Int32) then (if (lcmpW (own_f0_c186_0_3''' q2 q0 q1) (own_f1_118v q2 q0 q1)) = (0 : Int32) then (if (lcmpW (own_f0_c186_0_4''' q2 q1 q0) (own_f1_151v q2 q1)) = (0 : Int32) then (1 : Int32) else (0 : Int32)) else (0 : Int32)) else (0 : Int32)) else (0 : Int32)) else (0 : Int32))
def own_r0 (q0 : Int64) (q1 : Int64) (q2 : Int64) (q3 : Int64) (q4 : Int64) (q5 : Int64) : Int32 := (if (own_r3 (own_f1_42v q2 q0) (own_f1_64v q2 q1) (own_f1_87v q2) (own_f1_118v q2 q0 q1) (own_f1_151v q2 q1)) = (0 : Int32) then (1 : Int32) else (if (own_r3 (own_f1_42v q5 q3) (own_f1_64v q5 q4) (own_f1_87v q5) (own_f1_118v q5 q3 q4) (own_f1_151v q5 q4)) = (0 : Int32) then (1 : Int32) else (if (own_f0_78 q2) = (0 : Int32) then (if (own_r3 (own_f0_c99_0_0 q2 q0 q5 q3 q1 q4) (own_f0_c99_0_1 q2 q1 q5 q4 q0 q3) (own_f0_c99_0_2 q2 q5 q1 q4 q0 q3) (own_f0_c99_0_3 q2 q0 q1 q5 q3 q4) (own_f0_c99_0_4 q2 q1 q5 q4 q0 q3)) = (0 : Int32) then (0 : Int32) else (nar .boolean (own_f0_j254_S0 q2 q0 q5 q3 q1 q4))) else (if (own_f0_78 q2) = (1 : Int32) then (if (own_r3 (own_f0_c121_0_0 q2 q0 q5 q3 q1 q4) (own_f0_c121_0_1 q2 q1 q5 q4 q0 q3) (own_f0_c121_0_2 q2 q5 q1 q4 q0 q3) (own_f0_c121_0_3 q2 q0 q1 q5 q3 q4) (own_f0_c121_0_4 q2 q1 q5 q4 q0 q3)) = (0 : Int32) then (0 : Int32) else (nar .boolean (own_f0_j254_S0' q2 q0 q5 q3 q1 q4))) else (if (own_f0_78 q2) = (2 : Int32) then (if (own_r3 (own_f0_c143_0_0 q2 q0 q5 q3 q1 q4) (own_f0_c143_0_1 q2 q1 q5 q4 q0 q3) (own_f0_c143_0_2 q2 q5 q1 q4 q0 q3) (own_f0_c143_0_3 q2 q0 q1 q5 q3 q4) (own_f0_c143_0_4 q2 q1 q5 q4 q0 q3)) = (0 : Int32) then (0 : Int32) else (nar .boolean (own_f0_j254_S0'' q2 q0 q5 q3 q1 q4))) else (if (own_r3 (own_f0_c159_0_0 q2 q0 q1) (own_f0_c159_0_1 q2 q1 q0) (own_f0_c159_0_2 q2 q1 q0) (own_f0_c159_0_3 q2 q0 q1) (own_f0_c159_0_4 q2 q1 q0)) = (0 : Int32) then (0 : Int32) else (nar .boolean (own_f0_j254_S0''' q2 q0 q1))))))))
theorem own_ef0 (m : MethodId) (q0 : Int64) (q1 : Int64) (q2 : Int64) (q3 : Int64) (q4 : Int64) (q5 : Int64) : entryFrame m #[(.long q0), (.long q1), (.long q2), (.long q3), (.long q4), (.long q5)] maxLocals = (mkF m 0 #[.val (.long q0), .second, .val (.long q1), .second, .val (.long q2), .second, .val (.long q3), .second, .val (.long q4), .second, .val (.long q5), .second, .unset, .unset, .unset, .unset, .unset, .unset, .unset, .unset, .unset] []) := by first | (simp [entryFrame, mkF, argsToLocals, Value.category, maxLocals]; done) | rfl
set_option maxRecDepth 65536 in
set_option maxHeartbeats 40000000 in
theorem rm0 (l : Launch) (Z : State) (av0 : Array Value) (hw : ∀ d ∈ tables_1, d.before av0 Z = true) (ws : List Jvm.Cond) (q0 : Int64) (q1 : Int64) (q2 : Int64) (q3 : Int64) (q4 : Int64) (q5 : Int64) (pl : Addr) (kp : ClassId) (h0 : Heap) (n0 : Nat) (Z0 : n0 ≤ h0.size) (Sp : Sta Z h0 "com/example/rxrelay/rxrelay/protocol/gm/Sm2Field" "P_LIMBS" "[J" (.ref pl)) (Vp : Arv Z h0 pl kp .long (5 : Int32) [(.long (4503599627370495 : Int64)), (.long (4486007441330175 : Int64)), (.long (4503599627370495 : Int64)), (.long (4503599627370495 : Int64)), (.long (281474976645119 : Int64))] (.long (0 : Int64))) :
    MetFree l x (head1 (Jvm.Cond.code x code maxLocals ret :: ws) room_1) (fun a U => a = #[(.long q0), (.long q1), (.long q2), (.long q3), (.long q4), (.long q5)] ∧ Z.Warmed39 U.vm ∧ U.heap = h0) (fun _ _ _ _ _ => True) (fun _ U o U' => ∃ v L, o = .returned v ∧ own_Q n0 (fun _ => True) (some (.int (own_r0 q0 q1 q2 q3 q4 q5))) v U'.heap L ∧ FrameEnd U o U' L room_1.cells room_1.slots) := by
  refine MetFree.of_bodySF (plainFor_of_name own_pn0) hisR ?_
  intro p e s m args below meth c s₁ Bd hml0 hP hK
  obtain ⟨rfl, hZ, hh⟩ := hP
  have hx := Bd.exec
  have hby := Bd.bytes
  have hml : c.maxLocals = 21 := hml0
  have hown : s.vm.findClass "com/example/rxrelay/rxrelay/protocol/gm/Sm2FieldSubtractPinLaw" = some m.cls := findClass_of_methodNamed Bd.named
  have hnm := (name_of_methodNamed Bd.named Bd.method).1
  have hret := Bd.returns
  have hlk : meth.locks = false := BodyLoose.notSynchronized Bd
  have X0 : Stand p l e room_1 s m #[(.long q0), (.long q1), (.long q2), (.long q3), (.long q4), (.long q5)] below meth c s₁ [] 0 0 := Stand.of_body Bd
  have e0 : s₁.heap = h0 := by rw [← hh, Bd.state]; rfl
  have N0 := Fr.nil n0
  clear Bd hh hK
  refine own_fin ?_
  refine own_entry (own_ef0 m q0 q1 q2 q3 q4 q5) ?_
  show own_Run p e below s₁ _ (own_Ret _ s below _ _ (own_Q n0 _ (some (.int (if (own_r3 (own_f1_42v q2 q0) (own_f1_64v q2 q1) (own_f1_87v q2) (own_f1_118v q2 q0 q1) (own_f1_151v q2 q1)) = (0 : Int32) then (1 : Int32) else (if (own_r3 (own_f1_42v q5 q3) (own_f1_64v q5 q4) (own_f1_87v q5) (own_f1_118v q5 q3 q4) (own_f1_151v q5 q4)) = (0 : Int32) then (1 : Int32) else (if (own_f0_78 q2) = (0 : Int32) then (if (own_r3 (own_f0_c99_0_0 q2 q0 q5 q3 q1 q4) (own_f0_c99_0_1 q2 q1 q5 q4 q0 q3) (own_f0_c99_0_2 q2 q5 q1 q4 q0 q3) (own_f0_c99_0_3 q2 q0 q1 q5 q3 q4) (own_f0_c99_0_4 q2 q1 q5 q4 q0 q3)) = (0 : Int32) then (0 : Int32) else (nar .boolean (own_f0_j254_S0 q2 q0 q5 q3 q1 q4))) else (if (own_f0_78 q2) = (1 : Int32) then (if (own_r3 (own_f0_c121_0_0 q2 q0 q5 q3 q1 q4) (own_f0_c121_0_1 q2 q1 q5 q4 q0 q3) (own_f0_c121_0_2 q2 q5 q1 q4 q0 q3) (own_f0_c121_0_3 q2 q0 q1 q5 q3 q4) (own_f0_c121_0_4 q2 q1 q5 q4 q0 q3)) = (0 : Int32) then (0 : Int32) else (nar .boolean (own_f0_j254_S0' q2 q0 q5 q3 q1 q4))) else (if (own_f0_78 q2) = (2 : Int32) then (if (own_r3 (own_f0_c143_0_0 q2 q0 q5 q3 q1 q4) (own_f0_c143_0_1 q2 q1 q5 q4 q0 q3) (own_f0_c143_0_2 q2 q5 q1 q4 q0 q3) (own_f0_c143_0_3 q2 q0 q1 q5 q3 q4) (own_f0_c143_0_4 q2 q1 q5 q4 q0 q3)) = (0 : Int32) then (0 : Int32) else (nar .boolean (own_f0_j254_S0'' q2 q0 q5 q3 q1 q4))) else (if (own_r3 (own_f0_c159_0_0 q2 q0 q1) (own_f0_c159_0_1 q2 q1 q0) (own_f0_c159_0_2 q2 q1 q0) (own_f0_c159_0_3 q2 q0 q1) (own_f0_c159_0_4 q2 q1 q0)) = (0 : Int32) then (0 : Int32) else (nar .boolean (own_f0_j254_S0''' q2 q0 q1))))))))))))
  show own_Run p e below s₁ (mkF m 0 #[.val (.long q0), .second, .val (.long q1), .second, .val (.long q2), .second, .val (.long q3), .second, .val (.long q4), .second, .val (.long q5), .second, .unset, .unset, .unset, .unset, .unset, .unset, .unset, .unset, .unset] []) _
  refine own_step (fun t k => XS.lloadN X0.here hx rfl (hb hby at_0) rfl  k) ?_
  show own_Run p e below s₁ (mkF m 1 #[.val (.long q0), .second, .val (.long q1), .second, .val (.long q2), .second, .val (.long q3), .second, .val (.long q4), .second, .val (.long q5), .second, .unset, .unset, .unset, .unset, .unset, .unset, .unset, .unset, .unset] [(.long q0)]) _
  refine own_step (fun t k => XS.lloadN X0.here hx rfl (hb hby at_1) rfl  k) ?_
  refine own_step (fun t k => XS.lload X0.here hx rfl (hb hby at_2) rfl  k) ?_
  obtain ⟨_, _, ⟨T158, L158, kq158, nq158⟩, -, X158, ⟨Lc158, hQ158, lq158, yq158, zq158⟩, st158⟩ := Jvm.LawKit.callS X0 hx (y := (⟨"com/example/rxrelay/rxrelay/protocol/gm/Sm2FieldSubtractPinLaw", "build", "(JJJ)[J"⟩ : MethodName)) hown (mvT hZ (hw _ (List.mem_of_getElem? (i := 0) rfl))) (mvT hZ (hw _ (List.mem_of_getElem? (i := 1) rfl))) (mvT hZ (hw _ (List.mem_of_getElem? (i := 2) rfl))) (mvT hZ (hw _ (List.mem_of_getElem? (i := 3) rfl))) (by decide) (backOf (W := 0) (rm1 l Z av0 hw [] q0 q1 q2 h0 n0 Z0 ) hZ (hw _ (List.mem_of_getElem? (i := 3) rfl)) (hw _ (List.mem_of_getElem? (i := 2) rfl)) (by decide) (by decide)) (g := (mkF m 4 #[.val (.long q0), .second, .val (.long q1), .second, .val (.long q2), .second, .val (.long q3), .second, .val (.long q4), .second, .val (.long q5), .second, .unset, .unset, .unset, .unset, .unset, .unset, .unset, .unset, .unset] [(.long q2), (.long q1), (.long q0)])) rfl (by rw [hml]; rfl) (argsL := [(.long q0), (.long q1), (.long q2)]) (rest := []) (lenOf own_pd618 rfl) rfl (by show 2 * 0 + _ ≤ _; exact Nat.le_of_eq rfl) (hb hby at_4) (fun _ _ => ⟨rfl, e0, (by decide : 0 + 1 ≤ _), (by decide : 0 + 5 ≤ _)⟩)
  dsimp only [Pt.U, Pt.locs, Pt.cells, Pt.slots] at X158 lq158 yq158 zq158 st158 hQ158
  subst lq158 yq158 zq158
  obtain ⟨rfl, N158q, K158, k158, V158⟩ := hQ158
  have N158 := Fr.app N0 N158q
  have Zn158 : n0 ≤ T158.heap.size := Nat.le_trans Z0 K158.1
  obtain ⟨b158, g158⟩ : ∃ z, z = h0.size := ⟨_, rfl⟩
  rw [← g158] at V158 st158
  have ne159 : pl ≠ b158 := Nat.ne_of_lt (Nat.lt_of_lt_of_le Vp.lt (Nat.le_of_eq g158.symm))
  have geb158 : n0 ≤ b158 := Nat.le_trans Z0 (Nat.le_of_eq g158.symm)
  have f160 := own_keepS Sp K158 all0
  have f161 := Vp.keep K158 nin0
  have V158x : Arv Z T158.heap b158 k158 .long (5 : Int32) [(.long (own_f1_42v q2 q0)), (.long (own_f1_64v q2 q1)), (.long (own_f1_87v q2)), (.long (own_f1_118v q2 q0 q1)), (.long (own_f1_151v q2 q1))] (.long (0 : Int64)) := V158
  refine own_step st158 ?_
  show own_Run p e below T158 (mkF m 7 #[.val (.long q0), .second, .val (.long q1), .second, .val (.long q2), .second, .val (.long q3), .second, .val (.long q4), .second, .val (.long q5), .second, .unset, .unset, .unset, .unset, .unset, .unset, .unset, .unset, .unset] [(.ref b158)]) _
  refine own_step (fun t k => XS.astore X158.here hx rfl (hb hby at_7) rfl rfl (l' := #[.val (.long q0), .second, .val (.long q1), .second, .val (.long q2), .second, .val (.long q3), .second, .val (.long q4), .second, .val (.long q5), .second, .val (.ref b158), .unset, .unset, .unset, .unset, .unset, .unset, .unset, .unset]) rfl k) ?_
  show own_Run p e below T158 (mkF m 9 #[.val (.long q0), .second, .val (.long q1), .second, .val (.long q2), .second, .val (.long q3), .second, .val (.long q4), .second, .val (.long q5), .second, .val (.ref b158), .unset, .unset, .unset, .unset, .unset, .unset, .unset, .unset] []) _
  refine own_step (fun t k => XS.lload X158.here hx rfl (hb hby at_9) rfl  k) ?_
  refine own_step (fun t k => XS.lload X158.here hx rfl (hb hby at_11) rfl  k) ?_
  refine own_step (fun t k => XS.lload X158.here hx rfl (hb hby at_13) rfl  k) ?_
  show own_Run p e below T158 (mkF m 15 #[.val (.long q0), .second, .val (.long q1), .second, .val (.long q2), .second, .val (.long q3), .second, .val (.long q4), .second, .val (.long q5), .second, .val (.ref b158), .unset, .unset, .unset, .unset, .unset, .unset, .unset, .unset] [(.long q5), (.long q4), (.long q3)]) _
  obtain ⟨_, _, ⟨T162, L162, kq162, nq162⟩, -, X162, ⟨Lc162, hQ162, lq162, yq162, zq162⟩, st162⟩ := Jvm.LawKit.callS X158 hx (y := (⟨"com/example/rxrelay/rxrelay/protocol/gm/Sm2FieldSubtractPinLaw", "build", "(JJJ)[J"⟩ : MethodName)) hown (mvT hZ (hw _ (List.mem_of_getElem? (i := 0) rfl))) (mvT hZ (hw _ (List.mem_of_getElem? (i := 1) rfl))) (mvT hZ (hw _ (List.mem_of_getElem? (i := 2) rfl))) (mvT hZ (hw _ (List.mem_of_getElem? (i := 3) rfl))) (by decide) (backOf (W := 0) (rm1 l Z av0 hw [] q3 q4 q5 T158.heap n0 Zn158 ) hZ (hw _ (List.mem_of_getElem? (i := 3) rfl)) (hw _ (List.mem_of_getElem? (i := 2) rfl)) (by decide) (by decide)) (g := (mkF m 15 #[.val (.long q0), .second, .val (.long q1), .second, .val (.long q2), .second, .val (.long q3), .second, .val (.long q4), .second, .val (.long q5), .second, .val (.ref b158), .unset, .unset, .unset, .unset, .unset, .unset, .unset, .unset] [(.long q5), (.long q4), (.long q3)])) rfl (by rw [hml]; rfl) (argsL := [(.long q3), (.long q4), (.long q5)]) (rest := []) (lenOf own_pd618 rfl) rfl (by show 2 * 0 + _ ≤ _; exact Nat.le_of_eq rfl) (hb hby at_15) (fun _ _ => ⟨rfl, rfl, (by decide : 1 + 1 ≤ _), (by decide : 5 + 5 ≤ _)⟩)
  dsimp only [Pt.U, Pt.locs, Pt.cells, Pt.slots] at X162 lq162 yq162 zq162 st162 hQ162
  subst lq162 yq162 zq162
  obtain ⟨rfl, N162q, K162, k162, V162⟩ := hQ162
  have N162 := Fr.app N158 N162q
  have Zn162 : n0 ≤ T162.heap.size := Nat.le_trans Zn158 K162.1
  obtain ⟨b162, g162⟩ : ∃ z, z = T158.heap.size := ⟨_, rfl⟩
  rw [← g162] at V162 st162
  have ne163 : pl ≠ b162 := Nat.ne_of_lt (Nat.lt_of_lt_of_le f161.lt (Nat.le_of_eq g162.symm))
  have ne164 : b158 ≠ b162 := Nat.ne_of_lt (Nat.lt_of_lt_of_le V158x.lt (Nat.le_of_eq g162.symm))
  have geb162 : n0 ≤ b162 := Nat.le_trans Zn158 (Nat.le_of_eq g162.symm)
  have f165 := own_keepS f160 K162 all0
  have f166 := f161.keep K162 nin0
  have f167 := V158x.keep K162 nin0
  have V162x : Arv Z T162.heap b162 k162 .long (5 : Int32) [(.long (own_f1_42v q5 q3)), (.long (own_f1_64v q5 q4)), (.long (own_f1_87v q5)), (.long (own_f1_118v q5 q3 q4)), (.long (own_f1_151v q5 q4))] (.long (0 : Int64)) := V162
  refine own_step st162 ?_
  show own_Run p e below T162 (mkF m 18 #[.val (.long q0), .second, .val (.long q1), .second, .val (.long q2), .second, .val (.long q3), .second, .val (.long q4), .second, .val (.long q5), .second, .val (.ref b158), .unset, .unset, .unset, .unset, .unset, .unset, .unset, .unset] [(.ref b162)]) _
  refine own_step (fun t k => XS.astore X162.here hx rfl (hb hby at_18) rfl rfl (l' := #[.val (.long q0), .second, .val (.long q1), .second, .val (.long q2), .second, .val (.long q3), .second, .val (.long q4), .second, .val (.long q5), .second, .val (.ref b158), .val (.ref b162), .unset, .unset, .unset, .unset, .unset, .unset, .unset]) rfl k) ?_
  show own_Run p e below T162 (mkF m 20 #[.val (.long q0), .second, .val (.long q1), .second, .val (.long q2), .second, .val (.long q3), .second, .val (.long q4), .second, .val (.long q5), .second, .val (.ref b158), .val (.ref b162), .unset, .unset, .unset, .unset, .unset, .unset, .unset] []) _
  refine own_step (fun t k => XS.aload X162.here hx rfl (hb hby at_20) rfl rfl k) ?_
  obtain ⟨_, _, ⟨T168, L168, kq168, nq168⟩, -, X168, ⟨Lc168, hQ168, lq168, yq168, zq168⟩, st168⟩ := Jvm.LawKit.callS X162 hx (y := (⟨"com/example/rxrelay/rxrelay/protocol/gm/Sm2FieldSubtractPinLaw", "canonical", "([J)Z"⟩ : MethodName)) hown (mvT hZ (hw _ (List.mem_of_getElem? (i := 14) rfl))) (mvT hZ (hw _ (List.mem_of_getElem? (i := 15) rfl))) (mvT hZ (hw _ (List.mem_of_getElem? (i := 2) rfl))) (mvT hZ (hw _ (List.mem_of_getElem? (i := 16) rfl))) (by decide) (backOf (W := 0) (rm3 l Z av0 hw [] b158 k158 (own_f1_42v q2 q0) (own_f1_64v q2 q1) (own_f1_87v q2) (own_f1_118v q2 q0 q1) (own_f1_151v q2 q1) T162.heap n0 Zn162 f167) hZ (hw _ (List.mem_of_getElem? (i := 16) rfl)) (hw _ (List.mem_of_getElem? (i := 2) rfl)) (by decide) (by decide)) (g := (mkF m 22 #[.val (.long q0), .second, .val (.long q1), .second, .val (.long q2), .second, .val (.long q3), .second, .val (.long q4), .second, .val (.long q5), .second, .val (.ref b158), .val (.ref b162), .unset, .unset, .unset, .unset, .unset, .unset, .unset] [(.ref b158)])) rfl (by rw [hml]; rfl) (argsL := [(.ref b158)]) (rest := []) (lenOf own_pd191 rfl) rfl (by show 2 * 0 + _ ≤ _; exact Nat.le_of_eq rfl) (hb hby at_22) (fun _ _ => ⟨rfl, rfl, (by decide : 2 + 0 ≤ _), (by decide : 10 + 0 ≤ _)⟩)
  dsimp only [Pt.U, Pt.locs, Pt.cells, Pt.slots] at X168 lq168 yq168 zq168 st168 hQ168
  subst lq168 yq168 zq168
  obtain ⟨rfl, N168q, e168⟩ := hQ168
  have N168 := Fr.app N162 N168q
  refine own_step st168 ?_
  show own_Run p e below T168 (mkF m 25 #[.val (.long q0), .second, .val (.long q1), .second, .val (.long q2), .second, .val (.long q3), .second, .val (.long q4), .second, .val (.long q5), .second, .val (.ref b158), .val (.ref b162), .unset, .unset, .unset, .unset, .unset, .unset, .unset] [(.int (own_r3 (own_f1_42v q2 q0) (own_f1_64v q2 q1) (own_f1_87v q2) (own_f1_118v q2 q0 q1) (own_f1_151v q2 q1)))]) _
  by_cases hc169 : (own_r3 (own_f1_42v q2 q0) (own_f1_64v q2 q1) (own_f1_87v q2) (own_f1_118v q2 q0 q1) (own_f1_151v q2 q1)) = (0 : Int32)
  · refine own_vi (if_pos hc169) ?_
    refine own_step (fun t k => XS.ifYes X168.here hx rfl (pc0 := 25) (pc' := 36) rfl (hb hby at_25) rfl ((if0 _ _).trans (teq hc169).1) (by decide) (by decide) k) ?_
    show own_Run p e below T168 (mkF m 36 #[.val (.long q0), .second, .val (.long q1), .second, .val (.long q2), .second, .val (.long q3), .second, .val (.long q4), .second, .val (.long q5), .second, .val (.ref b158), .val (.ref b162), .unset, .unset, .unset, .unset, .unset, .unset, .unset] []) _
    refine own_step (fun t k => XS.iconst X168.here hx rfl (hb hby at_36) k) ?_
    exact own_retZ X168 hx hlk hret (hb hby at_37) (by decide) (by decide) N168 trivial
  · refine own_vi (if_neg hc169) ?_
    refine own_step (fun t k => XS.ifNo X168.here hx rfl (hb hby at_25) rfl ((if0 _ _).trans (feq hc169).1) k) ?_
    show own_Run p e below T168 (mkF m 28 #[.val (.long q0), .second, .val (.long q1), .second, .val (.long q2), .second, .val (.long q3), .second, .val (.long q4), .second, .val (.long q5), .second, .val (.ref b158), .val (.ref b162), .unset, .unset, .unset, .unset, .unset, .unset, .unset] []) _
    refine own_step (fun t k => XS.aload X168.here hx rfl (hb hby at_28) rfl rfl k) ?_
    obtain ⟨_, _, ⟨T170, L170, kq170, nq170⟩, -, X170, ⟨Lc170, hQ170, lq170, yq170, zq170⟩, st170⟩ := Jvm.LawKit.callS X168 hx (y := (⟨"com/example/rxrelay/rxrelay/protocol/gm/Sm2FieldSubtractPinLaw", "canonical", "([J)Z"⟩ : MethodName)) hown (mvT hZ (hw _ (List.mem_of_getElem? (i := 14) rfl))) (mvT hZ (hw _ (List.mem_of_getElem? (i := 15) rfl))) (mvT hZ (hw _ (List.mem_of_getElem? (i := 2) rfl))) (mvT hZ (hw _ (List.mem_of_getElem? (i := 16) rfl))) (by decide) (backOf (W := 0) (rm3 l Z av0 hw [] b162 k162 (own_f1_42v q5 q3) (own_f1_64v q5 q4) (own_f1_87v q5) (own_f1_118v q5 q3 q4) (own_f1_151v q5 q4) T162.heap n0 Zn162 V162x) hZ (hw _ (List.mem_of_getElem? (i := 16) rfl)) (hw _ (List.mem_of_getElem? (i := 2) rfl)) (by decide) (by decide)) (g := (mkF m 30 #[.val (.long q0), .second, .val (.long q1), .second, .val (.long q2), .second, .val (.long q3), .second, .val (.long q4), .second, .val (.long q5), .second, .val (.ref b158), .val (.ref b162), .unset, .unset, .unset, .unset, .unset, .unset, .unset] [(.ref b162)])) rfl (by rw [hml]; rfl) (argsL := [(.ref b162)]) (rest := []) (lenOf own_pd191 rfl) rfl (by show 2 * 0 + _ ≤ _; exact Nat.le_of_eq rfl) (hb hby at_30) (fun _ _ => ⟨rfl, e168, (by decide : 2 + 0 ≤ _), (by decide : 10 + 0 ≤ _)⟩)
    dsimp only [Pt.U, Pt.locs, Pt.cells, Pt.slots] at X170 lq170 yq170 zq170 st170 hQ170
    subst lq170 yq170 zq170
    obtain ⟨rfl, N170q, e170⟩ := hQ170
    have N170 := Fr.app N168 N170q
    refine own_step st170 ?_
    show own_Run p e below T170 (mkF m 33 #[.val (.long q0), .second, .val (.long q1), .second, .val (.long q2), .second, .val (.long q3), .second, .val (.long q4), .second, .val (.long q5), .second, .val (.ref b158), .val (.ref b162), .unset, .unset, .unset, .unset, .unset, .unset, .unset] [(.int (own_r3 (own_f1_42v q5 q3) (own_f1_64v q5 q4) (own_f1_87v q5) (own_f1_118v q5 q3 q4) (own_f1_151v q5 q4)))]) _
    by_cases hc171 : (own_r3 (own_f1_42v q5 q3) (own_f1_64v q5 q4) (own_f1_87v q5) (own_f1_118v q5 q3 q4) (own_f1_151v q5 q4)) = (0 : Int32)
    · refine own_vi (if_pos hc171) ?_
      refine own_step (fun t k => XS.ifNo X170.here hx rfl (hb hby at_33) rfl ((if0 _ _).trans (teq hc171).2) k) ?_
      show own_Run p e below T170 (mkF m 36 #[.val (.long q0), .second, .val (.long q1), .second, .val (.long q2), .second, .val (.long q3), .second, .val (.long q4), .second, .val (.long q5), .second, .val (.ref b158), .val (.ref b162), .unset, .unset, .unset, .unset, .unset, .unset, .unset] []) _
      refine own_step (fun t k => XS.iconst X170.here hx rfl (hb hby at_36) k) ?_
      exact own_retZ X170 hx hlk hret (hb hby at_37) (by decide) (by decide) N170 trivial
    · refine own_vi (if_neg hc171) ?_
      refine own_step (fun t k => XS.ifYes X170.here hx rfl (pc0 := 33) (pc' := 38) rfl (hb hby at_33) rfl ((if0 _ _).trans (feq hc171).2) (by decide) (by decide) k) ?_
      show own_Run p e below T170 (mkF m 38 #[.val (.long q0), .second, .val (.long q1), .second, .val (.long q2), .second, .val (.long q3), .second, .val (.long q4), .second, .val (.long q5), .second, .val (.ref b158), .val (.ref b162), .unset, .unset, .unset, .unset, .unset, .unset, .unset] []) _
      refine own_step (fun t k => XS.lloadN X170.here hx rfl (hb hby at_38) rfl  k) ?_
      refine own_step (fun t k => XS.lloadN X170.here hx rfl (hb hby at_39) rfl  k) ?_
      show own_Run p e below T170 (mkF m 40 #[.val (.long q0), .second, .val (.long q1), .second, .val (.long q2), .second, .val (.long q3), .second, .val (.long q4), .second, .val (.long q5), .second, .val (.ref b158), .val (.ref b162), .unset, .unset, .unset, .unset, .unset, .unset, .unset] [(.long q1), (.long q0)]) _
      refine own_step (fun t k => XS.lload X170.here hx rfl (hb hby at_40) rfl  k) ?_
      obtain ⟨_, _, ⟨T172, L172, kq172, nq172⟩, -, X172, ⟨Lc172, hQ172, lq172, yq172, zq172⟩, st172⟩ := Jvm.LawKit.callS X170 hx (y := (⟨"com/example/rxrelay/rxrelay/protocol/gm/Sm2FieldSubtractPinLaw", "build", "(JJJ)[J"⟩ : MethodName)) hown (mvT hZ (hw _ (List.mem_of_getElem? (i := 0) rfl))) (mvT hZ (hw _ (List.mem_of_getElem? (i := 1) rfl))) (mvT hZ (hw _ (List.mem_of_getElem? (i := 2) rfl))) (mvT hZ (hw _ (List.mem_of_getElem? (i := 3) rfl))) (by decide) (backOf (W := 0) (rm1 l Z av0 hw [] q0 q1 q2 T162.heap n0 Zn162 ) hZ (hw _ (List.mem_of_getElem? (i := 3) rfl)) (hw _ (List.mem_of_getElem? (i := 2) rfl)) (by decide) (by decide)) (g := (mkF m 42 #[.val (.long q0), .second, .val (.long q1), .second, .val (.long q2), .second, .val (.long q3), .second, .val (.long q4), .second, .val (.long q5), .second, .val (.ref b158), .val (.ref b162), .unset, .unset, .unset, .unset, .unset, .unset, .unset] [(.long q2), (.long q1), (.long q0)])) rfl (by rw [hml]; rfl) (argsL := [(.long q0), (.long q1), (.long q2)]) (rest := []) (lenOf own_pd618 rfl) rfl (by show 2 * 0 + _ ≤ _; exact Nat.le_of_eq rfl) (hb hby at_42) (fun _ _ => ⟨rfl, e170, (by decide : 2 + 1 ≤ _), (by decide : 10 + 5 ≤ _)⟩)
      dsimp only [Pt.U, Pt.locs, Pt.cells, Pt.slots] at X172 lq172 yq172 zq172 st172 hQ172
      subst lq172 yq172 zq172
      obtain ⟨rfl, N172q, K172, k172, V172⟩ := hQ172
      have N172 := Fr.app N170 N172q
      have Zn172 : n0 ≤ T172.heap.size := Nat.le_trans Zn162 K172.1
      obtain ⟨b172, g172⟩ : ∃ z, z = T162.heap.size := ⟨_, rfl⟩
      rw [← g172] at V172 st172
      have ne173 : pl ≠ b172 := Nat.ne_of_lt (Nat.lt_of_lt_of_le f166.lt (Nat.le_of_eq g172.symm))
      have ne174 : b158 ≠ b172 := Nat.ne_of_lt (Nat.lt_of_lt_of_le f167.lt (Nat.le_of_eq g172.symm))
      have ne175 : b162 ≠ b172 := Nat.ne_of_lt (Nat.lt_of_lt_of_le V162x.lt (Nat.le_of_eq g172.symm))
      have geb172 : n0 ≤ b172 := Nat.le_trans Zn162 (Nat.le_of_eq g172.symm)
      have f176 := own_keepS f165 K172 all0
      have f177 := f166.keep K172 nin0
      have f178 := f167.keep K172 nin0
      have f179 := V162x.keep K172 nin0
      have V172x : Arv Z T172.heap b172 k172 .long (5 : Int32) [(.long (own_f1_42v q2 q0)), (.long (own_f1_64v q2 q1)), (.long (own_f1_87v q2)), (.long (own_f1_118v q2 q0 q1)), (.long (own_f1_151v q2 q1))] (.long (0 : Int64)) := V172
      refine own_step st172 ?_
      show own_Run p e below T172 (mkF m 45 #[.val (.long q0), .second, .val (.long q1), .second, .val (.long q2), .second, .val (.long q3), .second, .val (.long q4), .second, .val (.long q5), .second, .val (.ref b158), .val (.ref b162), .unset, .unset, .unset, .unset, .unset, .unset, .unset] [(.ref b172)]) _
      refine own_step (fun t k => XS.astore X172.here hx rfl (hb hby at_45) rfl rfl (l' := #[.val (.long q0), .second, .val (.long q1), .second, .val (.long q2), .second, .val (.long q3), .second, .val (.long q4), .second, .val (.long q5), .second, .val (.ref b158), .val (.ref b162), .val (.ref b172), .unset, .unset, .unset, .unset, .unset, .unset]) rfl k) ?_
      show own_Run p e below T172 (mkF m 47 #[.val (.long q0), .second, .val (.long q1), .second, .val (.long q2), .second, .val (.long q3), .second, .val (.long q4), .second, .val (.long q5), .second, .val (.ref b158), .val (.ref b162), .val (.ref b172), .unset, .unset, .unset, .unset, .unset, .unset] []) _
      refine own_step (fun t k => XS.lload X172.here hx rfl (hb hby at_47) rfl  k) ?_
      refine own_step (fun t k => XS.lload X172.here hx rfl (hb hby at_49) rfl  k) ?_
      refine own_step (fun t k => XS.lload X172.here hx rfl (hb hby at_51) rfl  k) ?_
      show own_Run p e below T172 (mkF m 53 #[.val (.long q0), .second, .val (.long q1), .second, .val (.long q2), .second, .val (.long q3), .second, .val (.long q4), .second, .val (.long q5), .second, .val (.ref b158), .val (.ref b162), .val (.ref b172), .unset, .unset, .unset, .unset, .unset, .unset] [(.long q5), (.long q4), (.long q3)]) _
      obtain ⟨_, _, ⟨T180, L180, kq180, nq180⟩, -, X180, ⟨Lc180, hQ180, lq180, yq180, zq180⟩, st180⟩ := Jvm.LawKit.callS X172 hx (y := (⟨"com/example/rxrelay/rxrelay/protocol/gm/Sm2FieldSubtractPinLaw", "build", "(JJJ)[J"⟩ : MethodName)) hown (mvT hZ (hw _ (List.mem_of_getElem? (i := 0) rfl))) (mvT hZ (hw _ (List.mem_of_getElem? (i := 1) rfl))) (mvT hZ (hw _ (List.mem_of_getElem? (i := 2) rfl))) (mvT hZ (hw _ (List.mem_of_getElem? (i := 3) rfl))) (by decide) (backOf (W := 0) (rm1 l Z av0 hw [] q3 q4 q5 T172.heap n0 Zn172 ) hZ (hw _ (List.mem_of_getElem? (i := 3) rfl)) (hw _ (List.mem_of_getElem? (i := 2) rfl)) (by decide) (by decide)) (g := (mkF m 53 #[.val (.long q0), .second, .val (.long q1), .second, .val (.long q2), .second, .val (.long q3), .second, .val (.long q4), .second, .val (.long q5), .second, .val (.ref b158), .val (.ref b162), .val (.ref b172), .unset, .unset, .unset, .unset, .unset, .unset] [(.long q5), (.long q4), (.long q3)])) rfl (by rw [hml]; rfl) (argsL := [(.long q3), (.long q4), (.long q5)]) (rest := []) (lenOf own_pd618 rfl) rfl (by show 2 * 0 + _ ≤ _; exact Nat.le_of_eq rfl) (hb hby at_53) (fun _ _ => ⟨rfl, rfl, (by decide : 3 + 1 ≤ _), (by decide : 15 + 5 ≤ _)⟩)
      dsimp only [Pt.U, Pt.locs, Pt.cells, Pt.slots] at X180 lq180 yq180 zq180 st180 hQ180
      subst lq180 yq180 zq180
      obtain ⟨rfl, N180q, K180, k180, V180⟩ := hQ180
      have N180 := Fr.app N172 N180q
      have Zn180 : n0 ≤ T180.heap.size := Nat.le_trans Zn172 K180.1
      obtain ⟨b180, g180⟩ : ∃ z, z = T172.heap.size := ⟨_, rfl⟩
      rw [← g180] at V180 st180
      have ne181 : pl ≠ b180 := Nat.ne_of_lt (Nat.lt_of_lt_of_le f177.lt (Nat.le_of_eq g180.symm))
      have ne182 : b158 ≠ b180 := Nat.ne_of_lt (Nat.lt_of_lt_of_le f178.lt (Nat.le_of_eq g180.symm))
      have ne183 : b162 ≠ b180 := Nat.ne_of_lt (Nat.lt_of_lt_of_le f179.lt (Nat.le_of_eq g180.symm))
      have ne184 : b172 ≠ b180 := Nat.ne_of_lt (Nat.lt_of_lt_of_le V172x.lt (Nat.le_of_eq g180.symm))
      have geb180 : n0 ≤ b180 := Nat.le_trans Zn172 (Nat.le_of_eq g180.symm)
      have f185 := own_keepS f176 K180 all0
      have f186 := f177.keep K180 nin0
      have f187 := f178.keep K180 nin0
      have f188 := f179.keep K180 nin0
      have f189 := V172x.keep K180 nin0
      have V180x : Arv Z T180.heap b180 k180 .long (5 : Int32) [(.long (own_f1_42v q5 q3)), (.long (own_f1_64v q5 q4)), (.long (own_f1_87v q5)), (.long (own_f1_118v q5 q3 q4)), (.long (own_f1_151v q5 q4))] (.long (0 : Int64)) := V180
      refine own_step st180 ?_
      show own_Run p e below T180 (mkF m 56 #[.val (.long q0), .second, .val (.long q1), .second, .val (.long q2), .second, .val (.long q3), .second, .val (.long q4), .second, .val (.long q5), .second, .val (.ref b158), .val (.ref b162), .val (.ref b172), .unset, .unset, .unset, .unset, .unset, .unset] [(.ref b180)]) _
      refine own_step (fun t k => XS.astore X180.here hx rfl (hb hby at_56) rfl rfl (l' := #[.val (.long q0), .second, .val (.long q1), .second, .val (.long q2), .second, .val (.long q3), .second, .val (.long q4), .second, .val (.long q5), .second, .val (.ref b158), .val (.ref b162), .val (.ref b172), .val (.ref b180), .unset, .unset, .unset, .unset, .unset]) rfl k) ?_
      show own_Run p e below T180 (mkF m 58 #[.val (.long q0), .second, .val (.long q1), .second, .val (.long q2), .second, .val (.long q3), .second, .val (.long q4), .second, .val (.long q5), .second, .val (.ref b158), .val (.ref b162), .val (.ref b172), .val (.ref b180), .unset, .unset, .unset, .unset, .unset] []) _
      refine own_step (fun t k => XS.iconst X180.here hx rfl (hb hby at_58) k) ?_
      obtain ⟨T190, h190, k190, X190, e190, E190, A190, st190⟩ := newP X180 hx hZ (hw _ (List.mem_of_getElem? (i := 6) rfl)) rfl (g := (mkF m 59 #[.val (.long q0), .second, .val (.long q1), .second, .val (.long q2), .second, .val (.long q3), .second, .val (.long q4), .second, .val (.long q5), .second, .val (.ref b158), .val (.ref b162), .val (.ref b172), .val (.ref b180), .unset, .unset, .unset, .unset, .unset] [(.int (5 : Int32))])) rfl (hb hby at_59) rfl (by decide) (cap := 5) (by decide) (by decide) (by decide) (by decide)
      obtain ⟨b190, g190⟩ : ∃ z, z = T180.heap.size := ⟨_, rfl⟩
      rw [← g190] at A190 st190
      have ne191 : pl ≠ b190 := Nat.ne_of_lt (Nat.lt_of_lt_of_le f186.lt (Nat.le_of_eq g190.symm))
      have ne192 : b158 ≠ b190 := Nat.ne_of_lt (Nat.lt_of_lt_of_le f187.lt (Nat.le_of_eq g190.symm))
      have ne193 : b162 ≠ b190 := Nat.ne_of_lt (Nat.lt_of_lt_of_le f188.lt (Nat.le_of_eq g190.symm))
      have ne194 : b172 ≠ b190 := Nat.ne_of_lt (Nat.lt_of_lt_of_le f189.lt (Nat.le_of_eq g190.symm))
      have ne195 : b180 ≠ b190 := Nat.ne_of_lt (Nat.lt_of_lt_of_le V180x.lt (Nat.le_of_eq g190.symm))
      have f196 := Sta.ext E190 f185
      have f197 := f186.ext E190
      have f198 := f187.ext E190
      have f199 := f188.ext E190
      have f200 := f189.ext E190
      have f201 := V180x.ext E190
      have geb190 : n0 ≤ b190 := Nat.le_trans Zn180 (Nat.le_of_eq g190.symm)
      have Zn190 : n0 ≤ h190.size := Nat.le_trans Zn180 E190.1
      have V190 : Arv Z h190 b190 k190 .long (5 : Int32) [(.long (0 : Int64)), (.long (0 : Int64)), (.long (0 : Int64)), (.long (0 : Int64)), (.long (0 : Int64))] (.long (0 : Int64)) := (Arv.new A190 (by decide)).pad (pad_rep [] (.long (0 : Int64)) 5)
      refine own_step st190 ?_
      show own_Run p e below T190 (mkF m 61 #[.val (.long q0), .second, .val (.long q1), .second, .val (.long q2), .second, .val (.long q3), .second, .val (.long q4), .second, .val (.long q5), .second, .val (.ref b158), .val (.ref b162), .val (.ref b172), .val (.ref b180), .unset, .unset, .unset, .unset, .unset] [(.ref b190)]) _
      refine own_step (fun t k => XS.astore X190.here hx rfl (hb hby at_61) rfl rfl (l' := #[.val (.long q0), .second, .val (.long q1), .second, .val (.long q2), .second, .val (.long q3), .second, .val (.long q4), .second, .val (.long q5), .second, .val (.ref b158), .val (.ref b162), .val (.ref b172), .val (.ref b180), .val (.ref b190), .unset, .unset, .unset, .unset]) rfl k) ?_
      show own_Run p e below T190 (mkF m 63 #[.val (.long q0), .second, .val (.long q1), .second, .val (.long q2), .second, .val (.long q3), .second, .val (.long q4), .second, .val (.long q5), .second, .val (.ref b158), .val (.ref b162), .val (.ref b172), .val (.ref b180), .val (.ref b190), .unset, .unset, .unset, .unset] []) _
      refine own_step (fun t k => XS.iconst X190.here hx rfl (hb hby at_63) k) ?_
      obtain ⟨T202, h202, k202, X202, e202, E202, A202, st202⟩ := newP X190 hx hZ (hw _ (List.mem_of_getElem? (i := 6) rfl)) e190 (g := (mkF m 64 #[.val (.long q0), .second, .val (.long q1), .second, .val (.long q2), .second, .val (.long q3), .second, .val (.long q4), .second, .val (.long q5), .second, .val (.ref b158), .val (.ref b162), .val (.ref b172), .val (.ref b180), .val (.ref b190), .unset, .unset, .unset, .unset] [(.int (5 : Int32))])) rfl (hb hby at_64) rfl (by decide) (cap := 5) (by decide) (by decide) (by decide) (by decide)
      obtain ⟨b202, g202⟩ : ∃ z, z = h190.size := ⟨_, rfl⟩
      rw [← g202] at A202 st202
      have ne203 : pl ≠ b202 := Nat.ne_of_lt (Nat.lt_of_lt_of_le f197.lt (Nat.le_of_eq g202.symm))
      have ne204 : b158 ≠ b202 := Nat.ne_of_lt (Nat.lt_of_lt_of_le f198.lt (Nat.le_of_eq g202.symm))
      have ne205 : b162 ≠ b202 := Nat.ne_of_lt (Nat.lt_of_lt_of_le f199.lt (Nat.le_of_eq g202.symm))
      have ne206 : b172 ≠ b202 := Nat.ne_of_lt (Nat.lt_of_lt_of_le f200.lt (Nat.le_of_eq g202.symm))
      have ne207 : b180 ≠ b202 := Nat.ne_of_lt (Nat.lt_of_lt_of_le f201.lt (Nat.le_of_eq g202.symm))
      have ne208 : b190 ≠ b202 := Nat.ne_of_lt (Nat.lt_of_lt_of_le V190.lt (Nat.le_of_eq g202.symm))
      have f209 := Sta.ext E202 f196
      have f210 := f197.ext E202
      have f211 := f198.ext E202
      have f212 := f199.ext E202
      have f213 := f200.ext E202
      have f214 := f201.ext E202
      have f215 := V190.ext E202
      have geb202 : n0 ≤ b202 := Nat.le_trans Zn190 (Nat.le_of_eq g202.symm)
      have Zn202 : n0 ≤ h202.size := Nat.le_trans Zn190 E202.1
      have V202 : Arv Z h202 b202 k202 .long (5 : Int32) [(.long (0 : Int64)), (.long (0 : Int64)), (.long (0 : Int64)), (.long (0 : Int64)), (.long (0 : Int64))] (.long (0 : Int64)) := (Arv.new A202 (by decide)).pad (pad_rep [] (.long (0 : Int64)) 5)
      refine own_step st202 ?_
      show own_Run p e below T202 (mkF m 66 #[.val (.long q0), .second, .val (.long q1), .second, .val (.long q2), .second, .val (.long q3), .second, .val (.long q4), .second, .val (.long q5), .second, .val (.ref b158), .val (.ref b162), .val (.ref b172), .val (.ref b180), .val (.ref b190), .unset, .unset, .unset, .unset] [(.ref b202)]) _
      refine own_step (fun t k => XS.astore X202.here hx rfl (hb hby at_66) rfl rfl (l' := #[.val (.long q0), .second, .val (.long q1), .second, .val (.long q2), .second, .val (.long q3), .second, .val (.long q4), .second, .val (.long q5), .second, .val (.ref b158), .val (.ref b162), .val (.ref b172), .val (.ref b180), .val (.ref b190), .val (.ref b202), .unset, .unset, .unset]) rfl k) ?_
      show own_Run p e below T202 (mkF m 68 #[.val (.long q0), .second, .val (.long q1), .second, .val (.long q2), .second, .val (.long q3), .second, .val (.long q4), .second, .val (.long q5), .second, .val (.ref b158), .val (.ref b162), .val (.ref b172), .val (.ref b180), .val (.ref b190), .val (.ref b202), .unset, .unset, .unset] []) _
      refine own_step (fun t k => XS.lload X202.here hx rfl (hb hby at_68) rfl  k) ?_
      refine own_step (fun t k => XS.bipush X202.here hx rfl (hb hby at_70) k) ?_
      refine own_step (fun t k => XS.lushr X202.here hx rfl (hb hby at_72) rfl k) ?_
      show own_Run p e below T202 (mkF m 73 #[.val (.long q0), .second, .val (.long q1), .second, .val (.long q2), .second, .val (.long q3), .second, .val (.long q4), .second, .val (.long q5), .second, .val (.ref b158), .val (.ref b162), .val (.ref b172), .val (.ref b180), .val (.ref b190), .val (.ref b202), .unset, .unset, .unset] [(.long (own_ushrL q2 (52 : Int32)))]) _
      refine own_step (fun t k => X202.ldc2Long hx hown (mvT hZ (hw _ (List.mem_of_getElem? (i := 20) rfl))) (g := (mkF m 73 #[.val (.long q0), .second, .val (.long q1), .second, .val (.long q2), .second, .val (.long q3), .second, .val (.long q4), .second, .val (.long q5), .second, .val (.ref b158), .val (.ref b162), .val (.ref b172), .val (.ref b180), .val (.ref b190), .val (.ref b202), .unset, .unset, .unset] [(.long (own_ushrL q2 (52 : Int32)))])) rfl (hb hby at_73) t k) ?_
      show own_Run p e below T202 (mkF m 76 #[.val (.long q0), .second, .val (.long q1), .second, .val (.long q2), .second, .val (.long q3), .second, .val (.long q4), .second, .val (.long q5), .second, .val (.ref b158), .val (.ref b162), .val (.ref b172), .val (.ref b180), .val (.ref b190), .val (.ref b202), .unset, .unset, .unset] [(.long (3 : Int64)), (.long (own_ushrL q2 (52 : Int32)))]) _
      refine own_step (fun t k => XS.land X202.here hx rfl (hb hby at_76) rfl k) ?_
      show own_Run p e below T202 (mkF m 77 #[.val (.long q0), .second, .val (.long q1), .second, .val (.long q2), .second, .val (.long q3), .second, .val (.long q4), .second, .val (.long q5), .second, .val (.ref b158), .val (.ref b162), .val (.ref b172), .val (.ref b180), .val (.ref b190), .val (.ref b202), .unset, .unset, .unset] [(.long ((own_ushrL q2 (52 : Int32)) &&& (3 : Int64)))]) _
      refine own_step (fun t k => XS.l2i X202.here hx rfl (hb hby at_77) rfl k) ?_
      show own_Run p e below T202 (mkF m 78 #[.val (.long q0), .second, .val (.long q1), .second, .val (.long q2), .second, .val (.long q3), .second, .val (.long q4), .second, .val (.long q5), .second, .val (.ref b158), .val (.ref b162), .val (.ref b172), .val (.ref b180), .val (.ref b190), .val (.ref b202), .unset, .unset, .unset] [(.int (((own_ushrL q2 (52 : Int32)) &&& (3 : Int64))).toInt32)]) _
      refine own_step (fun t k => XS.istore X202.here hx rfl (hb hby at_78) rfl (l' := #[.val (.long q0), .second, .val (.long q1), .second, .val (.long q2), .second, .val (.long q3), .second, .val (.long q4), .second, .val (.long q5), .second, .val (.ref b158), .val (.ref b162), .val (.ref b172), .val (.ref b180), .val (.ref b190), .val (.ref b202), .val (.int (own_f0_78 q2)), .unset, .unset]) rfl k) ?_
      show own_Run p e below T202 (mkF m 80 #[.val (.long q0), .second, .val (.long q1), .second, .val (.long q2), .second, .val (.long q3), .second, .val (.long q4), .second, .val (.long q5), .second, .val (.ref b158), .val (.ref b162), .val (.ref b172), .val (.ref b180), .val (.ref b190), .val (.ref b202), .val (.int (own_f0_78 q2)), .unset, .unset] []) _
      refine own_step (fun t k => XS.aload X202.here hx rfl (hb hby at_80) rfl rfl k) ?_
      refine own_step (fun t k => XS.astore X202.here hx rfl (hb hby at_82) rfl rfl (l' := #[.val (.long q0), .second, .val (.long q1), .second, .val (.long q2), .second, .val (.long q3), .second, .val (.long q4), .second, .val (.long q5), .second, .val (.ref b158), .val (.ref b162), .val (.ref b172), .val (.ref b180), .val (.ref b190), .val (.ref b202), .val (.int (own_f0_78 q2)), .val (.ref b190), .unset]) rfl k) ?_
      show own_Run p e below T202 (mkF m 84 #[.val (.long q0), .second, .val (.long q1), .second, .val (.long q2), .second, .val (.long q3), .second, .val (.long q4), .second, .val (.long q5), .second, .val (.ref b158), .val (.ref b162), .val (.ref b172), .val (.ref b180), .val (.ref b190), .val (.ref b202), .val (.int (own_f0_78 q2)), .val (.ref b190), .unset] []) _
      refine own_step (fun t k => XS.aload X202.here hx rfl (hb hby at_84) rfl rfl k) ?_
      refine own_step (fun t k => XS.astore X202.here hx rfl (hb hby at_86) rfl rfl (l' := #[.val (.long q0), .second, .val (.long q1), .second, .val (.long q2), .second, .val (.long q3), .second, .val (.long q4), .second, .val (.long q5), .second, .val (.ref b158), .val (.ref b162), .val (.ref b172), .val (.ref b180), .val (.ref b190), .val (.ref b202), .val (.int (own_f0_78 q2)), .val (.ref b190), .val (.ref b180)]) rfl k) ?_
      show own_Run p e below T202 (mkF m 88 #[.val (.long q0), .second, .val (.long q1), .second, .val (.long q2), .second, .val (.long q3), .second, .val (.long q4), .second, .val (.long q5), .second, .val (.ref b158), .val (.ref b162), .val (.ref b172), .val (.ref b180), .val (.ref b190), .val (.ref b202), .val (.int (own_f0_78 q2)), .val (.ref b190), .val (.ref b180)] []) _
      refine own_step (fun t k => XS.iload X202.here hx rfl (hb hby at_88) rfl  k) ?_
      show own_Run p e below T202 (mkF m 90 #[.val (.long q0), .second, .val (.long q1), .second, .val (.long q2), .second, .val (.long q3), .second, .val (.long q4), .second, .val (.long q5), .second, .val (.ref b158), .val (.ref b162), .val (.ref b172), .val (.ref b180), .val (.ref b190), .val (.ref b202), .val (.int (own_f0_78 q2)), .val (.ref b190), .val (.ref b180)] [(.int (own_f0_78 q2))]) _
      by_cases hc216 : (own_f0_78 q2) = (0 : Int32)
      · refine own_vi (if_pos hc216) ?_
        refine own_step (fun t k => XS.ifNo X202.here hx rfl (hb hby at_90) rfl ((if0 _ _).trans (teq hc216).2) k) ?_
        show own_Run p e below T202 (mkF m 93 #[.val (.long q0), .second, .val (.long q1), .second, .val (.long q2), .second, .val (.long q3), .second, .val (.long q4), .second, .val (.long q5), .second, .val (.ref b158), .val (.ref b162), .val (.ref b172), .val (.ref b180), .val (.ref b190), .val (.ref b202), .val (.int (own_f0_78 q2)), .val (.ref b190), .val (.ref b180)] []) _
        refine own_step (fun t k => XS.aload X202.here hx rfl (hb hby at_93) rfl rfl k) ?_
        refine own_step (fun t k => XS.aload X202.here hx rfl (hb hby at_95) rfl rfl k) ?_
        refine own_step (fun t k => XS.aload X202.here hx rfl (hb hby at_97) rfl rfl k) ?_
        show own_Run p e below T202 (mkF m 99 #[.val (.long q0), .second, .val (.long q1), .second, .val (.long q2), .second, .val (.long q3), .second, .val (.long q4), .second, .val (.long q5), .second, .val (.ref b158), .val (.ref b162), .val (.ref b172), .val (.ref b180), .val (.ref b190), .val (.ref b202), .val (.int (own_f0_78 q2)), .val (.ref b190), .val (.ref b180)] [(.ref b190), (.ref b162), (.ref b158)]) _
        obtain ⟨_, _, ⟨T217, L217, kq217, nq217⟩, -, X217, ⟨Lc217, hQ217, lq217, yq217, zq217⟩, st217⟩ := Jvm.LawKit.callS X202 hx (y := (⟨"com/example/rxrelay/rxrelay/protocol/gm/Sm2Field", "subtract", "([J[J[J)V"⟩ : MethodName)) hown (mvT hZ (hw _ (List.mem_of_getElem? (i := 21) rfl))) (mvT hZ (hw _ (List.mem_of_getElem? (i := 22) rfl))) (mvT hZ (hw _ (List.mem_of_getElem? (i := 23) rfl))) (mvT hZ (hw _ (List.mem_of_getElem? (i := 24) rfl))) (by decide) (backOf (W := 0) (rm5 l Z av0 hw [] b158 b162 b190 pl kp k158 k162 k190 (own_f1_42v q2 q0) (own_f1_64v q2 q1) (own_f1_87v q2) (own_f1_118v q2 q0 q1) (own_f1_151v q2 q1) (own_f1_42v q5 q3) (own_f1_64v q5 q4) (own_f1_87v q5) (own_f1_118v q5 q3 q4) (own_f1_151v q5 q4) (0 : Int64) (0 : Int64) (0 : Int64) (0 : Int64) (0 : Int64) h202 n0 Zn202 geb190 ne191 ne192 ne193 f211 f212 f215 f209 f210) hZ (hw _ (List.mem_of_getElem? (i := 24) rfl)) (hw _ (List.mem_of_getElem? (i := 23) rfl)) (by decide) (by decide)) (g := (mkF m 99 #[.val (.long q0), .second, .val (.long q1), .second, .val (.long q2), .second, .val (.long q3), .second, .val (.long q4), .second, .val (.long q5), .second, .val (.ref b158), .val (.ref b162), .val (.ref b172), .val (.ref b180), .val (.ref b190), .val (.ref b202), .val (.int (own_f0_78 q2)), .val (.ref b190), .val (.ref b180)] [(.ref b190), (.ref b162), (.ref b158)])) rfl (by rw [hml]; rfl) (argsL := [(.ref b158), (.ref b162), (.ref b190)]) (rest := []) (lenOf own_pd619 rfl) rfl (by show 2 * 0 + _ ≤ _; exact Nat.le_of_eq rfl) (hb hby at_99) (fun _ _ => ⟨rfl, e202, (by decide : 6 + 0 ≤ _), (by decide : 30 + 0 ≤ _)⟩)
        dsimp only [Pt.U, Pt.locs, Pt.cells, Pt.slots] at X217 lq217 yq217 zq217 st217 hQ217
        subst lq217 yq217 zq217
        obtain ⟨rfl, N217q, K217, P217_0⟩ := hQ217
        have N217 := Fr.app N180 N217q
        have Zn217 : n0 ≤ T217.heap.size := Nat.le_trans Zn202 K217.1
        have P217_0x : Arv Z T217.heap b190 k190 .long (5 : Int32) [(.long (own_f0_c99_0_0 q2 q0 q5 q3 q1 q4)), (.long (own_f0_c99_0_1 q2 q1 q5 q4 q0 q3)), (.long (own_f0_c99_0_2 q2 q5 q1 q4 q0 q3)), (.long (own_f0_c99_0_3 q2 q0 q1 q5 q3 q4)), (.long (own_f0_c99_0_4 q2 q1 q5 q4 q0 q3))] (.long (0 : Int64)) := P217_0
        have f218 := own_keepS f209 K217 (allS (own_plV f215) all0)
        have f219 := f210.keep K217 (ninS ne191 nin0)
        have f220 := f211.keep K217 (ninS ne192 nin0)
        have f221 := f212.keep K217 (ninS ne193 nin0)
        have f222 := f213.keep K217 (ninS ne194 nin0)
        have f223 := f214.keep K217 (ninS ne195 nin0)
        have f224 := V202.keep K217 (ninS (Ne.symm ne208) nin0)
        refine own_step st217 ?_
        show own_Run p e below T217 (mkF m 102 #[.val (.long q0), .second, .val (.long q1), .second, .val (.long q2), .second, .val (.long q3), .second, .val (.long q4), .second, .val (.long q5), .second, .val (.ref b158), .val (.ref b162), .val (.ref b172), .val (.ref b180), .val (.ref b190), .val (.ref b202), .val (.int (own_f0_78 q2)), .val (.ref b190), .val (.ref b180)] []) _
        refine own_step (fun t k => XS.aload X217.here hx rfl (hb hby at_102) rfl rfl k) ?_
        refine own_step (fun t k => XS.astore X217.here hx rfl (hb hby at_104) rfl rfl (l' := #[.val (.long q0), .second, .val (.long q1), .second, .val (.long q2), .second, .val (.long q3), .second, .val (.long q4), .second, .val (.long q5), .second, .val (.ref b158), .val (.ref b162), .val (.ref b172), .val (.ref b180), .val (.ref b190), .val (.ref b202), .val (.int (own_f0_78 q2)), .val (.ref b190), .val (.ref b180)]) rfl k) ?_
        show own_Run p e below T217 (mkF m 106 #[.val (.long q0), .second, .val (.long q1), .second, .val (.long q2), .second, .val (.long q3), .second, .val (.long q4), .second, .val (.long q5), .second, .val (.ref b158), .val (.ref b162), .val (.ref b172), .val (.ref b180), .val (.ref b190), .val (.ref b202), .val (.int (own_f0_78 q2)), .val (.ref b190), .val (.ref b180)] []) _
        refine own_step (fun t k => XS.goto X217.here hx rfl (pc0 := 106) (pc' := 170) rfl (hb hby at_106) (by decide) (by decide) k) ?_
        show own_Run p e below T217 (mkF m 170 #[.val (.long q0), .second, .val (.long q1), .second, .val (.long q2), .second, .val (.long q3), .second, .val (.long q4), .second, .val (.long q5), .second, .val (.ref b158), .val (.ref b162), .val (.ref b172), .val (.ref b180), .val (.ref b190), .val (.ref b202), .val (.int (own_f0_78 q2)), .val (.ref b190), .val (.ref b180)] []) _
        refine own_step (fun t k => XS.aload X217.here hx rfl (hb hby at_170) rfl rfl k) ?_
        obtain ⟨_, _, ⟨T225, L225, kq225, nq225⟩, -, X225, ⟨Lc225, hQ225, lq225, yq225, zq225⟩, st225⟩ := Jvm.LawKit.callS X217 hx (y := (⟨"com/example/rxrelay/rxrelay/protocol/gm/Sm2FieldSubtractPinLaw", "canonical", "([J)Z"⟩ : MethodName)) hown (mvT hZ (hw _ (List.mem_of_getElem? (i := 14) rfl))) (mvT hZ (hw _ (List.mem_of_getElem? (i := 15) rfl))) (mvT hZ (hw _ (List.mem_of_getElem? (i := 2) rfl))) (mvT hZ (hw _ (List.mem_of_getElem? (i := 16) rfl))) (by decide) (backOf (W := 0) (rm3 l Z av0 hw [] b190 k190 (own_f0_c99_0_0 q2 q0 q5 q3 q1 q4) (own_f0_c99_0_1 q2 q1 q5 q4 q0 q3) (own_f0_c99_0_2 q2 q5 q1 q4 q0 q3) (own_f0_c99_0_3 q2 q0 q1 q5 q3 q4) (own_f0_c99_0_4 q2 q1 q5 q4 q0 q3) T217.heap n0 Zn217 P217_0x) hZ (hw _ (List.mem_of_getElem? (i := 16) rfl)) (hw _ (List.mem_of_getElem? (i := 2) rfl)) (by decide) (by decide)) (g := (mkF m 172 #[.val (.long q0), .second, .val (.long q1), .second, .val (.long q2), .second, .val (.long q3), .second, .val (.long q4), .second, .val (.long q5), .second, .val (.ref b158), .val (.ref b162), .val (.ref b172), .val (.ref b180), .val (.ref b190), .val (.ref b202), .val (.int (own_f0_78 q2)), .val (.ref b190), .val (.ref b180)] [(.ref b190)])) rfl (by rw [hml]; rfl) (argsL := [(.ref b190)]) (rest := []) (lenOf own_pd191 rfl) rfl (by show 2 * 0 + _ ≤ _; exact Nat.le_of_eq rfl) (hb hby at_172) (fun _ _ => ⟨rfl, rfl, (by decide : 6 + 0 ≤ _), (by decide : 30 + 0 ≤ _)⟩)
        dsimp only [Pt.U, Pt.locs, Pt.cells, Pt.slots] at X225 lq225 yq225 zq225 st225 hQ225
        subst lq225 yq225 zq225
        obtain ⟨rfl, N225q, e225⟩ := hQ225
        have N225 := Fr.app N217 N225q
        refine own_step st225 ?_
        show own_Run p e below T225 (mkF m 175 #[.val (.long q0), .second, .val (.long q1), .second, .val (.long q2), .second, .val (.long q3), .second, .val (.long q4), .second, .val (.long q5), .second, .val (.ref b158), .val (.ref b162), .val (.ref b172), .val (.ref b180), .val (.ref b190), .val (.ref b202), .val (.int (own_f0_78 q2)), .val (.ref b190), .val (.ref b180)] [(.int (own_r3 (own_f0_c99_0_0 q2 q0 q5 q3 q1 q4) (own_f0_c99_0_1 q2 q1 q5 q4 q0 q3) (own_f0_c99_0_2 q2 q5 q1 q4 q0 q3) (own_f0_c99_0_3 q2 q0 q1 q5 q3 q4) (own_f0_c99_0_4 q2 q1 q5 q4 q0 q3)))]) _
        by_cases hc226 : (own_r3 (own_f0_c99_0_0 q2 q0 q5 q3 q1 q4) (own_f0_c99_0_1 q2 q1 q5 q4 q0 q3) (own_f0_c99_0_2 q2 q5 q1 q4 q0 q3) (own_f0_c99_0_3 q2 q0 q1 q5 q3 q4) (own_f0_c99_0_4 q2 q1 q5 q4 q0 q3)) = (0 : Int32)
        · refine own_vi (if_pos hc226) ?_
          refine own_step (fun t k => XS.ifNo X225.here hx rfl (hb hby at_175) rfl ((if0 _ _).trans (teq hc226).2) k) ?_
          show own_Run p e below T225 (mkF m 178 #[.val (.long q0), .second, .val (.long q1), .second, .val (.long q2), .second, .val (.long q3), .second, .val (.long q4), .second, .val (.long q5), .second, .val (.ref b158), .val (.ref b162), .val (.ref b172), .val (.ref b180), .val (.ref b190), .val (.ref b202), .val (.int (own_f0_78 q2)), .val (.ref b190), .val (.ref b180)] []) _
          refine own_step (fun t k => XS.iconst X225.here hx rfl (hb hby at_178) k) ?_
          exact own_retZ X225 hx hlk hret (hb hby at_179) (by decide) (by decide) N225 trivial
        · refine own_vi (if_neg hc226) ?_
          refine own_step (fun t k => XS.ifYes X225.here hx rfl (pc0 := 175) (pc' := 180) rfl (hb hby at_175) rfl ((if0 _ _).trans (feq hc226).2) (by decide) (by decide) k) ?_
          show own_Run p e below T225 (mkF m 180 #[.val (.long q0), .second, .val (.long q1), .second, .val (.long q2), .second, .val (.long q3), .second, .val (.long q4), .second, .val (.long q5), .second, .val (.ref b158), .val (.ref b162), .val (.ref b172), .val (.ref b180), .val (.ref b190), .val (.ref b202), .val (.int (own_f0_78 q2)), .val (.ref b190), .val (.ref b180)] []) _
          refine own_step (fun t k => XS.aload X225.here hx rfl (hb hby at_180) rfl rfl k) ?_
          refine own_step (fun t k => XS.aload X225.here hx rfl (hb hby at_182) rfl rfl k) ?_
          show own_Run p e below T225 (mkF m 184 #[.val (.long q0), .second, .val (.long q1), .second, .val (.long q2), .second, .val (.long q3), .second, .val (.long q4), .second, .val (.long q5), .second, .val (.ref b158), .val (.ref b162), .val (.ref b172), .val (.ref b180), .val (.ref b190), .val (.ref b202), .val (.int (own_f0_78 q2)), .val (.ref b190), .val (.ref b180)] [(.ref b180), (.ref b190)]) _
          refine own_step (fun t k => XS.aload X225.here hx rfl (hb hby at_184) rfl rfl k) ?_
          obtain ⟨_, _, ⟨T227, L227, kq227, nq227⟩, -, X227, ⟨Lc227, hQ227, lq227, yq227, zq227⟩, st227⟩ := Jvm.LawKit.callS X225 hx (y := (⟨"com/example/rxrelay/rxrelay/protocol/gm/Sm2Field", "add", "([J[J[J)V"⟩ : MethodName)) hown (mvT hZ (hw _ (List.mem_of_getElem? (i := 28) rfl))) (mvT hZ (hw _ (List.mem_of_getElem? (i := 29) rfl))) (mvT hZ (hw _ (List.mem_of_getElem? (i := 23) rfl))) (mvT hZ (hw _ (List.mem_of_getElem? (i := 30) rfl))) (by decide) (backOf (W := 0) (rm6 l Z av0 hw [] b190 b180 b202 pl kp k190 k180 k202 (own_f0_c99_0_0 q2 q0 q5 q3 q1 q4) (own_f0_c99_0_1 q2 q1 q5 q4 q0 q3) (own_f0_c99_0_2 q2 q5 q1 q4 q0 q3) (own_f0_c99_0_3 q2 q0 q1 q5 q3 q4) (own_f0_c99_0_4 q2 q1 q5 q4 q0 q3) (own_f1_42v q5 q3) (own_f1_64v q5 q4) (own_f1_87v q5) (own_f1_118v q5 q3 q4) (own_f1_151v q5 q4) (0 : Int64) (0 : Int64) (0 : Int64) (0 : Int64) (0 : Int64) T217.heap n0 Zn217 geb202 ne203 ne208 ne207 P217_0x f223 f224 f218 f219) hZ (hw _ (List.mem_of_getElem? (i := 30) rfl)) (hw _ (List.mem_of_getElem? (i := 23) rfl)) (by decide) (by decide)) (g := (mkF m 186 #[.val (.long q0), .second, .val (.long q1), .second, .val (.long q2), .second, .val (.long q3), .second, .val (.long q4), .second, .val (.long q5), .second, .val (.ref b158), .val (.ref b162), .val (.ref b172), .val (.ref b180), .val (.ref b190), .val (.ref b202), .val (.int (own_f0_78 q2)), .val (.ref b190), .val (.ref b180)] [(.ref b202), (.ref b180), (.ref b190)])) rfl (by rw [hml]; rfl) (argsL := [(.ref b190), (.ref b180), (.ref b202)]) (rest := []) (lenOf own_pd619 rfl) rfl (by show 2 * 0 + _ ≤ _; exact Nat.le_of_eq rfl) (hb hby at_186) (fun _ _ => ⟨rfl, e225, (by decide : 6 + 0 ≤ _), (by decide : 30 + 0 ≤ _)⟩)
          dsimp only [Pt.U, Pt.locs, Pt.cells, Pt.slots] at X227 lq227 yq227 zq227 st227 hQ227
          subst lq227 yq227 zq227
          obtain ⟨rfl, N227q, K227, P227_0⟩ := hQ227
          have N227 := Fr.app N225 N227q
          have Zn227 : n0 ≤ T227.heap.size := Nat.le_trans Zn217 K227.1
          have P227_0x : Arv Z T227.heap b202 k202 .long (5 : Int32) [(.long (own_f0_c186_0_0 q2 q0 q5 q3 q1 q4)), (.long (own_f0_c186_0_1 q2 q1 q5 q4 q0 q3)), (.long (own_f0_c186_0_2 q2 q5 q1 q4 q0 q3)), (.long (own_f0_c186_0_3 q2 q0 q1 q5 q3 q4)), (.long (own_f0_c186_0_4 q2 q1 q5 q4 q0 q3))] (.long (0 : Int64)) := P227_0
          have f228 := own_keepS f218 K227 (allS (own_plV f224) all0)
          have f229 := f219.keep K227 (ninS ne203 nin0)
          have f230 := f220.keep K227 (ninS ne204 nin0)
          have f231 := f221.keep K227 (ninS ne205 nin0)
          have f232 := f222.keep K227 (ninS ne206 nin0)
          have f233 := f223.keep K227 (ninS ne207 nin0)
          have f234 := P217_0x.keep K227 (ninS ne208 nin0)
          refine own_step st227 ?_
          show own_Run p e below T227 (mkF m 189 #[.val (.long q0), .second, .val (.long q1), .second, .val (.long q2), .second, .val (.long q3), .second, .val (.long q4), .second, .val (.long q5), .second, .val (.ref b158), .val (.ref b162), .val (.ref b172), .val (.ref b180), .val (.ref b190), .val (.ref b202), .val (.int (own_f0_78 q2)), .val (.ref b190), .val (.ref b180)] []) _
          refine own_step (fun t k => XS.aload X227.here hx rfl (hb hby at_189) rfl rfl k) ?_
          refine own_step (fun t k => XS.iconst X227.here hx rfl (hb hby at_191) k) ?_
          refine own_step (own_ldJ X227 hx hZ rfl P227_0x (j := (0 : Int32)) (v := (.long (own_f0_c186_0_0 q2 q0 q5 q3 q1 q4))) ⟨by decide, by decide⟩ rfl (g := (mkF m 192 #[.val (.long q0), .second, .val (.long q1), .second, .val (.long q2), .second, .val (.long q3), .second, .val (.long q4), .second, .val (.long q5), .second, .val (.ref b158), .val (.ref b162), .val (.ref b172), .val (.ref b180), .val (.ref b190), .val (.ref b202), .val (.int (own_f0_78 q2)), .val (.ref b190), .val (.ref b180)] [(.int (0 : Int32)), (.ref b202)])) rfl rfl (hb hby at_192)) ?_
          show own_Run p e below T227 (mkF m 193 #[.val (.long q0), .second, .val (.long q1), .second, .val (.long q2), .second, .val (.long q3), .second, .val (.long q4), .second, .val (.long q5), .second, .val (.ref b158), .val (.ref b162), .val (.ref b172), .val (.ref b180), .val (.ref b190), .val (.ref b202), .val (.int (own_f0_78 q2)), .val (.ref b190), .val (.ref b180)] [(.long (own_f0_c186_0_0 q2 q0 q5 q3 q1 q4))]) _
          refine own_step (fun t k => XS.aload X227.here hx rfl (hb hby at_193) rfl rfl k) ?_
          refine own_step (fun t k => XS.iconst X227.here hx rfl (hb hby at_195) k) ?_
          refine own_step (own_ldJ X227 hx hZ rfl f232 (j := (0 : Int32)) (v := (.long (own_f1_42v q2 q0))) ⟨by decide, by decide⟩ rfl (g := (mkF m 196 #[.val (.long q0), .second, .val (.long q1), .second, .val (.long q2), .second, .val (.long q3), .second, .val (.long q4), .second, .val (.long q5), .second, .val (.ref b158), .val (.ref b162), .val (.ref b172), .val (.ref b180), .val (.ref b190), .val (.ref b202), .val (.int (own_f0_78 q2)), .val (.ref b190), .val (.ref b180)] [(.int (0 : Int32)), (.ref b172), (.long (own_f0_c186_0_0 q2 q0 q5 q3 q1 q4))])) rfl rfl (hb hby at_196)) ?_
          show own_Run p e below T227 (mkF m 197 #[.val (.long q0), .second, .val (.long q1), .second, .val (.long q2), .second, .val (.long q3), .second, .val (.long q4), .second, .val (.long q5), .second, .val (.ref b158), .val (.ref b162), .val (.ref b172), .val (.ref b180), .val (.ref b190), .val (.ref b202), .val (.int (own_f0_78 q2)), .val (.ref b190), .val (.ref b180)] [(.long (own_f1_42v q2 q0)), (.long (own_f0_c186_0_0 q2 q0 q5 q3 q1 q4))]) _
          refine own_step (fun t k => XS.lcmp X227.here hx rfl (hb hby at_197) rfl k) ?_
          show own_Run p e below T227 (mkF m 198 #[.val (.long q0), .second, .val (.long q1), .second, .val (.long q2), .second, .val (.long q3), .second, .val (.long q4), .second, .val (.long q5), .second, .val (.ref b158), .val (.ref b162), .val (.ref b172), .val (.ref b180), .val (.ref b190), .val (.ref b202), .val (.int (own_f0_78 q2)), .val (.ref b190), .val (.ref b180)] [(.int (lcmpW (own_f0_c186_0_0 q2 q0 q5 q3 q1 q4) (own_f1_42v q2 q0)))]) _
          obtain ⟨_, st235, rfl⟩ : own_Run p e below T227 (mkF m 198 #[.val (.long q0), .second, .val (.long q1), .second, .val (.long q2), .second, .val (.long q3), .second, .val (.long q4), .second, .val (.long q5), .second, .val (.ref b158), .val (.ref b162), .val (.ref b172), .val (.ref b180), .val (.ref b190), .val (.ref b202), .val (.int (own_f0_78 q2)), .val (.ref b190), .val (.ref b180)] [(.int (lcmpW (own_f0_c186_0_0 q2 q0 q5 q3 q1 q4) (own_f1_42v q2 q0)))]) (fun t => t = T227.setTop (mkF m 254 #[.val (.long q0), .second, .val (.long q1), .second, .val (.long q2), .second, .val (.long q3), .second, .val (.long q4), .second, .val (.long q5), .second, .val (.ref b158), .val (.ref b162), .val (.ref b172), .val (.ref b180), .val (.ref b190), .val (.ref b202), .val (.int (own_f0_78 q2)), .val (.ref b190), .val (.ref b180)] [(.int (own_f0_j254_S0 q2 q0 q5 q3 q1 q4))])) := by
            by_cases hc236 : (lcmpW (own_f0_c186_0_0 q2 q0 q5 q3 q1 q4) (own_f1_42v q2 q0)) = (0 : Int32)
            · refine own_step (fun t k => XS.ifNo X227.here hx rfl (hb hby at_198) rfl ((if0 _ _).trans (teq hc236).2) k) ?_
              show own_Run p e below T227 (mkF m 201 #[.val (.long q0), .second, .val (.long q1), .second, .val (.long q2), .second, .val (.long q3), .second, .val (.long q4), .second, .val (.long q5), .second, .val (.ref b158), .val (.ref b162), .val (.ref b172), .val (.ref b180), .val (.ref b190), .val (.ref b202), .val (.int (own_f0_78 q2)), .val (.ref b190), .val (.ref b180)] []) _
              refine own_step (fun t k => XS.aload X227.here hx rfl (hb hby at_201) rfl rfl k) ?_
              show own_Run p e below T227 (mkF m 203 #[.val (.long q0), .second, .val (.long q1), .second, .val (.long q2), .second, .val (.long q3), .second, .val (.long q4), .second, .val (.long q5), .second, .val (.ref b158), .val (.ref b162), .val (.ref b172), .val (.ref b180), .val (.ref b190), .val (.ref b202), .val (.int (own_f0_78 q2)), .val (.ref b190), .val (.ref b180)] [(.ref b202)]) _
              refine own_step (fun t k => XS.iconst X227.here hx rfl (hb hby at_203) k) ?_
              refine own_step (own_ldJ X227 hx hZ rfl P227_0x (j := (1 : Int32)) (v := (.long (own_f0_c186_0_1 q2 q1 q5 q4 q0 q3))) ⟨by decide, by decide⟩ rfl (g := (mkF m 204 #[.val (.long q0), .second, .val (.long q1), .second, .val (.long q2), .second, .val (.long q3), .second, .val (.long q4), .second, .val (.long q5), .second, .val (.ref b158), .val (.ref b162), .val (.ref b172), .val (.ref b180), .val (.ref b190), .val (.ref b202), .val (.int (own_f0_78 q2)), .val (.ref b190), .val (.ref b180)] [(.int (1 : Int32)), (.ref b202)])) rfl rfl (hb hby at_204)) ?_
              show own_Run p e below T227 (mkF m 205 #[.val (.long q0), .second, .val (.long q1), .second, .val (.long q2), .second, .val (.long q3), .second, .val (.long q4), .second, .val (.long q5), .second, .val (.ref b158), .val (.ref b162), .val (.ref b172), .val (.ref b180), .val (.ref b190), .val (.ref b202), .val (.int (own_f0_78 q2)), .val (.ref b190), .val (.ref b180)] [(.long (own_f0_c186_0_1 q2 q1 q5 q4 q0 q3))]) _
              refine own_step (fun t k => XS.aload X227.here hx rfl (hb hby at_205) rfl rfl k) ?_
              refine own_step (fun t k => XS.iconst X227.here hx rfl (hb hby at_207) k) ?_
              refine own_step (own_ldJ X227 hx hZ rfl f232 (j := (1 : Int32)) (v := (.long (own_f1_64v q2 q1))) ⟨by decide, by decide⟩ rfl (g := (mkF m 208 #[.val (.long q0), .second, .val (.long q1), .second, .val (.long q2), .second, .val (.long q3), .second, .val (.long q4), .second, .val (.long q5), .second, .val (.ref b158), .val (.ref b162), .val (.ref b172), .val (.ref b180), .val (.ref b190), .val (.ref b202), .val (.int (own_f0_78 q2)), .val (.ref b190), .val (.ref b180)] [(.int (1 : Int32)), (.ref b172), (.long (own_f0_c186_0_1 q2 q1 q5 q4 q0 q3))])) rfl rfl (hb hby at_208)) ?_
              show own_Run p e below T227 (mkF m 209 #[.val (.long q0), .second, .val (.long q1), .second, .val (.long q2), .second, .val (.long q3), .second, .val (.long q4), .second, .val (.long q5), .second, .val (.ref b158), .val (.ref b162), .val (.ref b172), .val (.ref b180), .val (.ref b190), .val (.ref b202), .val (.int (own_f0_78 q2)), .val (.ref b190), .val (.ref b180)] [(.long (own_f1_64v q2 q1)), (.long (own_f0_c186_0_1 q2 q1 q5 q4 q0 q3))]) _
              refine own_step (fun t k => XS.lcmp X227.here hx rfl (hb hby at_209) rfl k) ?_
              show own_Run p e below T227 (mkF m 210 #[.val (.long q0), .second, .val (.long q1), .second, .val (.long q2), .second, .val (.long q3), .second, .val (.long q4), .second, .val (.long q5), .second, .val (.ref b158), .val (.ref b162), .val (.ref b172), .val (.ref b180), .val (.ref b190), .val (.ref b202), .val (.int (own_f0_78 q2)), .val (.ref b190), .val (.ref b180)] [(.int (lcmpW (own_f0_c186_0_1 q2 q1 q5 q4 q0 q3) (own_f1_64v q2 q1)))]) _
              by_cases hc237 : (lcmpW (own_f0_c186_0_1 q2 q1 q5 q4 q0 q3) (own_f1_64v q2 q1)) = (0 : Int32)
              · refine own_step (fun t k => XS.ifNo X227.here hx rfl (hb hby at_210) rfl ((if0 _ _).trans (teq hc237).2) k) ?_
                show own_Run p e below T227 (mkF m 213 #[.val (.long q0), .second, .val (.long q1), .second, .val (.long q2), .second, .val (.long q3), .second, .val (.long q4), .second, .val (.long q5), .second, .val (.ref b158), .val (.ref b162), .val (.ref b172), .val (.ref b180), .val (.ref b190), .val (.ref b202), .val (.int (own_f0_78 q2)), .val (.ref b190), .val (.ref b180)] []) _
                refine own_step (fun t k => XS.aload X227.here hx rfl (hb hby at_213) rfl rfl k) ?_
                refine own_step (fun t k => XS.iconst X227.here hx rfl (hb hby at_215) k) ?_
                refine own_step (own_ldJ X227 hx hZ rfl P227_0x (j := (2 : Int32)) (v := (.long (own_f0_c186_0_2 q2 q5 q1 q4 q0 q3))) ⟨by decide, by decide⟩ rfl (g := (mkF m 216 #[.val (.long q0), .second, .val (.long q1), .second, .val (.long q2), .second, .val (.long q3), .second, .val (.long q4), .second, .val (.long q5), .second, .val (.ref b158), .val (.ref b162), .val (.ref b172), .val (.ref b180), .val (.ref b190), .val (.ref b202), .val (.int (own_f0_78 q2)), .val (.ref b190), .val (.ref b180)] [(.int (2 : Int32)), (.ref b202)])) rfl rfl (hb hby at_216)) ?_
                show own_Run p e below T227 (mkF m 217 #[.val (.long q0), .second, .val (.long q1), .second, .val (.long q2), .second, .val (.long q3), .second, .val (.long q4), .second, .val (.long q5), .second, .val (.ref b158), .val (.ref b162), .val (.ref b172), .val (.ref b180), .val (.ref b190), .val (.ref b202), .val (.int (own_f0_78 q2)), .val (.ref b190), .val (.ref b180)] [(.long (own_f0_c186_0_2 q2 q5 q1 q4 q0 q3))]) _
                refine own_step (fun t k => XS.aload X227.here hx rfl (hb hby at_217) rfl rfl k) ?_
                refine own_step (fun t k => XS.iconst X227.here hx rfl (hb hby at_219) k) ?_
                refine own_step (own_ldJ X227 hx hZ rfl f232 (j := (2 : Int32)) (v := (.long (own_f1_87v q2))) ⟨by decide, by decide⟩ rfl (g := (mkF m 220 #[.val (.long q0), .second, .val (.long q1), .second, .val (.long q2), .second, .val (.long q3), .second, .val (.long q4), .second, .val (.long q5), .second, .val (.ref b158), .val (.ref b162), .val (.ref b172), .val (.ref b180), .val (.ref b190), .val (.ref b202), .val (.int (own_f0_78 q2)), .val (.ref b190), .val (.ref b180)] [(.int (2 : Int32)), (.ref b172), (.long (own_f0_c186_0_2 q2 q5 q1 q4 q0 q3))])) rfl rfl (hb hby at_220)) ?_
                show own_Run p e below T227 (mkF m 221 #[.val (.long q0), .second, .val (.long q1), .second, .val (.long q2), .second, .val (.long q3), .second, .val (.long q4), .second, .val (.long q5), .second, .val (.ref b158), .val (.ref b162), .val (.ref b172), .val (.ref b180), .val (.ref b190), .val (.ref b202), .val (.int (own_f0_78 q2)), .val (.ref b190), .val (.ref b180)] [(.long (own_f1_87v q2)), (.long (own_f0_c186_0_2 q2 q5 q1 q4 q0 q3))]) _
                refine own_step (fun t k => XS.lcmp X227.here hx rfl (hb hby at_221) rfl k) ?_
                show own_Run p e below T227 (mkF m 222 #[.val (.long q0), .second, .val (.long q1), .second, .val (.long q2), .second, .val (.long q3), .second, .val (.long q4), .second, .val (.long q5), .second, .val (.ref b158), .val (.ref b162), .val (.ref b172), .val (.ref b180), .val (.ref b190), .val (.ref b202), .val (.int (own_f0_78 q2)), .val (.ref b190), .val (.ref b180)] [(.int (lcmpW (own_f0_c186_0_2 q2 q5 q1 q4 q0 q3) (own_f1_87v q2)))]) _
                by_cases hc238 : (lcmpW (own_f0_c186_0_2 q2 q5 q1 q4 q0 q3) (own_f1_87v q2)) = (0 : Int32)
                · refine own_step (fun t k => XS.ifNo X227.here hx rfl (hb hby at_222) rfl ((if0 _ _).trans (teq hc238).2) k) ?_
                  show own_Run p e below T227 (mkF m 225 #[.val (.long q0), .second, .val (.long q1), .second, .val (.long q2), .second, .val (.long q3), .second, .val (.long q4), .second, .val (.long q5), .second, .val (.ref b158), .val (.ref b162), .val (.ref b172), .val (.ref b180), .val (.ref b190), .val (.ref b202), .val (.int (own_f0_78 q2)), .val (.ref b190), .val (.ref b180)] []) _
                  refine own_step (fun t k => XS.aload X227.here hx rfl (hb hby at_225) rfl rfl k) ?_
                  refine own_step (fun t k => XS.iconst X227.here hx rfl (hb hby at_227) k) ?_
                  refine own_step (own_ldJ X227 hx hZ rfl P227_0x (j := (3 : Int32)) (v := (.long (own_f0_c186_0_3 q2 q0 q1 q5 q3 q4))) ⟨by decide, by decide⟩ rfl (g := (mkF m 228 #[.val (.long q0), .second, .val (.long q1), .second, .val (.long q2), .second, .val (.long q3), .second, .val (.long q4), .second, .val (.long q5), .second, .val (.ref b158), .val (.ref b162), .val (.ref b172), .val (.ref b180), .val (.ref b190), .val (.ref b202), .val (.int (own_f0_78 q2)), .val (.ref b190), .val (.ref b180)] [(.int (3 : Int32)), (.ref b202)])) rfl rfl (hb hby at_228)) ?_
                  show own_Run p e below T227 (mkF m 229 #[.val (.long q0), .second, .val (.long q1), .second, .val (.long q2), .second, .val (.long q3), .second, .val (.long q4), .second, .val (.long q5), .second, .val (.ref b158), .val (.ref b162), .val (.ref b172), .val (.ref b180), .val (.ref b190), .val (.ref b202), .val (.int (own_f0_78 q2)), .val (.ref b190), .val (.ref b180)] [(.long (own_f0_c186_0_3 q2 q0 q1 q5 q3 q4))]) _
                  refine own_step (fun t k => XS.aload X227.here hx rfl (hb hby at_229) rfl rfl k) ?_
                  refine own_step (fun t k => XS.iconst X227.here hx rfl (hb hby at_231) k) ?_
                  refine own_step (own_ldJ X227 hx hZ rfl f232 (j := (3 : Int32)) (v := (.long (own_f1_118v q2 q0 q1))) ⟨by decide, by decide⟩ rfl (g := (mkF m 232 #[.val (.long q0), .second, .val (.long q1), .second, .val (.long q2), .second, .val (.long q3), .second, .val (.long q4), .second, .val (.long q5), .second, .val (.ref b158), .val (.ref b162), .val (.ref b172), .val (.ref b180), .val (.ref b190), .val (.ref b202), .val (.int (own_f0_78 q2)), .val (.ref b190), .val (.ref b180)] [(.int (3 : Int32)), (.ref b172), (.long (own_f0_c186_0_3 q2 q0 q1 q5 q3 q4))])) rfl rfl (hb hby at_232)) ?_
                  show own_Run p e below T227 (mkF m 233 #[.val (.long q0), .second, .val (.long q1), .second, .val (.long q2), .second, .val (.long q3), .second, .val (.long q4), .second, .val (.long q5), .second, .val (.ref b158), .val (.ref b162), .val (.ref b172), .val (.ref b180), .val (.ref b190), .val (.ref b202), .val (.int (own_f0_78 q2)), .val (.ref b190), .val (.ref b180)] [(.long (own_f1_118v q2 q0 q1)), (.long (own_f0_c186_0_3 q2 q0 q1 q5 q3 q4))]) _
                  refine own_step (fun t k => XS.lcmp X227.here hx rfl (hb hby at_233) rfl k) ?_
                  show own_Run p e below T227 (mkF m 234 #[.val (.long q0), .second, .val (.long q1), .second, .val (.long q2), .second, .val (.long q3), .second, .val (.long q4), .second, .val (.long q5), .second, .val (.ref b158), .val (.ref b162), .val (.ref b172), .val (.ref b180), .val (.ref b190), .val (.ref b202), .val (.int (own_f0_78 q2)), .val (.ref b190), .val (.ref b180)] [(.int (lcmpW (own_f0_c186_0_3 q2 q0 q1 q5 q3 q4) (own_f1_118v q2 q0 q1)))]) _
                  by_cases hc239 : (lcmpW (own_f0_c186_0_3 q2 q0 q1 q5 q3 q4) (own_f1_118v q2 q0 q1)) = (0 : Int32)
                  · refine own_step (fun t k => XS.ifNo X227.here hx rfl (hb hby at_234) rfl ((if0 _ _).trans (teq hc239).2) k) ?_
                    show own_Run p e below T227 (mkF m 237 #[.val (.long q0), .second, .val (.long q1), .second, .val (.long q2), .second, .val (.long q3), .second, .val (.long q4), .second, .val (.long q5), .second, .val (.ref b158), .val (.ref b162), .val (.ref b172), .val (.ref b180), .val (.ref b190), .val (.ref b202), .val (.int (own_f0_78 q2)), .val (.ref b190), .val (.ref b180)] []) _
                    refine own_step (fun t k => XS.aload X227.here hx rfl (hb hby at_237) rfl rfl k) ?_
                    refine own_step (fun t k => XS.iconst X227.here hx rfl (hb hby at_239) k) ?_
                    refine own_step (own_ldJ X227 hx hZ rfl P227_0x (j := (4 : Int32)) (v := (.long (own_f0_c186_0_4 q2 q1 q5 q4 q0 q3))) ⟨by decide, by decide⟩ rfl (g := (mkF m 240 #[.val (.long q0), .second, .val (.long q1), .second, .val (.long q2), .second, .val (.long q3), .second, .val (.long q4), .second, .val (.long q5), .second, .val (.ref b158), .val (.ref b162), .val (.ref b172), .val (.ref b180), .val (.ref b190), .val (.ref b202), .val (.int (own_f0_78 q2)), .val (.ref b190), .val (.ref b180)] [(.int (4 : Int32)), (.ref b202)])) rfl rfl (hb hby at_240)) ?_
                    show own_Run p e below T227 (mkF m 241 #[.val (.long q0), .second, .val (.long q1), .second, .val (.long q2), .second, .val (.long q3), .second, .val (.long q4), .second, .val (.long q5), .second, .val (.ref b158), .val (.ref b162), .val (.ref b172), .val (.ref b180), .val (.ref b190), .val (.ref b202), .val (.int (own_f0_78 q2)), .val (.ref b190), .val (.ref b180)] [(.long (own_f0_c186_0_4 q2 q1 q5 q4 q0 q3))]) _
                    refine own_step (fun t k => XS.aload X227.here hx rfl (hb hby at_241) rfl rfl k) ?_
                    refine own_step (fun t k => XS.iconst X227.here hx rfl (hb hby at_243) k) ?_
                    refine own_step (own_ldJ X227 hx hZ rfl f232 (j := (4 : Int32)) (v := (.long (own_f1_151v q2 q1))) ⟨by decide, by decide⟩ rfl (g := (mkF m 244 #[.val (.long q0), .second, .val (.long q1), .second, .val (.long q2), .second, .val (.long q3), .second, .val (.long q4), .second, .val (.long q5), .second, .val (.ref b158), .val (.ref b162), .val (.ref b172), .val (.ref b180), .val (.ref b190), .val (.ref b202), .val (.int (own_f0_78 q2)), .val (.ref b190), .val (.ref b180)] [(.int (4 : Int32)), (.ref b172), (.long (own_f0_c186_0_4 q2 q1 q5 q4 q0 q3))])) rfl rfl (hb hby at_244)) ?_
                    show own_Run p e below T227 (mkF m 245 #[.val (.long q0), .second, .val (.long q1), .second, .val (.long q2), .second, .val (.long q3), .second, .val (.long q4), .second, .val (.long q5), .second, .val (.ref b158), .val (.ref b162), .val (.ref b172), .val (.ref b180), .val (.ref b190), .val (.ref b202), .val (.int (own_f0_78 q2)), .val (.ref b190), .val (.ref b180)] [(.long (own_f1_151v q2 q1)), (.long (own_f0_c186_0_4 q2 q1 q5 q4 q0 q3))]) _
                    refine own_step (fun t k => XS.lcmp X227.here hx rfl (hb hby at_245) rfl k) ?_
                    show own_Run p e below T227 (mkF m 246 #[.val (.long q0), .second, .val (.long q1), .second, .val (.long q2), .second, .val (.long q3), .second, .val (.long q4), .second, .val (.long q5), .second, .val (.ref b158), .val (.ref b162), .val (.ref b172), .val (.ref b180), .val (.ref b190), .val (.ref b202), .val (.int (own_f0_78 q2)), .val (.ref b190), .val (.ref b180)] [(.int (lcmpW (own_f0_c186_0_4 q2 q1 q5 q4 q0 q3) (own_f1_151v q2 q1)))]) _
                    by_cases hc240 : (lcmpW (own_f0_c186_0_4 q2 q1 q5 q4 q0 q3) (own_f1_151v q2 q1)) = (0 : Int32)
                    · refine own_step (fun t k => XS.ifNo X227.here hx rfl (hb hby at_246) rfl ((if0 _ _).trans (teq hc240).2) k) ?_
                      show own_Run p e below T227 (mkF m 249 #[.val (.long q0), .second, .val (.long q1), .second, .val (.long q2), .second, .val (.long q3), .second, .val (.long q4), .second, .val (.long q5), .second, .val (.ref b158), .val (.ref b162), .val (.ref b172), .val (.ref b180), .val (.ref b190), .val (.ref b202), .val (.int (own_f0_78 q2)), .val (.ref b190), .val (.ref b180)] []) _
                      refine own_step (fun t k => XS.iconst X227.here hx rfl (hb hby at_249) k) ?_
                      show own_Run p e below T227 (mkF m 250 #[.val (.long q0), .second, .val (.long q1), .second, .val (.long q2), .second, .val (.long q3), .second, .val (.long q4), .second, .val (.long q5), .second, .val (.ref b158), .val (.ref b162), .val (.ref b172), .val (.ref b180), .val (.ref b190), .val (.ref b202), .val (.int (own_f0_78 q2)), .val (.ref b190), .val (.ref b180)] [(.int (1 : Int32))]) _
                      refine own_step (fun t k => XS.goto X227.here hx rfl (pc0 := 250) (pc' := 254) rfl (hb hby at_250) (by decide) (by decide) k) ?_
                      show own_Run p e below T227 (mkF m 254 #[.val (.long q0), .second, .val (.long q1), .second, .val (.long q2), .second, .val (.long q3), .second, .val (.long q4), .second, .val (.long q5), .second, .val (.ref b158), .val (.ref b162), .val (.ref b172), .val (.ref b180), .val (.ref b190), .val (.ref b202), .val (.int (own_f0_78 q2)), .val (.ref b190), .val (.ref b180)] [(.int (1 : Int32))]) _
                      have hj0 : (own_f0_j254_S0 q2 q0 q5 q3 q1 q4) = (1 : Int32) := ((if_pos hc236).trans ((if_pos hc237).trans ((if_pos hc238).trans ((if_pos hc239).trans (if_pos hc240)))))
                      exact own_here (by rw [hj0] <;> rfl)
                    · refine own_step (fun t k => XS.ifYes X227.here hx rfl (pc0 := 246) (pc' := 253) rfl (hb hby at_246) rfl ((if0 _ _).trans (feq hc240).2) (by decide) (by decide) k) ?_
                      show own_Run p e below T227 (mkF m 253 #[.val (.long q0), .second, .val (.long q1), .second, .val (.long q2), .second, .val (.long q3), .second, .val (.long q4), .second, .val (.long q5), .second, .val (.ref b158), .val (.ref b162), .val (.ref b172), .val (.ref b180), .val (.ref b190), .val (.ref b202), .val (.int (own_f0_78 q2)), .val (.ref b190), .val (.ref b180)] []) _
                      refine own_step (fun t k => XS.iconst X227.here hx rfl (hb hby at_253) k) ?_
                      have hj0 : (own_f0_j254_S0 q2 q0 q5 q3 q1 q4) = (0 : Int32) := ((if_pos hc236).trans ((if_pos hc237).trans ((if_pos hc238).trans ((if_pos hc239).trans (if_neg hc240)))))
                      exact own_here (by rw [hj0] <;> rfl)
                  · refine own_step (fun t k => XS.ifYes X227.here hx rfl (pc0 := 234) (pc' := 253) rfl (hb hby at_234) rfl ((if0 _ _).trans (feq hc239).2) (by decide) (by decide) k) ?_
                    show own_Run p e below T227 (mkF m 253 #[.val (.long q0), .second, .val (.long q1), .second, .val (.long q2), .second, .val (.long q3), .second, .val (.long q4), .second, .val (.long q5), .second, .val (.ref b158), .val (.ref b162), .val (.ref b172), .val (.ref b180), .val (.ref b190), .val (.ref b202), .val (.int (own_f0_78 q2)), .val (.ref b190), .val (.ref b180)] []) _
                    refine own_step (fun t k => XS.iconst X227.here hx rfl (hb hby at_253) k) ?_
                    have hj0 : (own_f0_j254_S0 q2 q0 q5 q3 q1 q4) = (0 : Int32) := ((if_pos hc236).trans ((if_pos hc237).trans ((if_pos hc238).trans (if_neg hc239))))
                    exact own_here (by rw [hj0] <;> rfl)
                · refine own_step (fun t k => XS.ifYes X227.here hx rfl (pc0 := 222) (pc' := 253) rfl (hb hby at_222) rfl ((if0 _ _).trans (feq hc238).2) (by decide) (by decide) k) ?_
                  show own_Run p e below T227 (mkF m 253 #[.val (.long q0), .second, .val (.long q1), .second, .val (.long q2), .second, .val (.long q3), .second, .val (.long q4), .second, .val (.long q5), .second, .val (.ref b158), .val (.ref b162), .val (.ref b172), .val (.ref b180), .val (.ref b190), .val (.ref b202), .val (.int (own_f0_78 q2)), .val (.ref b190), .val (.ref b180)] []) _
                  refine own_step (fun t k => XS.iconst X227.here hx rfl (hb hby at_253) k) ?_
                  show own_Run p e below T227 (mkF m 254 #[.val (.long q0), .second, .val (.long q1), .second, .val (.long q2), .second, .val (.long q3), .second, .val (.long q4), .second, .val (.long q5), .second, .val (.ref b158), .val (.ref b162), .val (.ref b172), .val (.ref b180), .val (.ref b190), .val (.ref b202), .val (.int (own_f0_78 q2)), .val (.ref b190), .val (.ref b180)] [(.int (0 : Int32))]) _
                  have hj0 : (own_f0_j254_S0 q2 q0 q5 q3 q1 q4) = (0 : Int32) := ((if_pos hc236).trans ((if_pos hc237).trans (if_neg hc238)))
                  exact own_here (by rw [hj0] <;> rfl)
              · refine own_step (fun t k => XS.ifYes X227.here hx rfl (pc0 := 210) (pc' := 253) rfl (hb hby at_210) rfl ((if0 _ _).trans (feq hc237).2) (by decide) (by decide) k) ?_
                show own_Run p e below T227 (mkF m 253 #[.val (.long q0), .second, .val (.long q1), .second, .val (.long q2), .second, .val (.long q3), .second, .val (.long q4), .second, .val (.long q5), .second, .val (.ref b158), .val (.ref b162), .val (.ref b172), .val (.ref b180), .val (.ref b190), .val (.ref b202), .val (.int (own_f0_78 q2)), .val (.ref b190), .val (.ref b180)] []) _
                refine own_step (fun t k => XS.iconst X227.here hx rfl (hb hby at_253) k) ?_
                have hj0 : (own_f0_j254_S0 q2 q0 q5 q3 q1 q4) = (0 : Int32) := ((if_pos hc236).trans (if_neg hc237))
                exact own_here (by rw [hj0] <;> rfl)
            · refine own_step (fun t k => XS.ifYes X227.here hx rfl (pc0 := 198) (pc' := 253) rfl (hb hby at_198) rfl ((if0 _ _).trans (feq hc236).2) (by decide) (by decide) k) ?_
              show own_Run p e below T227 (mkF m 253 #[.val (.long q0), .second, .val (.long q1), .second, .val (.long q2), .second, .val (.long q3), .second, .val (.long q4), .second, .val (.long q5), .second, .val (.ref b158), .val (.ref b162), .val (.ref b172), .val (.ref b180), .val (.ref b190), .val (.ref b202), .val (.int (own_f0_78 q2)), .val (.ref b190), .val (.ref b180)] []) _
              refine own_step (fun t k => XS.iconst X227.here hx rfl (hb hby at_253) k) ?_
              have hj0 : (own_f0_j254_S0 q2 q0 q5 q3 q1 q4) = (0 : Int32) := (if_neg hc236)
              exact own_here (by rw [hj0] <;> rfl)
          refine own_tr st235 ?_
          show own_Run p e below T227 (mkF m 254 #[.val (.long q0), .second, .val (.long q1), .second, .val (.long q2), .second, .val (.long q3), .second, .val (.long q4), .second, .val (.long q5), .second, .val (.ref b158), .val (.ref b162), .val (.ref b172), .val (.ref b180), .val (.ref b190), .val (.ref b202), .val (.int (own_f0_78 q2)), .val (.ref b190), .val (.ref b180)] [(.int (own_f0_j254_S0 q2 q0 q5 q3 q1 q4))]) _
          exact own_retZ X227 hx hlk hret (hb hby at_254) (by decide) (by decide) N227 trivial
      · refine own_vi (if_neg hc216) ?_
        refine own_step (fun t k => XS.ifYes X202.here hx rfl (pc0 := 90) (pc' := 109) rfl (hb hby at_90) rfl ((if0 _ _).trans (feq hc216).2) (by decide) (by decide) k) ?_
        show own_Run p e below T202 (mkF m 109 #[.val (.long q0), .second, .val (.long q1), .second, .val (.long q2), .second, .val (.long q3), .second, .val (.long q4), .second, .val (.long q5), .second, .val (.ref b158), .val (.ref b162), .val (.ref b172), .val (.ref b180), .val (.ref b190), .val (.ref b202), .val (.int (own_f0_78 q2)), .val (.ref b190), .val (.ref b180)] []) _
        refine own_step (fun t k => XS.iload X202.here hx rfl (hb hby at_109) rfl  k) ?_
        show own_Run p e below T202 (mkF m 111 #[.val (.long q0), .second, .val (.long q1), .second, .val (.long q2), .second, .val (.long q3), .second, .val (.long q4), .second, .val (.long q5), .second, .val (.ref b158), .val (.ref b162), .val (.ref b172), .val (.ref b180), .val (.ref b190), .val (.ref b202), .val (.int (own_f0_78 q2)), .val (.ref b190), .val (.ref b180)] [(.int (own_f0_78 q2))]) _
        refine own_step (fun t k => XS.iconst X202.here hx rfl (hb hby at_111) k) ?_
        show own_Run p e below T202 (mkF m 112 #[.val (.long q0), .second, .val (.long q1), .second, .val (.long q2), .second, .val (.long q3), .second, .val (.long q4), .second, .val (.long q5), .second, .val (.ref b158), .val (.ref b162), .val (.ref b172), .val (.ref b180), .val (.ref b190), .val (.ref b202), .val (.int (own_f0_78 q2)), .val (.ref b190), .val (.ref b180)] [(.int (1 : Int32)), (.int (own_f0_78 q2))]) _
        by_cases hc241 : (own_f0_78 q2) = (1 : Int32)
        · refine own_vi (if_pos hc241) ?_
          refine own_step (fun t k => XS.icmpNo X202.here hx rfl (hb hby at_112) rfl (teq hc241).2 k) ?_
          show own_Run p e below T202 (mkF m 115 #[.val (.long q0), .second, .val (.long q1), .second, .val (.long q2), .second, .val (.long q3), .second, .val (.long q4), .second, .val (.long q5), .second, .val (.ref b158), .val (.ref b162), .val (.ref b172), .val (.ref b180), .val (.ref b190), .val (.ref b202), .val (.int (own_f0_78 q2)), .val (.ref b190), .val (.ref b180)] []) _
          refine own_step (fun t k => XS.aload X202.here hx rfl (hb hby at_115) rfl rfl k) ?_
          refine own_step (fun t k => XS.aload X202.here hx rfl (hb hby at_117) rfl rfl k) ?_
          refine own_step (fun t k => XS.aload X202.here hx rfl (hb hby at_119) rfl rfl k) ?_
          show own_Run p e below T202 (mkF m 121 #[.val (.long q0), .second, .val (.long q1), .second, .val (.long q2), .second, .val (.long q3), .second, .val (.long q4), .second, .val (.long q5), .second, .val (.ref b158), .val (.ref b162), .val (.ref b172), .val (.ref b180), .val (.ref b190), .val (.ref b202), .val (.int (own_f0_78 q2)), .val (.ref b190), .val (.ref b180)] [(.ref b158), (.ref b162), (.ref b158)]) _
          obtain ⟨_, _, ⟨T242, L242, kq242, nq242⟩, -, X242, ⟨Lc242, hQ242, lq242, yq242, zq242⟩, st242⟩ := Jvm.LawKit.callS X202 hx (y := (⟨"com/example/rxrelay/rxrelay/protocol/gm/Sm2Field", "subtract", "([J[J[J)V"⟩ : MethodName)) hown (mvT hZ (hw _ (List.mem_of_getElem? (i := 21) rfl))) (mvT hZ (hw _ (List.mem_of_getElem? (i := 22) rfl))) (mvT hZ (hw _ (List.mem_of_getElem? (i := 23) rfl))) (mvT hZ (hw _ (List.mem_of_getElem? (i := 24) rfl))) (by decide) (backOf (W := 0) (rm5a l Z av0 hw [] b158 b162 pl kp k158 k162 (own_f1_42v q2 q0) (own_f1_64v q2 q1) (own_f1_87v q2) (own_f1_118v q2 q0 q1) (own_f1_151v q2 q1) (own_f1_42v q5 q3) (own_f1_64v q5 q4) (own_f1_87v q5) (own_f1_118v q5 q3 q4) (own_f1_151v q5 q4) h202 n0 Zn202 geb158 ne159 (Ne.symm ne164) f211 f212 f209 f210) hZ (hw _ (List.mem_of_getElem? (i := 24) rfl)) (hw _ (List.mem_of_getElem? (i := 23) rfl)) (by decide) (by decide)) (g := (mkF m 121 #[.val (.long q0), .second, .val (.long q1), .second, .val (.long q2), .second, .val (.long q3), .second, .val (.long q4), .second, .val (.long q5), .second, .val (.ref b158), .val (.ref b162), .val (.ref b172), .val (.ref b180), .val (.ref b190), .val (.ref b202), .val (.int (own_f0_78 q2)), .val (.ref b190), .val (.ref b180)] [(.ref b158), (.ref b162), (.ref b158)])) rfl (by rw [hml]; rfl) (argsL := [(.ref b158), (.ref b162), (.ref b158)]) (rest := []) (lenOf own_pd619 rfl) rfl (by show 2 * 0 + _ ≤ _; exact Nat.le_of_eq rfl) (hb hby at_121) (fun _ _ => ⟨rfl, e202, (by decide : 6 + 0 ≤ _), (by decide : 30 + 0 ≤ _)⟩)
          dsimp only [Pt.U, Pt.locs, Pt.cells, Pt.slots] at X242 lq242 yq242 zq242 st242 hQ242
          subst lq242 yq242 zq242
          obtain ⟨rfl, N242q, K242, P242_0⟩ := hQ242
          have N242 := Fr.app N180 N242q
          have Zn242 : n0 ≤ T242.heap.size := Nat.le_trans Zn202 K242.1
          have P242_0x : Arv Z T242.heap b158 k158 .long (5 : Int32) [(.long (own_f0_c121_0_0 q2 q0 q5 q3 q1 q4)), (.long (own_f0_c121_0_1 q2 q1 q5 q4 q0 q3)), (.long (own_f0_c121_0_2 q2 q5 q1 q4 q0 q3)), (.long (own_f0_c121_0_3 q2 q0 q1 q5 q3 q4)), (.long (own_f0_c121_0_4 q2 q1 q5 q4 q0 q3))] (.long (0 : Int64)) := P242_0
          have f243 := own_keepS f209 K242 (allS (own_plV f211) all0)
          have f244 := f210.keep K242 (ninS ne159 nin0)
          have f245 := f212.keep K242 (ninS (Ne.symm ne164) nin0)
          have f246 := f213.keep K242 (ninS (Ne.symm ne174) nin0)
          have f247 := f214.keep K242 (ninS (Ne.symm ne182) nin0)
          have f248 := f215.keep K242 (ninS (Ne.symm ne192) nin0)
          have f249 := V202.keep K242 (ninS (Ne.symm ne204) nin0)
          refine own_step st242 ?_
          show own_Run p e below T242 (mkF m 124 #[.val (.long q0), .second, .val (.long q1), .second, .val (.long q2), .second, .val (.long q3), .second, .val (.long q4), .second, .val (.long q5), .second, .val (.ref b158), .val (.ref b162), .val (.ref b172), .val (.ref b180), .val (.ref b190), .val (.ref b202), .val (.int (own_f0_78 q2)), .val (.ref b190), .val (.ref b180)] []) _
          refine own_step (fun t k => XS.aload X242.here hx rfl (hb hby at_124) rfl rfl k) ?_
          refine own_step (fun t k => XS.astore X242.here hx rfl (hb hby at_126) rfl rfl (l' := #[.val (.long q0), .second, .val (.long q1), .second, .val (.long q2), .second, .val (.long q3), .second, .val (.long q4), .second, .val (.long q5), .second, .val (.ref b158), .val (.ref b162), .val (.ref b172), .val (.ref b180), .val (.ref b190), .val (.ref b202), .val (.int (own_f0_78 q2)), .val (.ref b158), .val (.ref b180)]) rfl k) ?_
          show own_Run p e below T242 (mkF m 128 #[.val (.long q0), .second, .val (.long q1), .second, .val (.long q2), .second, .val (.long q3), .second, .val (.long q4), .second, .val (.long q5), .second, .val (.ref b158), .val (.ref b162), .val (.ref b172), .val (.ref b180), .val (.ref b190), .val (.ref b202), .val (.int (own_f0_78 q2)), .val (.ref b158), .val (.ref b180)] []) _
          refine own_step (fun t k => XS.goto X242.here hx rfl (pc0 := 128) (pc' := 170) rfl (hb hby at_128) (by decide) (by decide) k) ?_
          show own_Run p e below T242 (mkF m 170 #[.val (.long q0), .second, .val (.long q1), .second, .val (.long q2), .second, .val (.long q3), .second, .val (.long q4), .second, .val (.long q5), .second, .val (.ref b158), .val (.ref b162), .val (.ref b172), .val (.ref b180), .val (.ref b190), .val (.ref b202), .val (.int (own_f0_78 q2)), .val (.ref b158), .val (.ref b180)] []) _
          refine own_step (fun t k => XS.aload X242.here hx rfl (hb hby at_170) rfl rfl k) ?_
          obtain ⟨_, _, ⟨T250, L250, kq250, nq250⟩, -, X250, ⟨Lc250, hQ250, lq250, yq250, zq250⟩, st250⟩ := Jvm.LawKit.callS X242 hx (y := (⟨"com/example/rxrelay/rxrelay/protocol/gm/Sm2FieldSubtractPinLaw", "canonical", "([J)Z"⟩ : MethodName)) hown (mvT hZ (hw _ (List.mem_of_getElem? (i := 14) rfl))) (mvT hZ (hw _ (List.mem_of_getElem? (i := 15) rfl))) (mvT hZ (hw _ (List.mem_of_getElem? (i := 2) rfl))) (mvT hZ (hw _ (List.mem_of_getElem? (i := 16) rfl))) (by decide) (backOf (W := 0) (rm3 l Z av0 hw [] b158 k158 (own_f0_c121_0_0 q2 q0 q5 q3 q1 q4) (own_f0_c121_0_1 q2 q1 q5 q4 q0 q3) (own_f0_c121_0_2 q2 q5 q1 q4 q0 q3) (own_f0_c121_0_3 q2 q0 q1 q5 q3 q4) (own_f0_c121_0_4 q2 q1 q5 q4 q0 q3) T242.heap n0 Zn242 P242_0x) hZ (hw _ (List.mem_of_getElem? (i := 16) rfl)) (hw _ (List.mem_of_getElem? (i := 2) rfl)) (by decide) (by decide)) (g := (mkF m 172 #[.val (.long q0), .second, .val (.long q1), .second, .val (.long q2), .second, .val (.long q3), .second, .val (.long q4), .second, .val (.long q5), .second, .val (.ref b158), .val (.ref b162), .val (.ref b172), .val (.ref b180), .val (.ref b190), .val (.ref b202), .val (.int (own_f0_78 q2)), .val (.ref b158), .val (.ref b180)] [(.ref b158)])) rfl (by rw [hml]; rfl) (argsL := [(.ref b158)]) (rest := []) (lenOf own_pd191 rfl) rfl (by show 2 * 0 + _ ≤ _; exact Nat.le_of_eq rfl) (hb hby at_172) (fun _ _ => ⟨rfl, rfl, (by decide : 6 + 0 ≤ _), (by decide : 30 + 0 ≤ _)⟩)
          dsimp only [Pt.U, Pt.locs, Pt.cells, Pt.slots] at X250 lq250 yq250 zq250 st250 hQ250
          subst lq250 yq250 zq250
          obtain ⟨rfl, N250q, e250⟩ := hQ250
          have N250 := Fr.app N242 N250q
          refine own_step st250 ?_
          show own_Run p e below T250 (mkF m 175 #[.val (.long q0), .second, .val (.long q1), .second, .val (.long q2), .second, .val (.long q3), .second, .val (.long q4), .second, .val (.long q5), .second, .val (.ref b158), .val (.ref b162), .val (.ref b172), .val (.ref b180), .val (.ref b190), .val (.ref b202), .val (.int (own_f0_78 q2)), .val (.ref b158), .val (.ref b180)] [(.int (own_r3 (own_f0_c121_0_0 q2 q0 q5 q3 q1 q4) (own_f0_c121_0_1 q2 q1 q5 q4 q0 q3) (own_f0_c121_0_2 q2 q5 q1 q4 q0 q3) (own_f0_c121_0_3 q2 q0 q1 q5 q3 q4) (own_f0_c121_0_4 q2 q1 q5 q4 q0 q3)))]) _
          by_cases hc251 : (own_r3 (own_f0_c121_0_0 q2 q0 q5 q3 q1 q4) (own_f0_c121_0_1 q2 q1 q5 q4 q0 q3) (own_f0_c121_0_2 q2 q5 q1 q4 q0 q3) (own_f0_c121_0_3 q2 q0 q1 q5 q3 q4) (own_f0_c121_0_4 q2 q1 q5 q4 q0 q3)) = (0 : Int32)
          · refine own_vi (if_pos hc251) ?_
            refine own_step (fun t k => XS.ifNo X250.here hx rfl (hb hby at_175) rfl ((if0 _ _).trans (teq hc251).2) k) ?_
            show own_Run p e below T250 (mkF m 178 #[.val (.long q0), .second, .val (.long q1), .second, .val (.long q2), .second, .val (.long q3), .second, .val (.long q4), .second, .val (.long q5), .second, .val (.ref b158), .val (.ref b162), .val (.ref b172), .val (.ref b180), .val (.ref b190), .val (.ref b202), .val (.int (own_f0_78 q2)), .val (.ref b158), .val (.ref b180)] []) _
            refine own_step (fun t k => XS.iconst X250.here hx rfl (hb hby at_178) k) ?_
            exact own_retZ X250 hx hlk hret (hb hby at_179) (by decide) (by decide) N250 trivial
          · refine own_vi (if_neg hc251) ?_
            refine own_step (fun t k => XS.ifYes X250.here hx rfl (pc0 := 175) (pc' := 180) rfl (hb hby at_175) rfl ((if0 _ _).trans (feq hc251).2) (by decide) (by decide) k) ?_
            show own_Run p e below T250 (mkF m 180 #[.val (.long q0), .second, .val (.long q1), .second, .val (.long q2), .second, .val (.long q3), .second, .val (.long q4), .second, .val (.long q5), .second, .val (.ref b158), .val (.ref b162), .val (.ref b172), .val (.ref b180), .val (.ref b190), .val (.ref b202), .val (.int (own_f0_78 q2)), .val (.ref b158), .val (.ref b180)] []) _
            refine own_step (fun t k => XS.aload X250.here hx rfl (hb hby at_180) rfl rfl k) ?_
            refine own_step (fun t k => XS.aload X250.here hx rfl (hb hby at_182) rfl rfl k) ?_
            show own_Run p e below T250 (mkF m 184 #[.val (.long q0), .second, .val (.long q1), .second, .val (.long q2), .second, .val (.long q3), .second, .val (.long q4), .second, .val (.long q5), .second, .val (.ref b158), .val (.ref b162), .val (.ref b172), .val (.ref b180), .val (.ref b190), .val (.ref b202), .val (.int (own_f0_78 q2)), .val (.ref b158), .val (.ref b180)] [(.ref b180), (.ref b158)]) _
            refine own_step (fun t k => XS.aload X250.here hx rfl (hb hby at_184) rfl rfl k) ?_
            obtain ⟨_, _, ⟨T252, L252, kq252, nq252⟩, -, X252, ⟨Lc252, hQ252, lq252, yq252, zq252⟩, st252⟩ := Jvm.LawKit.callS X250 hx (y := (⟨"com/example/rxrelay/rxrelay/protocol/gm/Sm2Field", "add", "([J[J[J)V"⟩ : MethodName)) hown (mvT hZ (hw _ (List.mem_of_getElem? (i := 28) rfl))) (mvT hZ (hw _ (List.mem_of_getElem? (i := 29) rfl))) (mvT hZ (hw _ (List.mem_of_getElem? (i := 23) rfl))) (mvT hZ (hw _ (List.mem_of_getElem? (i := 30) rfl))) (by decide) (backOf (W := 0) (rm6 l Z av0 hw [] b158 b180 b202 pl kp k158 k180 k202 (own_f0_c121_0_0 q2 q0 q5 q3 q1 q4) (own_f0_c121_0_1 q2 q1 q5 q4 q0 q3) (own_f0_c121_0_2 q2 q5 q1 q4 q0 q3) (own_f0_c121_0_3 q2 q0 q1 q5 q3 q4) (own_f0_c121_0_4 q2 q1 q5 q4 q0 q3) (own_f1_42v q5 q3) (own_f1_64v q5 q4) (own_f1_87v q5) (own_f1_118v q5 q3 q4) (own_f1_151v q5 q4) (0 : Int64) (0 : Int64) (0 : Int64) (0 : Int64) (0 : Int64) T242.heap n0 Zn242 geb202 ne203 ne204 ne207 P242_0x f247 f249 f243 f244) hZ (hw _ (List.mem_of_getElem? (i := 30) rfl)) (hw _ (List.mem_of_getElem? (i := 23) rfl)) (by decide) (by decide)) (g := (mkF m 186 #[.val (.long q0), .second, .val (.long q1), .second, .val (.long q2), .second, .val (.long q3), .second, .val (.long q4), .second, .val (.long q5), .second, .val (.ref b158), .val (.ref b162), .val (.ref b172), .val (.ref b180), .val (.ref b190), .val (.ref b202), .val (.int (own_f0_78 q2)), .val (.ref b158), .val (.ref b180)] [(.ref b202), (.ref b180), (.ref b158)])) rfl (by rw [hml]; rfl) (argsL := [(.ref b158), (.ref b180), (.ref b202)]) (rest := []) (lenOf own_pd619 rfl) rfl (by show 2 * 0 + _ ≤ _; exact Nat.le_of_eq rfl) (hb hby at_186) (fun _ _ => ⟨rfl, e250, (by decide : 6 + 0 ≤ _), (by decide : 30 + 0 ≤ _)⟩)
            dsimp only [Pt.U, Pt.locs, Pt.cells, Pt.slots] at X252 lq252 yq252 zq252 st252 hQ252
            subst lq252 yq252 zq252
            obtain ⟨rfl, N252q, K252, P252_0⟩ := hQ252
            have N252 := Fr.app N250 N252q
            have Zn252 : n0 ≤ T252.heap.size := Nat.le_trans Zn242 K252.1
            have P252_0x : Arv Z T252.heap b202 k202 .long (5 : Int32) [(.long (own_f0_c186_0_0' q2 q0 q5 q3 q1 q4)), (.long (own_f0_c186_0_1' q2 q1 q5 q4 q0 q3)), (.long (own_f0_c186_0_2' q2 q5 q1 q4 q0 q3)), (.long (own_f0_c186_0_3' q2 q0 q1 q5 q3 q4)), (.long (own_f0_c186_0_4' q2 q1 q5 q4 q0 q3))] (.long (0 : Int64)) := P252_0
            have f253 := own_keepS f243 K252 (allS (own_plV f249) all0)
            have f254 := f244.keep K252 (ninS ne203 nin0)
            have f255 := f245.keep K252 (ninS ne205 nin0)
            have f256 := f246.keep K252 (ninS ne206 nin0)
            have f257 := f247.keep K252 (ninS ne207 nin0)
            have f258 := f248.keep K252 (ninS ne208 nin0)
            have f259 := P242_0x.keep K252 (ninS ne204 nin0)
            refine own_step st252 ?_
            show own_Run p e below T252 (mkF m 189 #[.val (.long q0), .second, .val (.long q1), .second, .val (.long q2), .second, .val (.long q3), .second, .val (.long q4), .second, .val (.long q5), .second, .val (.ref b158), .val (.ref b162), .val (.ref b172), .val (.ref b180), .val (.ref b190), .val (.ref b202), .val (.int (own_f0_78 q2)), .val (.ref b158), .val (.ref b180)] []) _
            refine own_step (fun t k => XS.aload X252.here hx rfl (hb hby at_189) rfl rfl k) ?_
            refine own_step (fun t k => XS.iconst X252.here hx rfl (hb hby at_191) k) ?_
            refine own_step (own_ldJ X252 hx hZ rfl P252_0x (j := (0 : Int32)) (v := (.long (own_f0_c186_0_0' q2 q0 q5 q3 q1 q4))) ⟨by decide, by decide⟩ rfl (g := (mkF m 192 #[.val (.long q0), .second, .val (.long q1), .second, .val (.long q2), .second, .val (.long q3), .second, .val (.long q4), .second, .val (.long q5), .second, .val (.ref b158), .val (.ref b162), .val (.ref b172), .val (.ref b180), .val (.ref b190), .val (.ref b202), .val (.int (own_f0_78 q2)), .val (.ref b158), .val (.ref b180)] [(.int (0 : Int32)), (.ref b202)])) rfl rfl (hb hby at_192)) ?_
            show own_Run p e below T252 (mkF m 193 #[.val (.long q0), .second, .val (.long q1), .second, .val (.long q2), .second, .val (.long q3), .second, .val (.long q4), .second, .val (.long q5), .second, .val (.ref b158), .val (.ref b162), .val (.ref b172), .val (.ref b180), .val (.ref b190), .val (.ref b202), .val (.int (own_f0_78 q2)), .val (.ref b158), .val (.ref b180)] [(.long (own_f0_c186_0_0' q2 q0 q5 q3 q1 q4))]) _
            refine own_step (fun t k => XS.aload X252.here hx rfl (hb hby at_193) rfl rfl k) ?_
            refine own_step (fun t k => XS.iconst X252.here hx rfl (hb hby at_195) k) ?_
            refine own_step (own_ldJ X252 hx hZ rfl f256 (j := (0 : Int32)) (v := (.long (own_f1_42v q2 q0))) ⟨by decide, by decide⟩ rfl (g := (mkF m 196 #[.val (.long q0), .second, .val (.long q1), .second, .val (.long q2), .second, .val (.long q3), .second, .val (.long q4), .second, .val (.long q5), .second, .val (.ref b158), .val (.ref b162), .val (.ref b172), .val (.ref b180), .val (.ref b190), .val (.ref b202), .val (.int (own_f0_78 q2)), .val (.ref b158), .val (.ref b180)] [(.int (0 : Int32)), (.ref b172), (.long (own_f0_c186_0_0' q2 q0 q5 q3 q1 q4))])) rfl rfl (hb hby at_196)) ?_
            show own_Run p e below T252 (mkF m 197 #[.val (.long q0), .second, .val (.long q1), .second, .val (.long q2), .second, .val (.long q3), .second, .val (.long q4), .second, .val (.long q5), .second, .val (.ref b158), .val (.ref b162), .val (.ref b172), .val (.ref b180), .val (.ref b190), .val (.ref b202), .val (.int (own_f0_78 q2)), .val (.ref b158), .val (.ref b180)] [(.long (own_f1_42v q2 q0)), (.long (own_f0_c186_0_0' q2 q0 q5 q3 q1 q4))]) _
            refine own_step (fun t k => XS.lcmp X252.here hx rfl (hb hby at_197) rfl k) ?_
            show own_Run p e below T252 (mkF m 198 #[.val (.long q0), .second, .val (.long q1), .second, .val (.long q2), .second, .val (.long q3), .second, .val (.long q4), .second, .val (.long q5), .second, .val (.ref b158), .val (.ref b162), .val (.ref b172), .val (.ref b180), .val (.ref b190), .val (.ref b202), .val (.int (own_f0_78 q2)), .val (.ref b158), .val (.ref b180)] [(.int (lcmpW (own_f0_c186_0_0' q2 q0 q5 q3 q1 q4) (own_f1_42v q2 q0)))]) _
            obtain ⟨_, st260, rfl⟩ : own_Run p e below T252 (mkF m 198 #[.val (.long q0), .second, .val (.long q1), .second, .val (.long q2), .second, .val (.long q3), .second, .val (.long q4), .second, .val (.long q5), .second, .val (.ref b158), .val (.ref b162), .val (.ref b172), .val (.ref b180), .val (.ref b190), .val (.ref b202), .val (.int (own_f0_78 q2)), .val (.ref b158), .val (.ref b180)] [(.int (lcmpW (own_f0_c186_0_0' q2 q0 q5 q3 q1 q4) (own_f1_42v q2 q0)))]) (fun t => t = T252.setTop (mkF m 254 #[.val (.long q0), .second, .val (.long q1), .second, .val (.long q2), .second, .val (.long q3), .second, .val (.long q4), .second, .val (.long q5), .second, .val (.ref b158), .val (.ref b162), .val (.ref b172), .val (.ref b180), .val (.ref b190), .val (.ref b202), .val (.int (own_f0_78 q2)), .val (.ref b158), .val (.ref b180)] [(.int (own_f0_j254_S0' q2 q0 q5 q3 q1 q4))])) := by
              by_cases hc261 : (lcmpW (own_f0_c186_0_0' q2 q0 q5 q3 q1 q4) (own_f1_42v q2 q0)) = (0 : Int32)
              · refine own_step (fun t k => XS.ifNo X252.here hx rfl (hb hby at_198) rfl ((if0 _ _).trans (teq hc261).2) k) ?_
                show own_Run p e below T252 (mkF m 201 #[.val (.long q0), .second, .val (.long q1), .second, .val (.long q2), .second, .val (.long q3), .second, .val (.long q4), .second, .val (.long q5), .second, .val (.ref b158), .val (.ref b162), .val (.ref b172), .val (.ref b180), .val (.ref b190), .val (.ref b202), .val (.int (own_f0_78 q2)), .val (.ref b158), .val (.ref b180)] []) _
                refine own_step (fun t k => XS.aload X252.here hx rfl (hb hby at_201) rfl rfl k) ?_
                show own_Run p e below T252 (mkF m 203 #[.val (.long q0), .second, .val (.long q1), .second, .val (.long q2), .second, .val (.long q3), .second, .val (.long q4), .second, .val (.long q5), .second, .val (.ref b158), .val (.ref b162), .val (.ref b172), .val (.ref b180), .val (.ref b190), .val (.ref b202), .val (.int (own_f0_78 q2)), .val (.ref b158), .val (.ref b180)] [(.ref b202)]) _
                refine own_step (fun t k => XS.iconst X252.here hx rfl (hb hby at_203) k) ?_
                refine own_step (own_ldJ X252 hx hZ rfl P252_0x (j := (1 : Int32)) (v := (.long (own_f0_c186_0_1' q2 q1 q5 q4 q0 q3))) ⟨by decide, by decide⟩ rfl (g := (mkF m 204 #[.val (.long q0), .second, .val (.long q1), .second, .val (.long q2), .second, .val (.long q3), .second, .val (.long q4), .second, .val (.long q5), .second, .val (.ref b158), .val (.ref b162), .val (.ref b172), .val (.ref b180), .val (.ref b190), .val (.ref b202), .val (.int (own_f0_78 q2)), .val (.ref b158), .val (.ref b180)] [(.int (1 : Int32)), (.ref b202)])) rfl rfl (hb hby at_204)) ?_
                show own_Run p e below T252 (mkF m 205 #[.val (.long q0), .second, .val (.long q1), .second, .val (.long q2), .second, .val (.long q3), .second, .val (.long q4), .second, .val (.long q5), .second, .val (.ref b158), .val (.ref b162), .val (.ref b172), .val (.ref b180), .val (.ref b190), .val (.ref b202), .val (.int (own_f0_78 q2)), .val (.ref b158), .val (.ref b180)] [(.long (own_f0_c186_0_1' q2 q1 q5 q4 q0 q3))]) _
                refine own_step (fun t k => XS.aload X252.here hx rfl (hb hby at_205) rfl rfl k) ?_
                refine own_step (fun t k => XS.iconst X252.here hx rfl (hb hby at_207) k) ?_
                refine own_step (own_ldJ X252 hx hZ rfl f256 (j := (1 : Int32)) (v := (.long (own_f1_64v q2 q1))) ⟨by decide, by decide⟩ rfl (g := (mkF m 208 #[.val (.long q0), .second, .val (.long q1), .second, .val (.long q2), .second, .val (.long q3), .second, .val (.long q4), .second, .val (.long q5), .second, .val (.ref b158), .val (.ref b162), .val (.ref b172), .val (.ref b180), .val (.ref b190), .val (.ref b202), .val (.int (own_f0_78 q2)), .val (.ref b158), .val (.ref b180)] [(.int (1 : Int32)), (.ref b172), (.long (own_f0_c186_0_1' q2 q1 q5 q4 q0 q3))])) rfl rfl (hb hby at_208)) ?_
                show own_Run p e below T252 (mkF m 209 #[.val (.long q0), .second, .val (.long q1), .second, .val (.long q2), .second, .val (.long q3), .second, .val (.long q4), .second, .val (.long q5), .second, .val (.ref b158), .val (.ref b162), .val (.ref b172), .val (.ref b180), .val (.ref b190), .val (.ref b202), .val (.int (own_f0_78 q2)), .val (.ref b158), .val (.ref b180)] [(.long (own_f1_64v q2 q1)), (.long (own_f0_c186_0_1' q2 q1 q5 q4 q0 q3))]) _
                refine own_step (fun t k => XS.lcmp X252.here hx rfl (hb hby at_209) rfl k) ?_
                show own_Run p e below T252 (mkF m 210 #[.val (.long q0), .second, .val (.long q1), .second, .val (.long q2), .second, .val (.long q3), .second, .val (.long q4), .second, .val (.long q5), .second, .val (.ref b158), .val (.ref b162), .val (.ref b172), .val (.ref b180), .val (.ref b190), .val (.ref b202), .val (.int (own_f0_78 q2)), .val (.ref b158), .val (.ref b180)] [(.int (lcmpW (own_f0_c186_0_1' q2 q1 q5 q4 q0 q3) (own_f1_64v q2 q1)))]) _
                by_cases hc262 : (lcmpW (own_f0_c186_0_1' q2 q1 q5 q4 q0 q3) (own_f1_64v q2 q1)) = (0 : Int32)
                · refine own_step (fun t k => XS.ifNo X252.here hx rfl (hb hby at_210) rfl ((if0 _ _).trans (teq hc262).2) k) ?_
                  show own_Run p e below T252 (mkF m 213 #[.val (.long q0), .second, .val (.long q1), .second, .val (.long q2), .second, .val (.long q3), .second, .val (.long q4), .second, .val (.long q5), .second, .val (.ref b158), .val (.ref b162), .val (.ref b172), .val (.ref b180), .val (.ref b190), .val (.ref b202), .val (.int (own_f0_78 q2)), .val (.ref b158), .val (.ref b180)] []) _
                  refine own_step (fun t k => XS.aload X252.here hx rfl (hb hby at_213) rfl rfl k) ?_
                  refine own_step (fun t k => XS.iconst X252.here hx rfl (hb hby at_215) k) ?_
                  refine own_step (own_ldJ X252 hx hZ rfl P252_0x (j := (2 : Int32)) (v := (.long (own_f0_c186_0_2' q2 q5 q1 q4 q0 q3))) ⟨by decide, by decide⟩ rfl (g := (mkF m 216 #[.val (.long q0), .second, .val (.long q1), .second, .val (.long q2), .second, .val (.long q3), .second, .val (.long q4), .second, .val (.long q5), .second, .val (.ref b158), .val (.ref b162), .val (.ref b172), .val (.ref b180), .val (.ref b190), .val (.ref b202), .val (.int (own_f0_78 q2)), .val (.ref b158), .val (.ref b180)] [(.int (2 : Int32)), (.ref b202)])) rfl rfl (hb hby at_216)) ?_
                  show own_Run p e below T252 (mkF m 217 #[.val (.long q0), .second, .val (.long q1), .second, .val (.long q2), .second, .val (.long q3), .second, .val (.long q4), .second, .val (.long q5), .second, .val (.ref b158), .val (.ref b162), .val (.ref b172), .val (.ref b180), .val (.ref b190), .val (.ref b202), .val (.int (own_f0_78 q2)), .val (.ref b158), .val (.ref b180)] [(.long (own_f0_c186_0_2' q2 q5 q1 q4 q0 q3))]) _
                  refine own_step (fun t k => XS.aload X252.here hx rfl (hb hby at_217) rfl rfl k) ?_
                  refine own_step (fun t k => XS.iconst X252.here hx rfl (hb hby at_219) k) ?_
                  refine own_step (own_ldJ X252 hx hZ rfl f256 (j := (2 : Int32)) (v := (.long (own_f1_87v q2))) ⟨by decide, by decide⟩ rfl (g := (mkF m 220 #[.val (.long q0), .second, .val (.long q1), .second, .val (.long q2), .second, .val (.long q3), .second, .val (.long q4), .second, .val (.long q5), .second, .val (.ref b158), .val (.ref b162), .val (.ref b172), .val (.ref b180), .val (.ref b190), .val (.ref b202), .val (.int (own_f0_78 q2)), .val (.ref b158), .val (.ref b180)] [(.int (2 : Int32)), (.ref b172), (.long (own_f0_c186_0_2' q2 q5 q1 q4 q0 q3))])) rfl rfl (hb hby at_220)) ?_
                  show own_Run p e below T252 (mkF m 221 #[.val (.long q0), .second, .val (.long q1), .second, .val (.long q2), .second, .val (.long q3), .second, .val (.long q4), .second, .val (.long q5), .second, .val (.ref b158), .val (.ref b162), .val (.ref b172), .val (.ref b180), .val (.ref b190), .val (.ref b202), .val (.int (own_f0_78 q2)), .val (.ref b158), .val (.ref b180)] [(.long (own_f1_87v q2)), (.long (own_f0_c186_0_2' q2 q5 q1 q4 q0 q3))]) _
                  refine own_step (fun t k => XS.lcmp X252.here hx rfl (hb hby at_221) rfl k) ?_
                  show own_Run p e below T252 (mkF m 222 #[.val (.long q0), .second, .val (.long q1), .second, .val (.long q2), .second, .val (.long q3), .second, .val (.long q4), .second, .val (.long q5), .second, .val (.ref b158), .val (.ref b162), .val (.ref b172), .val (.ref b180), .val (.ref b190), .val (.ref b202), .val (.int (own_f0_78 q2)), .val (.ref b158), .val (.ref b180)] [(.int (lcmpW (own_f0_c186_0_2' q2 q5 q1 q4 q0 q3) (own_f1_87v q2)))]) _
                  by_cases hc263 : (lcmpW (own_f0_c186_0_2' q2 q5 q1 q4 q0 q3) (own_f1_87v q2)) = (0 : Int32)
                  · refine own_step (fun t k => XS.ifNo X252.here hx rfl (hb hby at_222) rfl ((if0 _ _).trans (teq hc263).2) k) ?_
                    show own_Run p e below T252 (mkF m 225 #[.val (.long q0), .second, .val (.long q1), .second, .val (.long q2), .second, .val (.long q3), .second, .val (.long q4), .second, .val (.long q5), .second, .val (.ref b158), .val (.ref b162), .val (.ref b172), .val (.ref b180), .val (.ref b190), .val (.ref b202), .val (.int (own_f0_78 q2)), .val (.ref b158), .val (.ref b180)] []) _
                    refine own_step (fun t k => XS.aload X252.here hx rfl (hb hby at_225) rfl rfl k) ?_
                    refine own_step (fun t k => XS.iconst X252.here hx rfl (hb hby at_227) k) ?_
                    refine own_step (own_ldJ X252 hx hZ rfl P252_0x (j := (3 : Int32)) (v := (.long (own_f0_c186_0_3' q2 q0 q1 q5 q3 q4))) ⟨by decide, by decide⟩ rfl (g := (mkF m 228 #[.val (.long q0), .second, .val (.long q1), .second, .val (.long q2), .second, .val (.long q3), .second, .val (.long q4), .second, .val (.long q5), .second, .val (.ref b158), .val (.ref b162), .val (.ref b172), .val (.ref b180), .val (.ref b190), .val (.ref b202), .val (.int (own_f0_78 q2)), .val (.ref b158), .val (.ref b180)] [(.int (3 : Int32)), (.ref b202)])) rfl rfl (hb hby at_228)) ?_
                    show own_Run p e below T252 (mkF m 229 #[.val (.long q0), .second, .val (.long q1), .second, .val (.long q2), .second, .val (.long q3), .second, .val (.long q4), .second, .val (.long q5), .second, .val (.ref b158), .val (.ref b162), .val (.ref b172), .val (.ref b180), .val (.ref b190), .val (.ref b202), .val (.int (own_f0_78 q2)), .val (.ref b158), .val (.ref b180)] [(.long (own_f0_c186_0_3' q2 q0 q1 q5 q3 q4))]) _
                    refine own_step (fun t k => XS.aload X252.here hx rfl (hb hby at_229) rfl rfl k) ?_
                    refine own_step (fun t k => XS.iconst X252.here hx rfl (hb hby at_231) k) ?_
                    refine own_step (own_ldJ X252 hx hZ rfl f256 (j := (3 : Int32)) (v := (.long (own_f1_118v q2 q0 q1))) ⟨by decide, by decide⟩ rfl (g := (mkF m 232 #[.val (.long q0), .second, .val (.long q1), .second, .val (.long q2), .second, .val (.long q3), .second, .val (.long q4), .second, .val (.long q5), .second, .val (.ref b158), .val (.ref b162), .val (.ref b172), .val (.ref b180), .val (.ref b190), .val (.ref b202), .val (.int (own_f0_78 q2)), .val (.ref b158), .val (.ref b180)] [(.int (3 : Int32)), (.ref b172), (.long (own_f0_c186_0_3' q2 q0 q1 q5 q3 q4))])) rfl rfl (hb hby at_232)) ?_
                    show own_Run p e below T252 (mkF m 233 #[.val (.long q0), .second, .val (.long q1), .second, .val (.long q2), .second, .val (.long q3), .second, .val (.long q4), .second, .val (.long q5), .second, .val (.ref b158), .val (.ref b162), .val (.ref b172), .val (.ref b180), .val (.ref b190), .val (.ref b202), .val (.int (own_f0_78 q2)), .val (.ref b158), .val (.ref b180)] [(.long (own_f1_118v q2 q0 q1)), (.long (own_f0_c186_0_3' q2 q0 q1 q5 q3 q4))]) _
                    refine own_step (fun t k => XS.lcmp X252.here hx rfl (hb hby at_233) rfl k) ?_
                    show own_Run p e below T252 (mkF m 234 #[.val (.long q0), .second, .val (.long q1), .second, .val (.long q2), .second, .val (.long q3), .second, .val (.long q4), .second, .val (.long q5), .second, .val (.ref b158), .val (.ref b162), .val (.ref b172), .val (.ref b180), .val (.ref b190), .val (.ref b202), .val (.int (own_f0_78 q2)), .val (.ref b158), .val (.ref b180)] [(.int (lcmpW (own_f0_c186_0_3' q2 q0 q1 q5 q3 q4) (own_f1_118v q2 q0 q1)))]) _
                    by_cases hc264 : (lcmpW (own_f0_c186_0_3' q2 q0 q1 q5 q3 q4) (own_f1_118v q2 q0 q1)) = (0 : Int32)
                    · refine own_step (fun t k => XS.ifNo X252.here hx rfl (hb hby at_234) rfl ((if0 _ _).trans (teq hc264).2) k) ?_
                      show own_Run p e below T252 (mkF m 237 #[.val (.long q0), .second, .val (.long q1), .second, .val (.long q2), .second, .val (.long q3), .second, .val (.long q4), .second, .val (.long q5), .second, .val (.ref b158), .val (.ref b162), .val (.ref b172), .val (.ref b180), .val (.ref b190), .val (.ref b202), .val (.int (own_f0_78 q2)), .val (.ref b158), .val (.ref b180)] []) _
                      refine own_step (fun t k => XS.aload X252.here hx rfl (hb hby at_237) rfl rfl k) ?_
                      refine own_step (fun t k => XS.iconst X252.here hx rfl (hb hby at_239) k) ?_
                      refine own_step (own_ldJ X252 hx hZ rfl P252_0x (j := (4 : Int32)) (v := (.long (own_f0_c186_0_4' q2 q1 q5 q4 q0 q3))) ⟨by decide, by decide⟩ rfl (g := (mkF m 240 #[.val (.long q0), .second, .val (.long q1), .second, .val (.long q2), .second, .val (.long q3), .second, .val (.long q4), .second, .val (.long q5), .second, .val (.ref b158), .val (.ref b162), .val (.ref b172), .val (.ref b180), .val (.ref b190), .val (.ref b202), .val (.int (own_f0_78 q2)), .val (.ref b158), .val (.ref b180)] [(.int (4 : Int32)), (.ref b202)])) rfl rfl (hb hby at_240)) ?_
                      show own_Run p e below T252 (mkF m 241 #[.val (.long q0), .second, .val (.long q1), .second, .val (.long q2), .second, .val (.long q3), .second, .val (.long q4), .second, .val (.long q5), .second, .val (.ref b158), .val (.ref b162), .val (.ref b172), .val (.ref b180), .val (.ref b190), .val (.ref b202), .val (.int (own_f0_78 q2)), .val (.ref b158), .val (.ref b180)] [(.long (own_f0_c186_0_4' q2 q1 q5 q4 q0 q3))]) _
                      refine own_step (fun t k => XS.aload X252.here hx rfl (hb hby at_241) rfl rfl k) ?_
                      refine own_step (fun t k => XS.iconst X252.here hx rfl (hb hby at_243) k) ?_
                      refine own_step (own_ldJ X252 hx hZ rfl f256 (j := (4 : Int32)) (v := (.long (own_f1_151v q2 q1))) ⟨by decide, by decide⟩ rfl (g := (mkF m 244 #[.val (.long q0), .second, .val (.long q1), .second, .val (.long q2), .second, .val (.long q3), .second, .val (.long q4), .second, .val (.long q5), .second, .val (.ref b158), .val (.ref b162), .val (.ref b172), .val (.ref b180), .val (.ref b190), .val (.ref b202), .val (.int (own_f0_78 q2)), .val (.ref b158), .val (.ref b180)] [(.int (4 : Int32)), (.ref b172), (.long (own_f0_c186_0_4' q2 q1 q5 q4 q0 q3))])) rfl rfl (hb hby at_244)) ?_
                      show own_Run p e below T252 (mkF m 245 #[.val (.long q0), .second, .val (.long q1), .second, .val (.long q2), .second, .val (.long q3), .second, .val (.long q4), .second, .val (.long q5), .second, .val (.ref b158), .val (.ref b162), .val (.ref b172), .val (.ref b180), .val (.ref b190), .val (.ref b202), .val (.int (own_f0_78 q2)), .val (.ref b158), .val (.ref b180)] [(.long (own_f1_151v q2 q1)), (.long (own_f0_c186_0_4' q2 q1 q5 q4 q0 q3))]) _
                      refine own_step (fun t k => XS.lcmp X252.here hx rfl (hb hby at_245) rfl k) ?_
                      show own_Run p e below T252 (mkF m 246 #[.val (.long q0), .second, .val (.long q1), .second, .val (.long q2), .second, .val (.long q3), .second, .val (.long q4), .second, .val (.long q5), .second, .val (.ref b158), .val (.ref b162), .val (.ref b172), .val (.ref b180), .val (.ref b190), .val (.ref b202), .val (.int (own_f0_78 q2)), .val (.ref b158), .val (.ref b180)] [(.int (lcmpW (own_f0_c186_0_4' q2 q1 q5 q4 q0 q3) (own_f1_151v q2 q1)))]) _
                      by_cases hc265 : (lcmpW (own_f0_c186_0_4' q2 q1 q5 q4 q0 q3) (own_f1_151v q2 q1)) = (0 : Int32)
                      · refine own_step (fun t k => XS.ifNo X252.here hx rfl (hb hby at_246) rfl ((if0 _ _).trans (teq hc265).2) k) ?_
                        show own_Run p e below T252 (mkF m 249 #[.val (.long q0), .second, .val (.long q1), .second, .val (.long q2), .second, .val (.long q3), .second, .val (.long q4), .second, .val (.long q5), .second, .val (.ref b158), .val (.ref b162), .val (.ref b172), .val (.ref b180), .val (.ref b190), .val (.ref b202), .val (.int (own_f0_78 q2)), .val (.ref b158), .val (.ref b180)] []) _
                        refine own_step (fun t k => XS.iconst X252.here hx rfl (hb hby at_249) k) ?_
                        show own_Run p e below T252 (mkF m 250 #[.val (.long q0), .second, .val (.long q1), .second, .val (.long q2), .second, .val (.long q3), .second, .val (.long q4), .second, .val (.long q5), .second, .val (.ref b158), .val (.ref b162), .val (.ref b172), .val (.ref b180), .val (.ref b190), .val (.ref b202), .val (.int (own_f0_78 q2)), .val (.ref b158), .val (.ref b180)] [(.int (1 : Int32))]) _
                        refine own_step (fun t k => XS.goto X252.here hx rfl (pc0 := 250) (pc' := 254) rfl (hb hby at_250) (by decide) (by decide) k) ?_
                        show own_Run p e below T252 (mkF m 254 #[.val (.long q0), .second, .val (.long q1), .second, .val (.long q2), .second, .val (.long q3), .second, .val (.long q4), .second, .val (.long q5), .second, .val (.ref b158), .val (.ref b162), .val (.ref b172), .val (.ref b180), .val (.ref b190), .val (.ref b202), .val (.int (own_f0_78 q2)), .val (.ref b158), .val (.ref b180)] [(.int (1 : Int32))]) _
                        have hj0 : (own_f0_j254_S0' q2 q0 q5 q3 q1 q4) = (1 : Int32) := ((if_pos hc261).trans ((if_pos hc262).trans ((if_pos hc263).trans ((if_pos hc264).trans (if_pos hc265)))))
                        exact own_here (by rw [hj0] <;> rfl)
                      · refine own_step (fun t k => XS.ifYes X252.here hx rfl (pc0 := 246) (pc' := 253) rfl (hb hby at_246) rfl ((if0 _ _).trans (feq hc265).2) (by decide) (by decide) k) ?_
                        show own_Run p e below T252 (mkF m 253 #[.val (.long q0), .second, .val (.long q1), .second, .val (.long q2), .second, .val (.long q3), .second, .val (.long q4), .second, .val (.long q5), .second, .val (.ref b158), .val (.ref b162), .val (.ref b172), .val (.ref b180), .val (.ref b190), .val (.ref b202), .val (.int (own_f0_78 q2)), .val (.ref b158), .val (.ref b180)] []) _
                        refine own_step (fun t k => XS.iconst X252.here hx rfl (hb hby at_253) k) ?_
                        have hj0 : (own_f0_j254_S0' q2 q0 q5 q3 q1 q4) = (0 : Int32) := ((if_pos hc261).trans ((if_pos hc262).trans ((if_pos hc263).trans ((if_pos hc264).trans (if_neg hc265)))))
                        exact own_here (by rw [hj0] <;> rfl)
                    · refine own_step (fun t k => XS.ifYes X252.here hx rfl (pc0 := 234) (pc' := 253) rfl (hb hby at_234) rfl ((if0 _ _).trans (feq hc264).2) (by decide) (by decide) k) ?_
                      show own_Run p e below T252 (mkF m 253 #[.val (.long q0), .second, .val (.long q1), .second, .val (.long q2), .second, .val (.long q3), .second, .val (.long q4), .second, .val (.long q5), .second, .val (.ref b158), .val (.ref b162), .val (.ref b172), .val (.ref b180), .val (.ref b190), .val (.ref b202), .val (.int (own_f0_78 q2)), .val (.ref b158), .val (.ref b180)] []) _
                      refine own_step (fun t k => XS.iconst X252.here hx rfl (hb hby at_253) k) ?_
                      have hj0 : (own_f0_j254_S0' q2 q0 q5 q3 q1 q4) = (0 : Int32) := ((if_pos hc261).trans ((if_pos hc262).trans ((if_pos hc263).trans (if_neg hc264))))
                      exact own_here (by rw [hj0] <;> rfl)
                  · refine own_step (fun t k => XS.ifYes X252.here hx rfl (pc0 := 222) (pc' := 253) rfl (hb hby at_222) rfl ((if0 _ _).trans (feq hc263).2) (by decide) (by decide) k) ?_
                    show own_Run p e below T252 (mkF m 253 #[.val (.long q0), .second, .val (.long q1), .second, .val (.long q2), .second, .val (.long q3), .second, .val (.long q4), .second, .val (.long q5), .second, .val (.ref b158), .val (.ref b162), .val (.ref b172), .val (.ref b180), .val (.ref b190), .val (.ref b202), .val (.int (own_f0_78 q2)), .val (.ref b158), .val (.ref b180)] []) _
                    refine own_step (fun t k => XS.iconst X252.here hx rfl (hb hby at_253) k) ?_
                    show own_Run p e below T252 (mkF m 254 #[.val (.long q0), .second, .val (.long q1), .second, .val (.long q2), .second, .val (.long q3), .second, .val (.long q4), .second, .val (.long q5), .second, .val (.ref b158), .val (.ref b162), .val (.ref b172), .val (.ref b180), .val (.ref b190), .val (.ref b202), .val (.int (own_f0_78 q2)), .val (.ref b158), .val (.ref b180)] [(.int (0 : Int32))]) _
                    have hj0 : (own_f0_j254_S0' q2 q0 q5 q3 q1 q4) = (0 : Int32) := ((if_pos hc261).trans ((if_pos hc262).trans (if_neg hc263)))
                    exact own_here (by rw [hj0] <;> rfl)
                · refine own_step (fun t k => XS.ifYes X252.here hx rfl (pc0 := 210) (pc' := 253) rfl (hb hby at_210) rfl ((if0 _ _).trans (feq hc262).2) (by decide) (by decide) k) ?_
                  show own_Run p e below T252 (mkF m 253 #[.val (.long q0), .second, .val (.long q1), .second, .val (.long q2), .second, .val (.long q3), .second, .val (.long q4), .second, .val (.long q5), .second, .val (.ref b158), .val (.ref b162), .val (.ref b172), .val (.ref b180), .val (.ref b190), .val (.ref b202), .val (.int (own_f0_78 q2)), .val (.ref b158), .val (.ref b180)] []) _
                  refine own_step (fun t k => XS.iconst X252.here hx rfl (hb hby at_253) k) ?_
                  have hj0 : (own_f0_j254_S0' q2 q0 q5 q3 q1 q4) = (0 : Int32) := ((if_pos hc261).trans (if_neg hc262))
                  exact own_here (by rw [hj0] <;> rfl)
              · refine own_step (fun t k => XS.ifYes X252.here hx rfl (pc0 := 198) (pc' := 253) rfl (hb hby at_198) rfl ((if0 _ _).trans (feq hc261).2) (by decide) (by decide) k) ?_
                show own_Run p e below T252 (mkF m 253 #[.val (.long q0), .second, .val (.long q1), .second, .val (.long q2), .second, .val (.long q3), .second, .val (.long q4), .second, .val (.long q5), .second, .val (.ref b158), .val (.ref b162), .val (.ref b172), .val (.ref b180), .val (.ref b190), .val (.ref b202), .val (.int (own_f0_78 q2)), .val (.ref b158), .val (.ref b180)] []) _
                refine own_step (fun t k => XS.iconst X252.here hx rfl (hb hby at_253) k) ?_
                have hj0 : (own_f0_j254_S0' q2 q0 q5 q3 q1 q4) = (0 : Int32) := (if_neg hc261)
                exact own_here (by rw [hj0] <;> rfl)
            refine own_tr st260 ?_
            show own_Run p e below T252 (mkF m 254 #[.val (.long q0), .second, .val (.long q1), .second, .val (.long q2), .second, .val (.long q3), .second, .val (.long q4), .second, .val (.long q5), .second, .val (.ref b158), .val (.ref b162), .val (.ref b172), .val (.ref b180), .val (.ref b190), .val (.ref b202), .val (.int (own_f0_78 q2)), .val (.ref b158), .val (.ref b180)] [(.int (own_f0_j254_S0' q2 q0 q5 q3 q1 q4))]) _
            exact own_retZ X252 hx hlk hret (hb hby at_254) (by decide) (by decide) N252 trivial
        · refine own_vi (if_neg hc241) ?_
          refine own_step (fun t k => XS.icmpYes X202.here hx rfl (pc0 := 112) (pc' := 131) rfl (hb hby at_112) rfl (feq hc241).2 (by decide) (by decide) k) ?_
          show own_Run p e below T202 (mkF m 131 #[.val (.long q0), .second, .val (.long q1), .second, .val (.long q2), .second, .val (.long q3), .second, .val (.long q4), .second, .val (.long q5), .second, .val (.ref b158), .val (.ref b162), .val (.ref b172), .val (.ref b180), .val (.ref b190), .val (.ref b202), .val (.int (own_f0_78 q2)), .val (.ref b190), .val (.ref b180)] []) _
          refine own_step (fun t k => XS.iload X202.here hx rfl (hb hby at_131) rfl  k) ?_
          show own_Run p e below T202 (mkF m 133 #[.val (.long q0), .second, .val (.long q1), .second, .val (.long q2), .second, .val (.long q3), .second, .val (.long q4), .second, .val (.long q5), .second, .val (.ref b158), .val (.ref b162), .val (.ref b172), .val (.ref b180), .val (.ref b190), .val (.ref b202), .val (.int (own_f0_78 q2)), .val (.ref b190), .val (.ref b180)] [(.int (own_f0_78 q2))]) _
          refine own_step (fun t k => XS.iconst X202.here hx rfl (hb hby at_133) k) ?_
          show own_Run p e below T202 (mkF m 134 #[.val (.long q0), .second, .val (.long q1), .second, .val (.long q2), .second, .val (.long q3), .second, .val (.long q4), .second, .val (.long q5), .second, .val (.ref b158), .val (.ref b162), .val (.ref b172), .val (.ref b180), .val (.ref b190), .val (.ref b202), .val (.int (own_f0_78 q2)), .val (.ref b190), .val (.ref b180)] [(.int (2 : Int32)), (.int (own_f0_78 q2))]) _
          by_cases hc266 : (own_f0_78 q2) = (2 : Int32)
          · refine own_vi (if_pos hc266) ?_
            refine own_step (fun t k => XS.icmpNo X202.here hx rfl (hb hby at_134) rfl (teq hc266).2 k) ?_
            show own_Run p e below T202 (mkF m 137 #[.val (.long q0), .second, .val (.long q1), .second, .val (.long q2), .second, .val (.long q3), .second, .val (.long q4), .second, .val (.long q5), .second, .val (.ref b158), .val (.ref b162), .val (.ref b172), .val (.ref b180), .val (.ref b190), .val (.ref b202), .val (.int (own_f0_78 q2)), .val (.ref b190), .val (.ref b180)] []) _
            refine own_step (fun t k => XS.aload X202.here hx rfl (hb hby at_137) rfl rfl k) ?_
            refine own_step (fun t k => XS.aload X202.here hx rfl (hb hby at_139) rfl rfl k) ?_
            refine own_step (fun t k => XS.aload X202.here hx rfl (hb hby at_141) rfl rfl k) ?_
            show own_Run p e below T202 (mkF m 143 #[.val (.long q0), .second, .val (.long q1), .second, .val (.long q2), .second, .val (.long q3), .second, .val (.long q4), .second, .val (.long q5), .second, .val (.ref b158), .val (.ref b162), .val (.ref b172), .val (.ref b180), .val (.ref b190), .val (.ref b202), .val (.int (own_f0_78 q2)), .val (.ref b190), .val (.ref b180)] [(.ref b162), (.ref b162), (.ref b158)]) _
            obtain ⟨_, _, ⟨T267, L267, kq267, nq267⟩, -, X267, ⟨Lc267, hQ267, lq267, yq267, zq267⟩, st267⟩ := Jvm.LawKit.callS X202 hx (y := (⟨"com/example/rxrelay/rxrelay/protocol/gm/Sm2Field", "subtract", "([J[J[J)V"⟩ : MethodName)) hown (mvT hZ (hw _ (List.mem_of_getElem? (i := 21) rfl))) (mvT hZ (hw _ (List.mem_of_getElem? (i := 22) rfl))) (mvT hZ (hw _ (List.mem_of_getElem? (i := 23) rfl))) (mvT hZ (hw _ (List.mem_of_getElem? (i := 24) rfl))) (by decide) (backOf (W := 0) (rm5b l Z av0 hw [] b158 b162 pl kp k158 k162 (own_f1_42v q2 q0) (own_f1_64v q2 q1) (own_f1_87v q2) (own_f1_118v q2 q0 q1) (own_f1_151v q2 q1) (own_f1_42v q5 q3) (own_f1_64v q5 q4) (own_f1_87v q5) (own_f1_118v q5 q3 q4) (own_f1_151v q5 q4) h202 n0 Zn202 geb162 ne163 ne164 f211 f212 f209 f210) hZ (hw _ (List.mem_of_getElem? (i := 24) rfl)) (hw _ (List.mem_of_getElem? (i := 23) rfl)) (by decide) (by decide)) (g := (mkF m 143 #[.val (.long q0), .second, .val (.long q1), .second, .val (.long q2), .second, .val (.long q3), .second, .val (.long q4), .second, .val (.long q5), .second, .val (.ref b158), .val (.ref b162), .val (.ref b172), .val (.ref b180), .val (.ref b190), .val (.ref b202), .val (.int (own_f0_78 q2)), .val (.ref b190), .val (.ref b180)] [(.ref b162), (.ref b162), (.ref b158)])) rfl (by rw [hml]; rfl) (argsL := [(.ref b158), (.ref b162), (.ref b162)]) (rest := []) (lenOf own_pd619 rfl) rfl (by show 2 * 0 + _ ≤ _; exact Nat.le_of_eq rfl) (hb hby at_143) (fun _ _ => ⟨rfl, e202, (by decide : 6 + 0 ≤ _), (by decide : 30 + 0 ≤ _)⟩)
            dsimp only [Pt.U, Pt.locs, Pt.cells, Pt.slots] at X267 lq267 yq267 zq267 st267 hQ267
            subst lq267 yq267 zq267
            obtain ⟨rfl, N267q, K267, P267_0⟩ := hQ267
            have N267 := Fr.app N180 N267q
            have Zn267 : n0 ≤ T267.heap.size := Nat.le_trans Zn202 K267.1
            have P267_0x : Arv Z T267.heap b162 k162 .long (5 : Int32) [(.long (own_f0_c143_0_0 q2 q0 q5 q3 q1 q4)), (.long (own_f0_c143_0_1 q2 q1 q5 q4 q0 q3)), (.long (own_f0_c143_0_2 q2 q5 q1 q4 q0 q3)), (.long (own_f0_c143_0_3 q2 q0 q1 q5 q3 q4)), (.long (own_f0_c143_0_4 q2 q1 q5 q4 q0 q3))] (.long (0 : Int64)) := P267_0
            have f268 := own_keepS f209 K267 (allS (own_plV f212) all0)
            have f269 := f210.keep K267 (ninS ne163 nin0)
            have f270 := f211.keep K267 (ninS ne164 nin0)
            have f271 := f213.keep K267 (ninS (Ne.symm ne175) nin0)
            have f272 := f214.keep K267 (ninS (Ne.symm ne183) nin0)
            have f273 := f215.keep K267 (ninS (Ne.symm ne193) nin0)
            have f274 := V202.keep K267 (ninS (Ne.symm ne205) nin0)
            refine own_step st267 ?_
            show own_Run p e below T267 (mkF m 146 #[.val (.long q0), .second, .val (.long q1), .second, .val (.long q2), .second, .val (.long q3), .second, .val (.long q4), .second, .val (.long q5), .second, .val (.ref b158), .val (.ref b162), .val (.ref b172), .val (.ref b180), .val (.ref b190), .val (.ref b202), .val (.int (own_f0_78 q2)), .val (.ref b190), .val (.ref b180)] []) _
            refine own_step (fun t k => XS.aload X267.here hx rfl (hb hby at_146) rfl rfl k) ?_
            refine own_step (fun t k => XS.astore X267.here hx rfl (hb hby at_148) rfl rfl (l' := #[.val (.long q0), .second, .val (.long q1), .second, .val (.long q2), .second, .val (.long q3), .second, .val (.long q4), .second, .val (.long q5), .second, .val (.ref b158), .val (.ref b162), .val (.ref b172), .val (.ref b180), .val (.ref b190), .val (.ref b202), .val (.int (own_f0_78 q2)), .val (.ref b162), .val (.ref b180)]) rfl k) ?_
            show own_Run p e below T267 (mkF m 150 #[.val (.long q0), .second, .val (.long q1), .second, .val (.long q2), .second, .val (.long q3), .second, .val (.long q4), .second, .val (.long q5), .second, .val (.ref b158), .val (.ref b162), .val (.ref b172), .val (.ref b180), .val (.ref b190), .val (.ref b202), .val (.int (own_f0_78 q2)), .val (.ref b162), .val (.ref b180)] []) _
            refine own_step (fun t k => XS.goto X267.here hx rfl (pc0 := 150) (pc' := 170) rfl (hb hby at_150) (by decide) (by decide) k) ?_
            show own_Run p e below T267 (mkF m 170 #[.val (.long q0), .second, .val (.long q1), .second, .val (.long q2), .second, .val (.long q3), .second, .val (.long q4), .second, .val (.long q5), .second, .val (.ref b158), .val (.ref b162), .val (.ref b172), .val (.ref b180), .val (.ref b190), .val (.ref b202), .val (.int (own_f0_78 q2)), .val (.ref b162), .val (.ref b180)] []) _
            refine own_step (fun t k => XS.aload X267.here hx rfl (hb hby at_170) rfl rfl k) ?_
            obtain ⟨_, _, ⟨T275, L275, kq275, nq275⟩, -, X275, ⟨Lc275, hQ275, lq275, yq275, zq275⟩, st275⟩ := Jvm.LawKit.callS X267 hx (y := (⟨"com/example/rxrelay/rxrelay/protocol/gm/Sm2FieldSubtractPinLaw", "canonical", "([J)Z"⟩ : MethodName)) hown (mvT hZ (hw _ (List.mem_of_getElem? (i := 14) rfl))) (mvT hZ (hw _ (List.mem_of_getElem? (i := 15) rfl))) (mvT hZ (hw _ (List.mem_of_getElem? (i := 2) rfl))) (mvT hZ (hw _ (List.mem_of_getElem? (i := 16) rfl))) (by decide) (backOf (W := 0) (rm3 l Z av0 hw [] b162 k162 (own_f0_c143_0_0 q2 q0 q5 q3 q1 q4) (own_f0_c143_0_1 q2 q1 q5 q4 q0 q3) (own_f0_c143_0_2 q2 q5 q1 q4 q0 q3) (own_f0_c143_0_3 q2 q0 q1 q5 q3 q4) (own_f0_c143_0_4 q2 q1 q5 q4 q0 q3) T267.heap n0 Zn267 P267_0x) hZ (hw _ (List.mem_of_getElem? (i := 16) rfl)) (hw _ (List.mem_of_getElem? (i := 2) rfl)) (by decide) (by decide)) (g := (mkF m 172 #[.val (.long q0), .second, .val (.long q1), .second, .val (.long q2), .second, .val (.long q3), .second, .val (.long q4), .second, .val (.long q5), .second, .val (.ref b158), .val (.ref b162), .val (.ref b172), .val (.ref b180), .val (.ref b190), .val (.ref b202), .val (.int (own_f0_78 q2)), .val (.ref b162), .val (.ref b180)] [(.ref b162)])) rfl (by rw [hml]; rfl) (argsL := [(.ref b162)]) (rest := []) (lenOf own_pd191 rfl) rfl (by show 2 * 0 + _ ≤ _; exact Nat.le_of_eq rfl) (hb hby at_172) (fun _ _ => ⟨rfl, rfl, (by decide : 6 + 0 ≤ _), (by decide : 30 + 0 ≤ _)⟩)
            dsimp only [Pt.U, Pt.locs, Pt.cells, Pt.slots] at X275 lq275 yq275 zq275 st275 hQ275
            subst lq275 yq275 zq275
            obtain ⟨rfl, N275q, e275⟩ := hQ275
            have N275 := Fr.app N267 N275q
            refine own_step st275 ?_
            show own_Run p e below T275 (mkF m 175 #[.val (.long q0), .second, .val (.long q1), .second, .val (.long q2), .second, .val (.long q3), .second, .val (.long q4), .second, .val (.long q5), .second, .val (.ref b158), .val (.ref b162), .val (.ref b172), .val (.ref b180), .val (.ref b190), .val (.ref b202), .val (.int (own_f0_78 q2)), .val (.ref b162), .val (.ref b180)] [(.int (own_r3 (own_f0_c143_0_0 q2 q0 q5 q3 q1 q4) (own_f0_c143_0_1 q2 q1 q5 q4 q0 q3) (own_f0_c143_0_2 q2 q5 q1 q4 q0 q3) (own_f0_c143_0_3 q2 q0 q1 q5 q3 q4) (own_f0_c143_0_4 q2 q1 q5 q4 q0 q3)))]) _
            by_cases hc276 : (own_r3 (own_f0_c143_0_0 q2 q0 q5 q3 q1 q4) (own_f0_c143_0_1 q2 q1 q5 q4 q0 q3) (own_f0_c143_0_2 q2 q5 q1 q4 q0 q3) (own_f0_c143_0_3 q2 q0 q1 q5 q3 q4) (own_f0_c143_0_4 q2 q1 q5 q4 q0 q3)) = (0 : Int32)
            · refine own_vi (if_pos hc276) ?_
              refine own_step (fun t k => XS.ifNo X275.here hx rfl (hb hby at_175) rfl ((if0 _ _).trans (teq hc276).2) k) ?_
              show own_Run p e below T275 (mkF m 178 #[.val (.long q0), .second, .val (.long q1), .second, .val (.long q2), .second, .val (.long q3), .second, .val (.long q4), .second, .val (.long q5), .second, .val (.ref b158), .val (.ref b162), .val (.ref b172), .val (.ref b180), .val (.ref b190), .val (.ref b202), .val (.int (own_f0_78 q2)), .val (.ref b162), .val (.ref b180)] []) _
              refine own_step (fun t k => XS.iconst X275.here hx rfl (hb hby at_178) k) ?_
              exact own_retZ X275 hx hlk hret (hb hby at_179) (by decide) (by decide) N275 trivial
            · refine own_vi (if_neg hc276) ?_
              refine own_step (fun t k => XS.ifYes X275.here hx rfl (pc0 := 175) (pc' := 180) rfl (hb hby at_175) rfl ((if0 _ _).trans (feq hc276).2) (by decide) (by decide) k) ?_
              show own_Run p e below T275 (mkF m 180 #[.val (.long q0), .second, .val (.long q1), .second, .val (.long q2), .second, .val (.long q3), .second, .val (.long q4), .second, .val (.long q5), .second, .val (.ref b158), .val (.ref b162), .val (.ref b172), .val (.ref b180), .val (.ref b190), .val (.ref b202), .val (.int (own_f0_78 q2)), .val (.ref b162), .val (.ref b180)] []) _
              refine own_step (fun t k => XS.aload X275.here hx rfl (hb hby at_180) rfl rfl k) ?_
              refine own_step (fun t k => XS.aload X275.here hx rfl (hb hby at_182) rfl rfl k) ?_
              show own_Run p e below T275 (mkF m 184 #[.val (.long q0), .second, .val (.long q1), .second, .val (.long q2), .second, .val (.long q3), .second, .val (.long q4), .second, .val (.long q5), .second, .val (.ref b158), .val (.ref b162), .val (.ref b172), .val (.ref b180), .val (.ref b190), .val (.ref b202), .val (.int (own_f0_78 q2)), .val (.ref b162), .val (.ref b180)] [(.ref b180), (.ref b162)]) _
              refine own_step (fun t k => XS.aload X275.here hx rfl (hb hby at_184) rfl rfl k) ?_
              obtain ⟨_, _, ⟨T277, L277, kq277, nq277⟩, -, X277, ⟨Lc277, hQ277, lq277, yq277, zq277⟩, st277⟩ := Jvm.LawKit.callS X275 hx (y := (⟨"com/example/rxrelay/rxrelay/protocol/gm/Sm2Field", "add", "([J[J[J)V"⟩ : MethodName)) hown (mvT hZ (hw _ (List.mem_of_getElem? (i := 28) rfl))) (mvT hZ (hw _ (List.mem_of_getElem? (i := 29) rfl))) (mvT hZ (hw _ (List.mem_of_getElem? (i := 23) rfl))) (mvT hZ (hw _ (List.mem_of_getElem? (i := 30) rfl))) (by decide) (backOf (W := 0) (rm6 l Z av0 hw [] b162 b180 b202 pl kp k162 k180 k202 (own_f0_c143_0_0 q2 q0 q5 q3 q1 q4) (own_f0_c143_0_1 q2 q1 q5 q4 q0 q3) (own_f0_c143_0_2 q2 q5 q1 q4 q0 q3) (own_f0_c143_0_3 q2 q0 q1 q5 q3 q4) (own_f0_c143_0_4 q2 q1 q5 q4 q0 q3) (own_f1_42v q5 q3) (own_f1_64v q5 q4) (own_f1_87v q5) (own_f1_118v q5 q3 q4) (own_f1_151v q5 q4) (0 : Int64) (0 : Int64) (0 : Int64) (0 : Int64) (0 : Int64) T267.heap n0 Zn267 geb202 ne203 ne205 ne207 P267_0x f272 f274 f268 f269) hZ (hw _ (List.mem_of_getElem? (i := 30) rfl)) (hw _ (List.mem_of_getElem? (i := 23) rfl)) (by decide) (by decide)) (g := (mkF m 186 #[.val (.long q0), .second, .val (.long q1), .second, .val (.long q2), .second, .val (.long q3), .second, .val (.long q4), .second, .val (.long q5), .second, .val (.ref b158), .val (.ref b162), .val (.ref b172), .val (.ref b180), .val (.ref b190), .val (.ref b202), .val (.int (own_f0_78 q2)), .val (.ref b162), .val (.ref b180)] [(.ref b202), (.ref b180), (.ref b162)])) rfl (by rw [hml]; rfl) (argsL := [(.ref b162), (.ref b180), (.ref b202)]) (rest := []) (lenOf own_pd619 rfl) rfl (by show 2 * 0 + _ ≤ _; exact Nat.le_of_eq rfl) (hb hby at_186) (fun _ _ => ⟨rfl, e275, (by decide : 6 + 0 ≤ _), (by decide : 30 + 0 ≤ _)⟩)
              dsimp only [Pt.U, Pt.locs, Pt.cells, Pt.slots] at X277 lq277 yq277 zq277 st277 hQ277
              subst lq277 yq277 zq277
              obtain ⟨rfl, N277q, K277, P277_0⟩ := hQ277
              have N277 := Fr.app N275 N277q
              have Zn277 : n0 ≤ T277.heap.size := Nat.le_trans Zn267 K277.1
              have P277_0x : Arv Z T277.heap b202 k202 .long (5 : Int32) [(.long (own_f0_c186_0_0'' q2 q0 q5 q3 q1 q4)), (.long (own_f0_c186_0_1'' q2 q1 q5 q4 q0 q3)), (.long (own_f0_c186_0_2'' q2 q5 q1 q4 q0 q3)), (.long (own_f0_c186_0_3'' q2 q0 q1 q5 q3 q4)), (.long (own_f0_c186_0_4'' q2 q1 q5 q4 q0 q3))] (.long (0 : Int64)) := P277_0
              have f278 := own_keepS f268 K277 (allS (own_plV f274) all0)
              have f279 := f269.keep K277 (ninS ne203 nin0)
              have f280 := f270.keep K277 (ninS ne204 nin0)
              have f281 := f271.keep K277 (ninS ne206 nin0)
              have f282 := f272.keep K277 (ninS ne207 nin0)
              have f283 := f273.keep K277 (ninS ne208 nin0)
              have f284 := P267_0x.keep K277 (ninS ne205 nin0)
              refine own_step st277 ?_
              show own_Run p e below T277 (mkF m 189 #[.val (.long q0), .second, .val (.long q1), .second, .val (.long q2), .second, .val (.long q3), .second, .val (.long q4), .second, .val (.long q5), .second, .val (.ref b158), .val (.ref b162), .val (.ref b172), .val (.ref b180), .val (.ref b190), .val (.ref b202), .val (.int (own_f0_78 q2)), .val (.ref b162), .val (.ref b180)] []) _
              refine own_step (fun t k => XS.aload X277.here hx rfl (hb hby at_189) rfl rfl k) ?_
              refine own_step (fun t k => XS.iconst X277.here hx rfl (hb hby at_191) k) ?_
              refine own_step (own_ldJ X277 hx hZ rfl P277_0x (j := (0 : Int32)) (v := (.long (own_f0_c186_0_0'' q2 q0 q5 q3 q1 q4))) ⟨by decide, by decide⟩ rfl (g := (mkF m 192 #[.val (.long q0), .second, .val (.long q1), .second, .val (.long q2), .second, .val (.long q3), .second, .val (.long q4), .second, .val (.long q5), .second, .val (.ref b158), .val (.ref b162), .val (.ref b172), .val (.ref b180), .val (.ref b190), .val (.ref b202), .val (.int (own_f0_78 q2)), .val (.ref b162), .val (.ref b180)] [(.int (0 : Int32)), (.ref b202)])) rfl rfl (hb hby at_192)) ?_
              show own_Run p e below T277 (mkF m 193 #[.val (.long q0), .second, .val (.long q1), .second, .val (.long q2), .second, .val (.long q3), .second, .val (.long q4), .second, .val (.long q5), .second, .val (.ref b158), .val (.ref b162), .val (.ref b172), .val (.ref b180), .val (.ref b190), .val (.ref b202), .val (.int (own_f0_78 q2)), .val (.ref b162), .val (.ref b180)] [(.long (own_f0_c186_0_0'' q2 q0 q5 q3 q1 q4))]) _
              refine own_step (fun t k => XS.aload X277.here hx rfl (hb hby at_193) rfl rfl k) ?_
              refine own_step (fun t k => XS.iconst X277.here hx rfl (hb hby at_195) k) ?_
              refine own_step (own_ldJ X277 hx hZ rfl f281 (j := (0 : Int32)) (v := (.long (own_f1_42v q2 q0))) ⟨by decide, by decide⟩ rfl (g := (mkF m 196 #[.val (.long q0), .second, .val (.long q1), .second, .val (.long q2), .second, .val (.long q3), .second, .val (.long q4), .second, .val (.long q5), .second, .val (.ref b158), .val (.ref b162), .val (.ref b172), .val (.ref b180), .val (.ref b190), .val (.ref b202), .val (.int (own_f0_78 q2)), .val (.ref b162), .val (.ref b180)] [(.int (0 : Int32)), (.ref b172), (.long (own_f0_c186_0_0'' q2 q0 q5 q3 q1 q4))])) rfl rfl (hb hby at_196)) ?_
              show own_Run p e below T277 (mkF m 197 #[.val (.long q0), .second, .val (.long q1), .second, .val (.long q2), .second, .val (.long q3), .second, .val (.long q4), .second, .val (.long q5), .second, .val (.ref b158), .val (.ref b162), .val (.ref b172), .val (.ref b180), .val (.ref b190), .val (.ref b202), .val (.int (own_f0_78 q2)), .val (.ref b162), .val (.ref b180)] [(.long (own_f1_42v q2 q0)), (.long (own_f0_c186_0_0'' q2 q0 q5 q3 q1 q4))]) _
              refine own_step (fun t k => XS.lcmp X277.here hx rfl (hb hby at_197) rfl k) ?_
              show own_Run p e below T277 (mkF m 198 #[.val (.long q0), .second, .val (.long q1), .second, .val (.long q2), .second, .val (.long q3), .second, .val (.long q4), .second, .val (.long q5), .second, .val (.ref b158), .val (.ref b162), .val (.ref b172), .val (.ref b180), .val (.ref b190), .val (.ref b202), .val (.int (own_f0_78 q2)), .val (.ref b162), .val (.ref b180)] [(.int (lcmpW (own_f0_c186_0_0'' q2 q0 q5 q3 q1 q4) (own_f1_42v q2 q0)))]) _
              obtain ⟨_, st285, rfl⟩ : own_Run p e below T277 (mkF m 198 #[.val (.long q0), .second, .val (.long q1), .second, .val (.long q2), .second, .val (.long q3), .second, .val (.long q4), .second, .val (.long q5), .second, .val (.ref b158), .val (.ref b162), .val (.ref b172), .val (.ref b180), .val (.ref b190), .val (.ref b202), .val (.int (own_f0_78 q2)), .val (.ref b162), .val (.ref b180)] [(.int (lcmpW (own_f0_c186_0_0'' q2 q0 q5 q3 q1 q4) (own_f1_42v q2 q0)))]) (fun t => t = T277.setTop (mkF m 254 #[.val (.long q0), .second, .val (.long q1), .second, .val (.long q2), .second, .val (.long q3), .second, .val (.long q4), .second, .val (.long q5), .second, .val (.ref b158), .val (.ref b162), .val (.ref b172), .val (.ref b180), .val (.ref b190), .val (.ref b202), .val (.int (own_f0_78 q2)), .val (.ref b162), .val (.ref b180)] [(.int (own_f0_j254_S0'' q2 q0 q5 q3 q1 q4))])) := by
                by_cases hc286 : (lcmpW (own_f0_c186_0_0'' q2 q0 q5 q3 q1 q4) (own_f1_42v q2 q0)) = (0 : Int32)
                · refine own_step (fun t k => XS.ifNo X277.here hx rfl (hb hby at_198) rfl ((if0 _ _).trans (teq hc286).2) k) ?_
                  show own_Run p e below T277 (mkF m 201 #[.val (.long q0), .second, .val (.long q1), .second, .val (.long q2), .second, .val (.long q3), .second, .val (.long q4), .second, .val (.long q5), .second, .val (.ref b158), .val (.ref b162), .val (.ref b172), .val (.ref b180), .val (.ref b190), .val (.ref b202), .val (.int (own_f0_78 q2)), .val (.ref b162), .val (.ref b180)] []) _
                  refine own_step (fun t k => XS.aload X277.here hx rfl (hb hby at_201) rfl rfl k) ?_
                  show own_Run p e below T277 (mkF m 203 #[.val (.long q0), .second, .val (.long q1), .second, .val (.long q2), .second, .val (.long q3), .second, .val (.long q4), .second, .val (.long q5), .second, .val (.ref b158), .val (.ref b162), .val (.ref b172), .val (.ref b180), .val (.ref b190), .val (.ref b202), .val (.int (own_f0_78 q2)), .val (.ref b162), .val (.ref b180)] [(.ref b202)]) _
                  refine own_step (fun t k => XS.iconst X277.here hx rfl (hb hby at_203) k) ?_
                  refine own_step (own_ldJ X277 hx hZ rfl P277_0x (j := (1 : Int32)) (v := (.long (own_f0_c186_0_1'' q2 q1 q5 q4 q0 q3))) ⟨by decide, by decide⟩ rfl (g := (mkF m 204 #[.val (.long q0), .second, .val (.long q1), .second, .val (.long q2), .second, .val (.long q3), .second, .val (.long q4), .second, .val (.long q5), .second, .val (.ref b158), .val (.ref b162), .val (.ref b172), .val (.ref b180), .val (.ref b190), .val (.ref b202), .val (.int (own_f0_78 q2)), .val (.ref b162), .val (.ref b180)] [(.int (1 : Int32)), (.ref b202)])) rfl rfl (hb hby at_204)) ?_
                  show own_Run p e below T277 (mkF m 205 #[.val (.long q0), .second, .val (.long q1), .second, .val (.long q2), .second, .val (.long q3), .second, .val (.long q4), .second, .val (.long q5), .second, .val (.ref b158), .val (.ref b162), .val (.ref b172), .val (.ref b180), .val (.ref b190), .val (.ref b202), .val (.int (own_f0_78 q2)), .val (.ref b162), .val (.ref b180)] [(.long (own_f0_c186_0_1'' q2 q1 q5 q4 q0 q3))]) _
                  refine own_step (fun t k => XS.aload X277.here hx rfl (hb hby at_205) rfl rfl k) ?_
                  refine own_step (fun t k => XS.iconst X277.here hx rfl (hb hby at_207) k) ?_
                  refine own_step (own_ldJ X277 hx hZ rfl f281 (j := (1 : Int32)) (v := (.long (own_f1_64v q2 q1))) ⟨by decide, by decide⟩ rfl (g := (mkF m 208 #[.val (.long q0), .second, .val (.long q1), .second, .val (.long q2), .second, .val (.long q3), .second, .val (.long q4), .second, .val (.long q5), .second, .val (.ref b158), .val (.ref b162), .val (.ref b172), .val (.ref b180), .val (.ref b190), .val (.ref b202), .val (.int (own_f0_78 q2)), .val (.ref b162), .val (.ref b180)] [(.int (1 : Int32)), (.ref b172), (.long (own_f0_c186_0_1'' q2 q1 q5 q4 q0 q3))])) rfl rfl (hb hby at_208)) ?_
                  show own_Run p e below T277 (mkF m 209 #[.val (.long q0), .second, .val (.long q1), .second, .val (.long q2), .second, .val (.long q3), .second, .val (.long q4), .second, .val (.long q5), .second, .val (.ref b158), .val (.ref b162), .val (.ref b172), .val (.ref b180), .val (.ref b190), .val (.ref b202), .val (.int (own_f0_78 q2)), .val (.ref b162), .val (.ref b180)] [(.long (own_f1_64v q2 q1)), (.long (own_f0_c186_0_1'' q2 q1 q5 q4 q0 q3))]) _
                  refine own_step (fun t k => XS.lcmp X277.here hx rfl (hb hby at_209) rfl k) ?_
                  show own_Run p e below T277 (mkF m 210 #[.val (.long q0), .second, .val (.long q1), .second, .val (.long q2), .second, .val (.long q3), .second, .val (.long q4), .second, .val (.long q5), .second, .val (.ref b158), .val (.ref b162), .val (.ref b172), .val (.ref b180), .val (.ref b190), .val (.ref b202), .val (.int (own_f0_78 q2)), .val (.ref b162), .val (.ref b180)] [(.int (lcmpW (own_f0_c186_0_1'' q2 q1 q5 q4 q0 q3) (own_f1_64v q2 q1)))]) _
                  by_cases hc287 : (lcmpW (own_f0_c186_0_1'' q2 q1 q5 q4 q0 q3) (own_f1_64v q2 q1)) = (0 : Int32)
                  · refine own_step (fun t k => XS.ifNo X277.here hx rfl (hb hby at_210) rfl ((if0 _ _).trans (teq hc287).2) k) ?_
                    show own_Run p e below T277 (mkF m 213 #[.val (.long q0), .second, .val (.long q1), .second, .val (.long q2), .second, .val (.long q3), .second, .val (.long q4), .second, .val (.long q5), .second, .val (.ref b158), .val (.ref b162), .val (.ref b172), .val (.ref b180), .val (.ref b190), .val (.ref b202), .val (.int (own_f0_78 q2)), .val (.ref b162), .val (.ref b180)] []) _
                    refine own_step (fun t k => XS.aload X277.here hx rfl (hb hby at_213) rfl rfl k) ?_
                    refine own_step (fun t k => XS.iconst X277.here hx rfl (hb hby at_215) k) ?_
                    refine own_step (own_ldJ X277 hx hZ rfl P277_0x (j := (2 : Int32)) (v := (.long (own_f0_c186_0_2'' q2 q5 q1 q4 q0 q3))) ⟨by decide, by decide⟩ rfl (g := (mkF m 216 #[.val (.long q0), .second, .val (.long q1), .second, .val (.long q2), .second, .val (.long q3), .second, .val (.long q4), .second, .val (.long q5), .second, .val (.ref b158), .val (.ref b162), .val (.ref b172), .val (.ref b180), .val (.ref b190), .val (.ref b202), .val (.int (own_f0_78 q2)), .val (.ref b162), .val (.ref b180)] [(.int (2 : Int32)), (.ref b202)])) rfl rfl (hb hby at_216)) ?_
                    show own_Run p e below T277 (mkF m 217 #[.val (.long q0), .second, .val (.long q1), .second, .val (.long q2), .second, .val (.long q3), .second, .val (.long q4), .second, .val (.long q5), .second, .val (.ref b158), .val (.ref b162), .val (.ref b172), .val (.ref b180), .val (.ref b190), .val (.ref b202), .val (.int (own_f0_78 q2)), .val (.ref b162), .val (.ref b180)] [(.long (own_f0_c186_0_2'' q2 q5 q1 q4 q0 q3))]) _
                    refine own_step (fun t k => XS.aload X277.here hx rfl (hb hby at_217) rfl rfl k) ?_
                    refine own_step (fun t k => XS.iconst X277.here hx rfl (hb hby at_219) k) ?_
                    refine own_step (own_ldJ X277 hx hZ rfl f281 (j := (2 : Int32)) (v := (.long (own_f1_87v q2))) ⟨by decide, by decide⟩ rfl (g := (mkF m 220 #[.val (.long q0), .second, .val (.long q1), .second, .val (.long q2), .second, .val (.long q3), .second, .val (.long q4), .second, .val (.long q5), .second, .val (.ref b158), .val (.ref b162), .val (.ref b172), .val (.ref b180), .val (.ref b190), .val (.ref b202), .val (.int (own_f0_78 q2)), .val (.ref b162), .val (.ref b180)] [(.int (2 : Int32)), (.ref b172), (.long (own_f0_c186_0_2'' q2 q5 q1 q4 q0 q3))])) rfl rfl (hb hby at_220)) ?_
                    show own_Run p e below T277 (mkF m 221 #[.val (.long q0), .second, .val (.long q1), .second, .val (.long q2), .second, .val (.long q3), .second, .val (.long q4), .second, .val (.long q5), .second, .val (.ref b158), .val (.ref b162), .val (.ref b172), .val (.ref b180), .val (.ref b190), .val (.ref b202), .val (.int (own_f0_78 q2)), .val (.ref b162), .val (.ref b180)] [(.long (own_f1_87v q2)), (.long (own_f0_c186_0_2'' q2 q5 q1 q4 q0 q3))]) _
                    refine own_step (fun t k => XS.lcmp X277.here hx rfl (hb hby at_221) rfl k) ?_
                    show own_Run p e below T277 (mkF m 222 #[.val (.long q0), .second, .val (.long q1), .second, .val (.long q2), .second, .val (.long q3), .second, .val (.long q4), .second, .val (.long q5), .second, .val (.ref b158), .val (.ref b162), .val (.ref b172), .val (.ref b180), .val (.ref b190), .val (.ref b202), .val (.int (own_f0_78 q2)), .val (.ref b162), .val (.ref b180)] [(.int (lcmpW (own_f0_c186_0_2'' q2 q5 q1 q4 q0 q3) (own_f1_87v q2)))]) _
                    by_cases hc288 : (lcmpW (own_f0_c186_0_2'' q2 q5 q1 q4 q0 q3) (own_f1_87v q2)) = (0 : Int32)
                    · refine own_step (fun t k => XS.ifNo X277.here hx rfl (hb hby at_222) rfl ((if0 _ _).trans (teq hc288).2) k) ?_
                      show own_Run p e below T277 (mkF m 225 #[.val (.long q0), .second, .val (.long q1), .second, .val (.long q2), .second, .val (.long q3), .second, .val (.long q4), .second, .val (.long q5), .second, .val (.ref b158), .val (.ref b162), .val (.ref b172), .val (.ref b180), .val (.ref b190), .val (.ref b202), .val (.int (own_f0_78 q2)), .val (.ref b162), .val (.ref b180)] []) _
                      refine own_step (fun t k => XS.aload X277.here hx rfl (hb hby at_225) rfl rfl k) ?_
                      refine own_step (fun t k => XS.iconst X277.here hx rfl (hb hby at_227) k) ?_
                      refine own_step (own_ldJ X277 hx hZ rfl P277_0x (j := (3 : Int32)) (v := (.long (own_f0_c186_0_3'' q2 q0 q1 q5 q3 q4))) ⟨by decide, by decide⟩ rfl (g := (mkF m 228 #[.val (.long q0), .second, .val (.long q1), .second, .val (.long q2), .second, .val (.long q3), .second, .val (.long q4), .second, .val (.long q5), .second, .val (.ref b158), .val (.ref b162), .val (.ref b172), .val (.ref b180), .val (.ref b190), .val (.ref b202), .val (.int (own_f0_78 q2)), .val (.ref b162), .val (.ref b180)] [(.int (3 : Int32)), (.ref b202)])) rfl rfl (hb hby at_228)) ?_
                      show own_Run p e below T277 (mkF m 229 #[.val (.long q0), .second, .val (.long q1), .second, .val (.long q2), .second, .val (.long q3), .second, .val (.long q4), .second, .val (.long q5), .second, .val (.ref b158), .val (.ref b162), .val (.ref b172), .val (.ref b180), .val (.ref b190), .val (.ref b202), .val (.int (own_f0_78 q2)), .val (.ref b162), .val (.ref b180)] [(.long (own_f0_c186_0_3'' q2 q0 q1 q5 q3 q4))]) _
                      refine own_step (fun t k => XS.aload X277.here hx rfl (hb hby at_229) rfl rfl k) ?_
                      refine own_step (fun t k => XS.iconst X277.here hx rfl (hb hby at_231) k) ?_
                      refine own_step (own_ldJ X277 hx hZ rfl f281 (j := (3 : Int32)) (v := (.long (own_f1_118v q2 q0 q1))) ⟨by decide, by decide⟩ rfl (g := (mkF m 232 #[.val (.long q0), .second, .val (.long q1), .second, .val (.long q2), .second, .val (.long q3), .second, .val (.long q4), .second, .val (.long q5), .second, .val (.ref b158), .val (.ref b162), .val (.ref b172), .val (.ref b180), .val (.ref b190), .val (.ref b202), .val (.int (own_f0_78 q2)), .val (.ref b162), .val (.ref b180)] [(.int (3 : Int32)), (.ref b172), (.long (own_f0_c186_0_3'' q2 q0 q1 q5 q3 q4))])) rfl rfl (hb hby at_232)) ?_
                      show own_Run p e below T277 (mkF m 233 #[.val (.long q0), .second, .val (.long q1), .second, .val (.long q2), .second, .val (.long q3), .second, .val (.long q4), .second, .val (.long q5), .second, .val (.ref b158), .val (.ref b162), .val (.ref b172), .val (.ref b180), .val (.ref b190), .val (.ref b202), .val (.int (own_f0_78 q2)), .val (.ref b162), .val (.ref b180)] [(.long (own_f1_118v q2 q0 q1)), (.long (own_f0_c186_0_3'' q2 q0 q1 q5 q3 q4))]) _
                      refine own_step (fun t k => XS.lcmp X277.here hx rfl (hb hby at_233) rfl k) ?_
                      show own_Run p e below T277 (mkF m 234 #[.val (.long q0), .second, .val (.long q1), .second, .val (.long q2), .second, .val (.long q3), .second, .val (.long q4), .second, .val (.long q5), .second, .val (.ref b158), .val (.ref b162), .val (.ref b172), .val (.ref b180), .val (.ref b190), .val (.ref b202), .val (.int (own_f0_78 q2)), .val (.ref b162), .val (.ref b180)] [(.int (lcmpW (own_f0_c186_0_3'' q2 q0 q1 q5 q3 q4) (own_f1_118v q2 q0 q1)))]) _
                      by_cases hc289 : (lcmpW (own_f0_c186_0_3'' q2 q0 q1 q5 q3 q4) (own_f1_118v q2 q0 q1)) = (0 : Int32)
                      · refine own_step (fun t k => XS.ifNo X277.here hx rfl (hb hby at_234) rfl ((if0 _ _).trans (teq hc289).2) k) ?_
                        show own_Run p e below T277 (mkF m 237 #[.val (.long q0), .second, .val (.long q1), .second, .val (.long q2), .second, .val (.long q3), .second, .val (.long q4), .second, .val (.long q5), .second, .val (.ref b158), .val (.ref b162), .val (.ref b172), .val (.ref b180), .val (.ref b190), .val (.ref b202), .val (.int (own_f0_78 q2)), .val (.ref b162), .val (.ref b180)] []) _
                        refine own_step (fun t k => XS.aload X277.here hx rfl (hb hby at_237) rfl rfl k) ?_
                        refine own_step (fun t k => XS.iconst X277.here hx rfl (hb hby at_239) k) ?_
                        refine own_step (own_ldJ X277 hx hZ rfl P277_0x (j := (4 : Int32)) (v := (.long (own_f0_c186_0_4'' q2 q1 q5 q4 q0 q3))) ⟨by decide, by decide⟩ rfl (g := (mkF m 240 #[.val (.long q0), .second, .val (.long q1), .second, .val (.long q2), .second, .val (.long q3), .second, .val (.long q4), .second, .val (.long q5), .second, .val (.ref b158), .val (.ref b162), .val (.ref b172), .val (.ref b180), .val (.ref b190), .val (.ref b202), .val (.int (own_f0_78 q2)), .val (.ref b162), .val (.ref b180)] [(.int (4 : Int32)), (.ref b202)])) rfl rfl (hb hby at_240)) ?_
                        show own_Run p e below T277 (mkF m 241 #[.val (.long q0), .second, .val (.long q1), .second, .val (.long q2), .second, .val (.long q3), .second, .val (.long q4), .second, .val (.long q5), .second, .val (.ref b158), .val (.ref b162), .val (.ref b172), .val (.ref b180), .val (.ref b190), .val (.ref b202), .val (.int (own_f0_78 q2)), .val (.ref b162), .val (.ref b180)] [(.long (own_f0_c186_0_4'' q2 q1 q5 q4 q0 q3))]) _
                        refine own_step (fun t k => XS.aload X277.here hx rfl (hb hby at_241) rfl rfl k) ?_
                        refine own_step (fun t k => XS.iconst X277.here hx rfl (hb hby at_243) k) ?_
                        refine own_step (own_ldJ X277 hx hZ rfl f281 (j := (4 : Int32)) (v := (.long (own_f1_151v q2 q1))) ⟨by decide, by decide⟩ rfl (g := (mkF m 244 #[.val (.long q0), .second, .val (.long q1), .second, .val (.long q2), .second, .val (.long q3), .second, .val (.long q4), .second, .val (.long q5), .second, .val (.ref b158), .val (.ref b162), .val (.ref b172), .val (.ref b180), .val (.ref b190), .val (.ref b202), .val (.int (own_f0_78 q2)), .val (.ref b162), .val (.ref b180)] [(.int (4 : Int32)), (.ref b172), (.long (own_f0_c186_0_4'' q2 q1 q5 q4 q0 q3))])) rfl rfl (hb hby at_244)) ?_
                        show own_Run p e below T277 (mkF m 245 #[.val (.long q0), .second, .val (.long q1), .second, .val (.long q2), .second, .val (.long q3), .second, .val (.long q4), .second, .val (.long q5), .second, .val (.ref b158), .val (.ref b162), .val (.ref b172), .val (.ref b180), .val (.ref b190), .val (.ref b202), .val (.int (own_f0_78 q2)), .val (.ref b162), .val (.ref b180)] [(.long (own_f1_151v q2 q1)), (.long (own_f0_c186_0_4'' q2 q1 q5 q4 q0 q3))]) _
                        refine own_step (fun t k => XS.lcmp X277.here hx rfl (hb hby at_245) rfl k) ?_
                        show own_Run p e below T277 (mkF m 246 #[.val (.long q0), .second, .val (.long q1), .second, .val (.long q2), .second, .val (.long q3), .second, .val (.long q4), .second, .val (.long q5), .second, .val (.ref b158), .val (.ref b162), .val (.ref b172), .val (.ref b180), .val (.ref b190), .val (.ref b202), .val (.int (own_f0_78 q2)), .val (.ref b162), .val (.ref b180)] [(.int (lcmpW (own_f0_c186_0_4'' q2 q1 q5 q4 q0 q3) (own_f1_151v q2 q1)))]) _
                        by_cases hc290 : (lcmpW (own_f0_c186_0_4'' q2 q1 q5 q4 q0 q3) (own_f1_151v q2 q1)) = (0 : Int32)
                        · refine own_step (fun t k => XS.ifNo X277.here hx rfl (hb hby at_246) rfl ((if0 _ _).trans (teq hc290).2) k) ?_
                          show own_Run p e below T277 (mkF m 249 #[.val (.long q0), .second, .val (.long q1), .second, .val (.long q2), .second, .val (.long q3), .second, .val (.long q4), .second, .val (.long q5), .second, .val (.ref b158), .val (.ref b162), .val (.ref b172), .val (.ref b180), .val (.ref b190), .val (.ref b202), .val (.int (own_f0_78 q2)), .val (.ref b162), .val (.ref b180)] []) _
                          refine own_step (fun t k => XS.iconst X277.here hx rfl (hb hby at_249) k) ?_
                          show own_Run p e below T277 (mkF m 250 #[.val (.long q0), .second, .val (.long q1), .second, .val (.long q2), .second, .val (.long q3), .second, .val (.long q4), .second, .val (.long q5), .second, .val (.ref b158), .val (.ref b162), .val (.ref b172), .val (.ref b180), .val (.ref b190), .val (.ref b202), .val (.int (own_f0_78 q2)), .val (.ref b162), .val (.ref b180)] [(.int (1 : Int32))]) _
                          refine own_step (fun t k => XS.goto X277.here hx rfl (pc0 := 250) (pc' := 254) rfl (hb hby at_250) (by decide) (by decide) k) ?_
                          show own_Run p e below T277 (mkF m 254 #[.val (.long q0), .second, .val (.long q1), .second, .val (.long q2), .second, .val (.long q3), .second, .val (.long q4), .second, .val (.long q5), .second, .val (.ref b158), .val (.ref b162), .val (.ref b172), .val (.ref b180), .val (.ref b190), .val (.ref b202), .val (.int (own_f0_78 q2)), .val (.ref b162), .val (.ref b180)] [(.int (1 : Int32))]) _
                          have hj0 : (own_f0_j254_S0'' q2 q0 q5 q3 q1 q4) = (1 : Int32) := ((if_pos hc286).trans ((if_pos hc287).trans ((if_pos hc288).trans ((if_pos hc289).trans (if_pos hc290)))))
                          exact own_here (by rw [hj0] <;> rfl)
                        · refine own_step (fun t k => XS.ifYes X277.here hx rfl (pc0 := 246) (pc' := 253) rfl (hb hby at_246) rfl ((if0 _ _).trans (feq hc290).2) (by decide) (by decide) k) ?_
                          show own_Run p e below T277 (mkF m 253 #[.val (.long q0), .second, .val (.long q1), .second, .val (.long q2), .second, .val (.long q3), .second, .val (.long q4), .second, .val (.long q5), .second, .val (.ref b158), .val (.ref b162), .val (.ref b172), .val (.ref b180), .val (.ref b190), .val (.ref b202), .val (.int (own_f0_78 q2)), .val (.ref b162), .val (.ref b180)] []) _
                          refine own_step (fun t k => XS.iconst X277.here hx rfl (hb hby at_253) k) ?_
                          have hj0 : (own_f0_j254_S0'' q2 q0 q5 q3 q1 q4) = (0 : Int32) := ((if_pos hc286).trans ((if_pos hc287).trans ((if_pos hc288).trans ((if_pos hc289).trans (if_neg hc290)))))
                          exact own_here (by rw [hj0] <;> rfl)
                      · refine own_step (fun t k => XS.ifYes X277.here hx rfl (pc0 := 234) (pc' := 253) rfl (hb hby at_234) rfl ((if0 _ _).trans (feq hc289).2) (by decide) (by decide) k) ?_
                        show own_Run p e below T277 (mkF m 253 #[.val (.long q0), .second, .val (.long q1), .second, .val (.long q2), .second, .val (.long q3), .second, .val (.long q4), .second, .val (.long q5), .second, .val (.ref b158), .val (.ref b162), .val (.ref b172), .val (.ref b180), .val (.ref b190), .val (.ref b202), .val (.int (own_f0_78 q2)), .val (.ref b162), .val (.ref b180)] []) _
                        refine own_step (fun t k => XS.iconst X277.here hx rfl (hb hby at_253) k) ?_
                        have hj0 : (own_f0_j254_S0'' q2 q0 q5 q3 q1 q4) = (0 : Int32) := ((if_pos hc286).trans ((if_pos hc287).trans ((if_pos hc288).trans (if_neg hc289))))
                        exact own_here (by rw [hj0] <;> rfl)
                    · refine own_step (fun t k => XS.ifYes X277.here hx rfl (pc0 := 222) (pc' := 253) rfl (hb hby at_222) rfl ((if0 _ _).trans (feq hc288).2) (by decide) (by decide) k) ?_
                      show own_Run p e below T277 (mkF m 253 #[.val (.long q0), .second, .val (.long q1), .second, .val (.long q2), .second, .val (.long q3), .second, .val (.long q4), .second, .val (.long q5), .second, .val (.ref b158), .val (.ref b162), .val (.ref b172), .val (.ref b180), .val (.ref b190), .val (.ref b202), .val (.int (own_f0_78 q2)), .val (.ref b162), .val (.ref b180)] []) _
                      refine own_step (fun t k => XS.iconst X277.here hx rfl (hb hby at_253) k) ?_
                      show own_Run p e below T277 (mkF m 254 #[.val (.long q0), .second, .val (.long q1), .second, .val (.long q2), .second, .val (.long q3), .second, .val (.long q4), .second, .val (.long q5), .second, .val (.ref b158), .val (.ref b162), .val (.ref b172), .val (.ref b180), .val (.ref b190), .val (.ref b202), .val (.int (own_f0_78 q2)), .val (.ref b162), .val (.ref b180)] [(.int (0 : Int32))]) _
                      have hj0 : (own_f0_j254_S0'' q2 q0 q5 q3 q1 q4) = (0 : Int32) := ((if_pos hc286).trans ((if_pos hc287).trans (if_neg hc288)))
                      exact own_here (by rw [hj0] <;> rfl)
                  · refine own_step (fun t k => XS.ifYes X277.here hx rfl (pc0 := 210) (pc' := 253) rfl (hb hby at_210) rfl ((if0 _ _).trans (feq hc287).2) (by decide) (by decide) k) ?_
                    show own_Run p e below T277 (mkF m 253 #[.val (.long q0), .second, .val (.long q1), .second, .val (.long q2), .second, .val (.long q3), .second, .val (.long q4), .second, .val (.long q5), .second, .val (.ref b158), .val (.ref b162), .val (.ref b172), .val (.ref b180), .val (.ref b190), .val (.ref b202), .val (.int (own_f0_78 q2)), .val (.ref b162), .val (.ref b180)] []) _
                    refine own_step (fun t k => XS.iconst X277.here hx rfl (hb hby at_253) k) ?_
                    have hj0 : (own_f0_j254_S0'' q2 q0 q5 q3 q1 q4) = (0 : Int32) := ((if_pos hc286).trans (if_neg hc287))
                    exact own_here (by rw [hj0] <;> rfl)
                · refine own_step (fun t k => XS.ifYes X277.here hx rfl (pc0 := 198) (pc' := 253) rfl (hb hby at_198) rfl ((if0 _ _).trans (feq hc286).2) (by decide) (by decide) k) ?_
                  show own_Run p e below T277 (mkF m 253 #[.val (.long q0), .second, .val (.long q1), .second, .val (.long q2), .second, .val (.long q3), .second, .val (.long q4), .second, .val (.long q5), .second, .val (.ref b158), .val (.ref b162), .val (.ref b172), .val (.ref b180), .val (.ref b190), .val (.ref b202), .val (.int (own_f0_78 q2)), .val (.ref b162), .val (.ref b180)] []) _
                  refine own_step (fun t k => XS.iconst X277.here hx rfl (hb hby at_253) k) ?_
                  have hj0 : (own_f0_j254_S0'' q2 q0 q5 q3 q1 q4) = (0 : Int32) := (if_neg hc286)
                  exact own_here (by rw [hj0] <;> rfl)
              refine own_tr st285 ?_
              show own_Run p e below T277 (mkF m 254 #[.val (.long q0), .second, .val (.long q1), .second, .val (.long q2), .second, .val (.long q3), .second, .val (.long q4), .second, .val (.long q5), .second, .val (.ref b158), .val (.ref b162), .val (.ref b172), .val (.ref b180), .val (.ref b190), .val (.ref b202), .val (.int (own_f0_78 q2)), .val (.ref b162), .val (.ref b180)] [(.int (own_f0_j254_S0'' q2 q0 q5 q3 q1 q4))]) _
              exact own_retZ X277 hx hlk hret (hb hby at_254) (by decide) (by decide) N277 trivial
          · refine own_vi (if_neg hc266) ?_
            refine own_step (fun t k => XS.icmpYes X202.here hx rfl (pc0 := 134) (pc' := 153) rfl (hb hby at_134) rfl (feq hc266).2 (by decide) (by decide) k) ?_
            show own_Run p e below T202 (mkF m 153 #[.val (.long q0), .second, .val (.long q1), .second, .val (.long q2), .second, .val (.long q3), .second, .val (.long q4), .second, .val (.long q5), .second, .val (.ref b158), .val (.ref b162), .val (.ref b172), .val (.ref b180), .val (.ref b190), .val (.ref b202), .val (.int (own_f0_78 q2)), .val (.ref b190), .val (.ref b180)] []) _
            refine own_step (fun t k => XS.aload X202.here hx rfl (hb hby at_153) rfl rfl k) ?_
            show own_Run p e below T202 (mkF m 155 #[.val (.long q0), .second, .val (.long q1), .second, .val (.long q2), .second, .val (.long q3), .second, .val (.long q4), .second, .val (.long q5), .second, .val (.ref b158), .val (.ref b162), .val (.ref b172), .val (.ref b180), .val (.ref b190), .val (.ref b202), .val (.int (own_f0_78 q2)), .val (.ref b190), .val (.ref b180)] [(.ref b158)]) _
            refine own_step (fun t k => XS.aload X202.here hx rfl (hb hby at_155) rfl rfl k) ?_
            refine own_step (fun t k => XS.aload X202.here hx rfl (hb hby at_157) rfl rfl k) ?_
            obtain ⟨_, _, ⟨T291, L291, kq291, nq291⟩, -, X291, ⟨Lc291, hQ291, lq291, yq291, zq291⟩, st291⟩ := Jvm.LawKit.callS X202 hx (y := (⟨"com/example/rxrelay/rxrelay/protocol/gm/Sm2Field", "subtract", "([J[J[J)V"⟩ : MethodName)) hown (mvT hZ (hw _ (List.mem_of_getElem? (i := 21) rfl))) (mvT hZ (hw _ (List.mem_of_getElem? (i := 22) rfl))) (mvT hZ (hw _ (List.mem_of_getElem? (i := 23) rfl))) (mvT hZ (hw _ (List.mem_of_getElem? (i := 24) rfl))) (by decide) (backOf (W := 0) (rm5c l Z av0 hw [] b158 pl kp k158 (own_f1_42v q2 q0) (own_f1_64v q2 q1) (own_f1_87v q2) (own_f1_118v q2 q0 q1) (own_f1_151v q2 q1) h202 n0 Zn202 geb158 ne159 f211 f209 f210) hZ (hw _ (List.mem_of_getElem? (i := 24) rfl)) (hw _ (List.mem_of_getElem? (i := 23) rfl)) (by decide) (by decide)) (g := (mkF m 159 #[.val (.long q0), .second, .val (.long q1), .second, .val (.long q2), .second, .val (.long q3), .second, .val (.long q4), .second, .val (.long q5), .second, .val (.ref b158), .val (.ref b162), .val (.ref b172), .val (.ref b180), .val (.ref b190), .val (.ref b202), .val (.int (own_f0_78 q2)), .val (.ref b190), .val (.ref b180)] [(.ref b158), (.ref b158), (.ref b158)])) rfl (by rw [hml]; rfl) (argsL := [(.ref b158), (.ref b158), (.ref b158)]) (rest := []) (lenOf own_pd619 rfl) rfl (by show 2 * 0 + _ ≤ _; exact Nat.le_of_eq rfl) (hb hby at_159) (fun _ _ => ⟨rfl, e202, (by decide : 6 + 0 ≤ _), (by decide : 30 + 0 ≤ _)⟩)
            dsimp only [Pt.U, Pt.locs, Pt.cells, Pt.slots] at X291 lq291 yq291 zq291 st291 hQ291
            subst lq291 yq291 zq291
            obtain ⟨rfl, N291q, K291, P291_0⟩ := hQ291
            have N291 := Fr.app N180 N291q
            have Zn291 : n0 ≤ T291.heap.size := Nat.le_trans Zn202 K291.1
            have P291_0x : Arv Z T291.heap b158 k158 .long (5 : Int32) [(.long (own_f0_c159_0_0 q2 q0 q1)), (.long (own_f0_c159_0_1 q2 q1 q0)), (.long (own_f0_c159_0_2 q2 q1 q0)), (.long (own_f0_c159_0_3 q2 q0 q1)), (.long (own_f0_c159_0_4 q2 q1 q0))] (.long (0 : Int64)) := P291_0
            have f292 := own_keepS f209 K291 (allS (own_plV f211) all0)
            have f293 := f210.keep K291 (ninS ne159 nin0)
            have f294 := f212.keep K291 (ninS (Ne.symm ne164) nin0)
            have f295 := f213.keep K291 (ninS (Ne.symm ne174) nin0)
            have f296 := f214.keep K291 (ninS (Ne.symm ne182) nin0)
            have f297 := f215.keep K291 (ninS (Ne.symm ne192) nin0)
            have f298 := V202.keep K291 (ninS (Ne.symm ne204) nin0)
            refine own_step st291 ?_
            show own_Run p e below T291 (mkF m 162 #[.val (.long q0), .second, .val (.long q1), .second, .val (.long q2), .second, .val (.long q3), .second, .val (.long q4), .second, .val (.long q5), .second, .val (.ref b158), .val (.ref b162), .val (.ref b172), .val (.ref b180), .val (.ref b190), .val (.ref b202), .val (.int (own_f0_78 q2)), .val (.ref b190), .val (.ref b180)] []) _
            refine own_step (fun t k => XS.aload X291.here hx rfl (hb hby at_162) rfl rfl k) ?_
            refine own_step (fun t k => XS.astore X291.here hx rfl (hb hby at_164) rfl rfl (l' := #[.val (.long q0), .second, .val (.long q1), .second, .val (.long q2), .second, .val (.long q3), .second, .val (.long q4), .second, .val (.long q5), .second, .val (.ref b158), .val (.ref b162), .val (.ref b172), .val (.ref b180), .val (.ref b190), .val (.ref b202), .val (.int (own_f0_78 q2)), .val (.ref b158), .val (.ref b180)]) rfl k) ?_
            show own_Run p e below T291 (mkF m 166 #[.val (.long q0), .second, .val (.long q1), .second, .val (.long q2), .second, .val (.long q3), .second, .val (.long q4), .second, .val (.long q5), .second, .val (.ref b158), .val (.ref b162), .val (.ref b172), .val (.ref b180), .val (.ref b190), .val (.ref b202), .val (.int (own_f0_78 q2)), .val (.ref b158), .val (.ref b180)] []) _
            refine own_step (fun t k => XS.aload X291.here hx rfl (hb hby at_166) rfl rfl k) ?_
            refine own_step (fun t k => XS.astore X291.here hx rfl (hb hby at_168) rfl rfl (l' := #[.val (.long q0), .second, .val (.long q1), .second, .val (.long q2), .second, .val (.long q3), .second, .val (.long q4), .second, .val (.long q5), .second, .val (.ref b158), .val (.ref b162), .val (.ref b172), .val (.ref b180), .val (.ref b190), .val (.ref b202), .val (.int (own_f0_78 q2)), .val (.ref b158), .val (.ref b172)]) rfl k) ?_
            show own_Run p e below T291 (mkF m 170 #[.val (.long q0), .second, .val (.long q1), .second, .val (.long q2), .second, .val (.long q3), .second, .val (.long q4), .second, .val (.long q5), .second, .val (.ref b158), .val (.ref b162), .val (.ref b172), .val (.ref b180), .val (.ref b190), .val (.ref b202), .val (.int (own_f0_78 q2)), .val (.ref b158), .val (.ref b172)] []) _
            refine own_step (fun t k => XS.aload X291.here hx rfl (hb hby at_170) rfl rfl k) ?_
            obtain ⟨_, _, ⟨T299, L299, kq299, nq299⟩, -, X299, ⟨Lc299, hQ299, lq299, yq299, zq299⟩, st299⟩ := Jvm.LawKit.callS X291 hx (y := (⟨"com/example/rxrelay/rxrelay/protocol/gm/Sm2FieldSubtractPinLaw", "canonical", "([J)Z"⟩ : MethodName)) hown (mvT hZ (hw _ (List.mem_of_getElem? (i := 14) rfl))) (mvT hZ (hw _ (List.mem_of_getElem? (i := 15) rfl))) (mvT hZ (hw _ (List.mem_of_getElem? (i := 2) rfl))) (mvT hZ (hw _ (List.mem_of_getElem? (i := 16) rfl))) (by decide) (backOf (W := 0) (rm3 l Z av0 hw [] b158 k158 (own_f0_c159_0_0 q2 q0 q1) (own_f0_c159_0_1 q2 q1 q0) (own_f0_c159_0_2 q2 q1 q0) (own_f0_c159_0_3 q2 q0 q1) (own_f0_c159_0_4 q2 q1 q0) T291.heap n0 Zn291 P291_0x) hZ (hw _ (List.mem_of_getElem? (i := 16) rfl)) (hw _ (List.mem_of_getElem? (i := 2) rfl)) (by decide) (by decide)) (g := (mkF m 172 #[.val (.long q0), .second, .val (.long q1), .second, .val (.long q2), .second, .val (.long q3), .second, .val (.long q4), .second, .val (.long q5), .second, .val (.ref b158), .val (.ref b162), .val (.ref b172), .val (.ref b180), .val (.ref b190), .val (.ref b202), .val (.int (own_f0_78 q2)), .val (.ref b158), .val (.ref b172)] [(.ref b158)])) rfl (by rw [hml]; rfl) (argsL := [(.ref b158)]) (rest := []) (lenOf own_pd191 rfl) rfl (by show 2 * 0 + _ ≤ _; exact Nat.le_of_eq rfl) (hb hby at_172) (fun _ _ => ⟨rfl, rfl, (by decide : 6 + 0 ≤ _), (by decide : 30 + 0 ≤ _)⟩)
            dsimp only [Pt.U, Pt.locs, Pt.cells, Pt.slots] at X299 lq299 yq299 zq299 st299 hQ299
            subst lq299 yq299 zq299
            obtain ⟨rfl, N299q, e299⟩ := hQ299
            have N299 := Fr.app N291 N299q
            refine own_step st299 ?_
            show own_Run p e below T299 (mkF m 175 #[.val (.long q0), .second, .val (.long q1), .second, .val (.long q2), .second, .val (.long q3), .second, .val (.long q4), .second, .val (.long q5), .second, .val (.ref b158), .val (.ref b162), .val (.ref b172), .val (.ref b180), .val (.ref b190), .val (.ref b202), .val (.int (own_f0_78 q2)), .val (.ref b158), .val (.ref b172)] [(.int (own_r3 (own_f0_c159_0_0 q2 q0 q1) (own_f0_c159_0_1 q2 q1 q0) (own_f0_c159_0_2 q2 q1 q0) (own_f0_c159_0_3 q2 q0 q1) (own_f0_c159_0_4 q2 q1 q0)))]) _
            by_cases hc300 : (own_r3 (own_f0_c159_0_0 q2 q0 q1) (own_f0_c159_0_1 q2 q1 q0) (own_f0_c159_0_2 q2 q1 q0) (own_f0_c159_0_3 q2 q0 q1) (own_f0_c159_0_4 q2 q1 q0)) = (0 : Int32)
            · refine own_vi (if_pos hc300) ?_
              refine own_step (fun t k => XS.ifNo X299.here hx rfl (hb hby at_175) rfl ((if0 _ _).trans (teq hc300).2) k) ?_
              show own_Run p e below T299 (mkF m 178 #[.val (.long q0), .second, .val (.long q1), .second, .val (.long q2), .second, .val (.long q3), .second, .val (.long q4), .second, .val (.long q5), .second, .val (.ref b158), .val (.ref b162), .val (.ref b172), .val (.ref b180), .val (.ref b190), .val (.ref b202), .val (.int (own_f0_78 q2)), .val (.ref b158), .val (.ref b172)] []) _
              refine own_step (fun t k => XS.iconst X299.here hx rfl (hb hby at_178) k) ?_
              exact own_retZ X299 hx hlk hret (hb hby at_179) (by decide) (by decide) N299 trivial
            · refine own_vi (if_neg hc300) ?_
              refine own_step (fun t k => XS.ifYes X299.here hx rfl (pc0 := 175) (pc' := 180) rfl (hb hby at_175) rfl ((if0 _ _).trans (feq hc300).2) (by decide) (by decide) k) ?_
              show own_Run p e below T299 (mkF m 180 #[.val (.long q0), .second, .val (.long q1), .second, .val (.long q2), .second, .val (.long q3), .second, .val (.long q4), .second, .val (.long q5), .second, .val (.ref b158), .val (.ref b162), .val (.ref b172), .val (.ref b180), .val (.ref b190), .val (.ref b202), .val (.int (own_f0_78 q2)), .val (.ref b158), .val (.ref b172)] []) _
              refine own_step (fun t k => XS.aload X299.here hx rfl (hb hby at_180) rfl rfl k) ?_
              refine own_step (fun t k => XS.aload X299.here hx rfl (hb hby at_182) rfl rfl k) ?_
              show own_Run p e below T299 (mkF m 184 #[.val (.long q0), .second, .val (.long q1), .second, .val (.long q2), .second, .val (.long q3), .second, .val (.long q4), .second, .val (.long q5), .second, .val (.ref b158), .val (.ref b162), .val (.ref b172), .val (.ref b180), .val (.ref b190), .val (.ref b202), .val (.int (own_f0_78 q2)), .val (.ref b158), .val (.ref b172)] [(.ref b172), (.ref b158)]) _
              refine own_step (fun t k => XS.aload X299.here hx rfl (hb hby at_184) rfl rfl k) ?_
              obtain ⟨_, _, ⟨T301, L301, kq301, nq301⟩, -, X301, ⟨Lc301, hQ301, lq301, yq301, zq301⟩, st301⟩ := Jvm.LawKit.callS X299 hx (y := (⟨"com/example/rxrelay/rxrelay/protocol/gm/Sm2Field", "add", "([J[J[J)V"⟩ : MethodName)) hown (mvT hZ (hw _ (List.mem_of_getElem? (i := 28) rfl))) (mvT hZ (hw _ (List.mem_of_getElem? (i := 29) rfl))) (mvT hZ (hw _ (List.mem_of_getElem? (i := 23) rfl))) (mvT hZ (hw _ (List.mem_of_getElem? (i := 30) rfl))) (by decide) (backOf (W := 0) (rm6 l Z av0 hw [] b158 b172 b202 pl kp k158 k172 k202 (own_f0_c159_0_0 q2 q0 q1) (own_f0_c159_0_1 q2 q1 q0) (own_f0_c159_0_2 q2 q1 q0) (own_f0_c159_0_3 q2 q0 q1) (own_f0_c159_0_4 q2 q1 q0) (own_f1_42v q2 q0) (own_f1_64v q2 q1) (own_f1_87v q2) (own_f1_118v q2 q0 q1) (own_f1_151v q2 q1) (0 : Int64) (0 : Int64) (0 : Int64) (0 : Int64) (0 : Int64) T291.heap n0 Zn291 geb202 ne203 ne204 ne206 P291_0x f295 f298 f292 f293) hZ (hw _ (List.mem_of_getElem? (i := 30) rfl)) (hw _ (List.mem_of_getElem? (i := 23) rfl)) (by decide) (by decide)) (g := (mkF m 186 #[.val (.long q0), .second, .val (.long q1), .second, .val (.long q2), .second, .val (.long q3), .second, .val (.long q4), .second, .val (.long q5), .second, .val (.ref b158), .val (.ref b162), .val (.ref b172), .val (.ref b180), .val (.ref b190), .val (.ref b202), .val (.int (own_f0_78 q2)), .val (.ref b158), .val (.ref b172)] [(.ref b202), (.ref b172), (.ref b158)])) rfl (by rw [hml]; rfl) (argsL := [(.ref b158), (.ref b172), (.ref b202)]) (rest := []) (lenOf own_pd619 rfl) rfl (by show 2 * 0 + _ ≤ _; exact Nat.le_of_eq rfl) (hb hby at_186) (fun _ _ => ⟨rfl, e299, (by decide : 6 + 0 ≤ _), (by decide : 30 + 0 ≤ _)⟩)
              dsimp only [Pt.U, Pt.locs, Pt.cells, Pt.slots] at X301 lq301 yq301 zq301 st301 hQ301
              subst lq301 yq301 zq301
              obtain ⟨rfl, N301q, K301, P301_0⟩ := hQ301
              have N301 := Fr.app N299 N301q
              have Zn301 : n0 ≤ T301.heap.size := Nat.le_trans Zn291 K301.1
              have P301_0x : Arv Z T301.heap b202 k202 .long (5 : Int32) [(.long (own_f0_c186_0_0''' q2 q0 q1)), (.long (own_f0_c186_0_1''' q2 q1 q0)), (.long (own_f0_c186_0_2''' q2 q1 q0)), (.long (own_f0_c186_0_3''' q2 q0 q1)), (.long (own_f0_c186_0_4''' q2 q1 q0))] (.long (0 : Int64)) := P301_0
              have f302 := own_keepS f292 K301 (allS (own_plV f298) all0)
              have f303 := f293.keep K301 (ninS ne203 nin0)
              have f304 := f294.keep K301 (ninS ne205 nin0)
              have f305 := f295.keep K301 (ninS ne206 nin0)
              have f306 := f296.keep K301 (ninS ne207 nin0)
              have f307 := f297.keep K301 (ninS ne208 nin0)
              have f308 := P291_0x.keep K301 (ninS ne204 nin0)
              refine own_step st301 ?_
              show own_Run p e below T301 (mkF m 189 #[.val (.long q0), .second, .val (.long q1), .second, .val (.long q2), .second, .val (.long q3), .second, .val (.long q4), .second, .val (.long q5), .second, .val (.ref b158), .val (.ref b162), .val (.ref b172), .val (.ref b180), .val (.ref b190), .val (.ref b202), .val (.int (own_f0_78 q2)), .val (.ref b158), .val (.ref b172)] []) _
              refine own_step (fun t k => XS.aload X301.here hx rfl (hb hby at_189) rfl rfl k) ?_
              refine own_step (fun t k => XS.iconst X301.here hx rfl (hb hby at_191) k) ?_
              refine own_step (own_ldJ X301 hx hZ rfl P301_0x (j := (0 : Int32)) (v := (.long (own_f0_c186_0_0''' q2 q0 q1))) ⟨by decide, by decide⟩ rfl (g := (mkF m 192 #[.val (.long q0), .second, .val (.long q1), .second, .val (.long q2), .second, .val (.long q3), .second, .val (.long q4), .second, .val (.long q5), .second, .val (.ref b158), .val (.ref b162), .val (.ref b172), .val (.ref b180), .val (.ref b190), .val (.ref b202), .val (.int (own_f0_78 q2)), .val (.ref b158), .val (.ref b172)] [(.int (0 : Int32)), (.ref b202)])) rfl rfl (hb hby at_192)) ?_
              show own_Run p e below T301 (mkF m 193 #[.val (.long q0), .second, .val (.long q1), .second, .val (.long q2), .second, .val (.long q3), .second, .val (.long q4), .second, .val (.long q5), .second, .val (.ref b158), .val (.ref b162), .val (.ref b172), .val (.ref b180), .val (.ref b190), .val (.ref b202), .val (.int (own_f0_78 q2)), .val (.ref b158), .val (.ref b172)] [(.long (own_f0_c186_0_0''' q2 q0 q1))]) _
              refine own_step (fun t k => XS.aload X301.here hx rfl (hb hby at_193) rfl rfl k) ?_
              refine own_step (fun t k => XS.iconst X301.here hx rfl (hb hby at_195) k) ?_
              refine own_step (own_ldJ X301 hx hZ rfl f305 (j := (0 : Int32)) (v := (.long (own_f1_42v q2 q0))) ⟨by decide, by decide⟩ rfl (g := (mkF m 196 #[.val (.long q0), .second, .val (.long q1), .second, .val (.long q2), .second, .val (.long q3), .second, .val (.long q4), .second, .val (.long q5), .second, .val (.ref b158), .val (.ref b162), .val (.ref b172), .val (.ref b180), .val (.ref b190), .val (.ref b202), .val (.int (own_f0_78 q2)), .val (.ref b158), .val (.ref b172)] [(.int (0 : Int32)), (.ref b172), (.long (own_f0_c186_0_0''' q2 q0 q1))])) rfl rfl (hb hby at_196)) ?_
              show own_Run p e below T301 (mkF m 197 #[.val (.long q0), .second, .val (.long q1), .second, .val (.long q2), .second, .val (.long q3), .second, .val (.long q4), .second, .val (.long q5), .second, .val (.ref b158), .val (.ref b162), .val (.ref b172), .val (.ref b180), .val (.ref b190), .val (.ref b202), .val (.int (own_f0_78 q2)), .val (.ref b158), .val (.ref b172)] [(.long (own_f1_42v q2 q0)), (.long (own_f0_c186_0_0''' q2 q0 q1))]) _
              refine own_step (fun t k => XS.lcmp X301.here hx rfl (hb hby at_197) rfl k) ?_
              show own_Run p e below T301 (mkF m 198 #[.val (.long q0), .second, .val (.long q1), .second, .val (.long q2), .second, .val (.long q3), .second, .val (.long q4), .second, .val (.long q5), .second, .val (.ref b158), .val (.ref b162), .val (.ref b172), .val (.ref b180), .val (.ref b190), .val (.ref b202), .val (.int (own_f0_78 q2)), .val (.ref b158), .val (.ref b172)] [(.int (lcmpW (own_f0_c186_0_0''' q2 q0 q1) (own_f1_42v q2 q0)))]) _
              obtain ⟨_, st309, rfl⟩ : own_Run p e below T301 (mkF m 198 #[.val (.long q0), .second, .val (.long q1), .second, .val (.long q2), .second, .val (.long q3), .second, .val (.long q4), .second, .val (.long q5), .second, .val (.ref b158), .val (.ref b162), .val (.ref b172), .val (.ref b180), .val (.ref b190), .val (.ref b202), .val (.int (own_f0_78 q2)), .val (.ref b158), .val (.ref b172)] [(.int (lcmpW (own_f0_c186_0_0''' q2 q0 q1) (own_f1_42v q2 q0)))]) (fun t => t = T301.setTop (mkF m 254 #[.val (.long q0), .second, .val (.long q1), .second, .val (.long q2), .second, .val (.long q3), .second, .val (.long q4), .second, .val (.long q5), .second, .val (.ref b158), .val (.ref b162), .val (.ref b172), .val (.ref b180), .val (.ref b190), .val (.ref b202), .val (.int (own_f0_78 q2)), .val (.ref b158), .val (.ref b172)] [(.int (own_f0_j254_S0''' q2 q0 q1))])) := by
                by_cases hc310 : (lcmpW (own_f0_c186_0_0''' q2 q0 q1) (own_f1_42v q2 q0)) = (0 : Int32)
                · refine own_step (fun t k => XS.ifNo X301.here hx rfl (hb hby at_198) rfl ((if0 _ _).trans (teq hc310).2) k) ?_
                  show own_Run p e below T301 (mkF m 201 #[.val (.long q0), .second, .val (.long q1), .second, .val (.long q2), .second, .val (.long q3), .second, .val (.long q4), .second, .val (.long q5), .second, .val (.ref b158), .val (.ref b162), .val (.ref b172), .val (.ref b180), .val (.ref b190), .val (.ref b202), .val (.int (own_f0_78 q2)), .val (.ref b158), .val (.ref b172)] []) _
                  refine own_step (fun t k => XS.aload X301.here hx rfl (hb hby at_201) rfl rfl k) ?_
                  show own_Run p e below T301 (mkF m 203 #[.val (.long q0), .second, .val (.long q1), .second, .val (.long q2), .second, .val (.long q3), .second, .val (.long q4), .second, .val (.long q5), .second, .val (.ref b158), .val (.ref b162), .val (.ref b172), .val (.ref b180), .val (.ref b190), .val (.ref b202), .val (.int (own_f0_78 q2)), .val (.ref b158), .val (.ref b172)] [(.ref b202)]) _
                  refine own_step (fun t k => XS.iconst X301.here hx rfl (hb hby at_203) k) ?_
                  refine own_step (own_ldJ X301 hx hZ rfl P301_0x (j := (1 : Int32)) (v := (.long (own_f0_c186_0_1''' q2 q1 q0))) ⟨by decide, by decide⟩ rfl (g := (mkF m 204 #[.val (.long q0), .second, .val (.long q1), .second, .val (.long q2), .second, .val (.long q3), .second, .val (.long q4), .second, .val (.long q5), .second, .val (.ref b158), .val (.ref b162), .val (.ref b172), .val (.ref b180), .val (.ref b190), .val (.ref b202), .val (.int (own_f0_78 q2)), .val (.ref b158), .val (.ref b172)] [(.int (1 : Int32)), (.ref b202)])) rfl rfl (hb hby at_204)) ?_
                  show own_Run p e below T301 (mkF m 205 #[.val (.long q0), .second, .val (.long q1), .second, .val (.long q2), .second, .val (.long q3), .second, .val (.long q4), .second, .val (.long q5), .second, .val (.ref b158), .val (.ref b162), .val (.ref b172), .val (.ref b180), .val (.ref b190), .val (.ref b202), .val (.int (own_f0_78 q2)), .val (.ref b158), .val (.ref b172)] [(.long (own_f0_c186_0_1''' q2 q1 q0))]) _
                  refine own_step (fun t k => XS.aload X301.here hx rfl (hb hby at_205) rfl rfl k) ?_
                  refine own_step (fun t k => XS.iconst X301.here hx rfl (hb hby at_207) k) ?_
                  refine own_step (own_ldJ X301 hx hZ rfl f305 (j := (1 : Int32)) (v := (.long (own_f1_64v q2 q1))) ⟨by decide, by decide⟩ rfl (g := (mkF m 208 #[.val (.long q0), .second, .val (.long q1), .second, .val (.long q2), .second, .val (.long q3), .second, .val (.long q4), .second, .val (.long q5), .second, .val (.ref b158), .val (.ref b162), .val (.ref b172), .val (.ref b180), .val (.ref b190), .val (.ref b202), .val (.int (own_f0_78 q2)), .val (.ref b158), .val (.ref b172)] [(.int (1 : Int32)), (.ref b172), (.long (own_f0_c186_0_1''' q2 q1 q0))])) rfl rfl (hb hby at_208)) ?_
                  show own_Run p e below T301 (mkF m 209 #[.val (.long q0), .second, .val (.long q1), .second, .val (.long q2), .second, .val (.long q3), .second, .val (.long q4), .second, .val (.long q5), .second, .val (.ref b158), .val (.ref b162), .val (.ref b172), .val (.ref b180), .val (.ref b190), .val (.ref b202), .val (.int (own_f0_78 q2)), .val (.ref b158), .val (.ref b172)] [(.long (own_f1_64v q2 q1)), (.long (own_f0_c186_0_1''' q2 q1 q0))]) _
                  refine own_step (fun t k => XS.lcmp X301.here hx rfl (hb hby at_209) rfl k) ?_
                  show own_Run p e below T301 (mkF m 210 #[.val (.long q0), .second, .val (.long q1), .second, .val (.long q2), .second, .val (.long q3), .second, .val (.long q4), .second, .val (.long q5), .second, .val (.ref b158), .val (.ref b162), .val (.ref b172), .val (.ref b180), .val (.ref b190), .val (.ref b202), .val (.int (own_f0_78 q2)), .val (.ref b158), .val (.ref b172)] [(.int (lcmpW (own_f0_c186_0_1''' q2 q1 q0) (own_f1_64v q2 q1)))]) _
                  by_cases hc311 : (lcmpW (own_f0_c186_0_1''' q2 q1 q0) (own_f1_64v q2 q1)) = (0 : Int32)
                  · refine own_step (fun t k => XS.ifNo X301.here hx rfl (hb hby at_210) rfl ((if0 _ _).trans (teq hc311).2) k) ?_
                    show own_Run p e below T301 (mkF m 213 #[.val (.long q0), .second, .val (.long q1), .second, .val (.long q2), .second, .val (.long q3), .second, .val (.long q4), .second, .val (.long q5), .second, .val (.ref b158), .val (.ref b162), .val (.ref b172), .val (.ref b180), .val (.ref b190), .val (.ref b202), .val (.int (own_f0_78 q2)), .val (.ref b158), .val (.ref b172)] []) _
                    refine own_step (fun t k => XS.aload X301.here hx rfl (hb hby at_213) rfl rfl k) ?_
                    refine own_step (fun t k => XS.iconst X301.here hx rfl (hb hby at_215) k) ?_
                    refine own_step (own_ldJ X301 hx hZ rfl P301_0x (j := (2 : Int32)) (v := (.long (own_f0_c186_0_2''' q2 q1 q0))) ⟨by decide, by decide⟩ rfl (g := (mkF m 216 #[.val (.long q0), .second, .val (.long q1), .second, .val (.long q2), .second, .val (.long q3), .second, .val (.long q4), .second, .val (.long q5), .second, .val (.ref b158), .val (.ref b162), .val (.ref b172), .val (.ref b180), .val (.ref b190), .val (.ref b202), .val (.int (own_f0_78 q2)), .val (.ref b158), .val (.ref b172)] [(.int (2 : Int32)), (.ref b202)])) rfl rfl (hb hby at_216)) ?_
                    show own_Run p e below T301 (mkF m 217 #[.val (.long q0), .second, .val (.long q1), .second, .val (.long q2), .second, .val (.long q3), .second, .val (.long q4), .second, .val (.long q5), .second, .val (.ref b158), .val (.ref b162), .val (.ref b172), .val (.ref b180), .val (.ref b190), .val (.ref b202), .val (.int (own_f0_78 q2)), .val (.ref b158), .val (.ref b172)] [(.long (own_f0_c186_0_2''' q2 q1 q0))]) _
                    refine own_step (fun t k => XS.aload X301.here hx rfl (hb hby at_217) rfl rfl k) ?_
                    refine own_step (fun t k => XS.iconst X301.here hx rfl (hb hby at_219) k) ?_
                    refine own_step (own_ldJ X301 hx hZ rfl f305 (j := (2 : Int32)) (v := (.long (own_f1_87v q2))) ⟨by decide, by decide⟩ rfl (g := (mkF m 220 #[.val (.long q0), .second, .val (.long q1), .second, .val (.long q2), .second, .val (.long q3), .second, .val (.long q4), .second, .val (.long q5), .second, .val (.ref b158), .val (.ref b162), .val (.ref b172), .val (.ref b180), .val (.ref b190), .val (.ref b202), .val (.int (own_f0_78 q2)), .val (.ref b158), .val (.ref b172)] [(.int (2 : Int32)), (.ref b172), (.long (own_f0_c186_0_2''' q2 q1 q0))])) rfl rfl (hb hby at_220)) ?_
                    show own_Run p e below T301 (mkF m 221 #[.val (.long q0), .second, .val (.long q1), .second, .val (.long q2), .second, .val (.long q3), .second, .val (.long q4), .second, .val (.long q5), .second, .val (.ref b158), .val (.ref b162), .val (.ref b172), .val (.ref b180), .val (.ref b190), .val (.ref b202), .val (.int (own_f0_78 q2)), .val (.ref b158), .val (.ref b172)] [(.long (own_f1_87v q2)), (.long (own_f0_c186_0_2''' q2 q1 q0))]) _
                    refine own_step (fun t k => XS.lcmp X301.here hx rfl (hb hby at_221) rfl k) ?_
                    show own_Run p e below T301 (mkF m 222 #[.val (.long q0), .second, .val (.long q1), .second, .val (.long q2), .second, .val (.long q3), .second, .val (.long q4), .second, .val (.long q5), .second, .val (.ref b158), .val (.ref b162), .val (.ref b172), .val (.ref b180), .val (.ref b190), .val (.ref b202), .val (.int (own_f0_78 q2)), .val (.ref b158), .val (.ref b172)] [(.int (lcmpW (own_f0_c186_0_2''' q2 q1 q0) (own_f1_87v q2)))]) _
                    by_cases hc312 : (lcmpW (own_f0_c186_0_2''' q2 q1 q0) (own_f1_87v q2)) = (0 : Int32)
                    · refine own_step (fun t k => XS.ifNo X301.here hx rfl (hb hby at_222) rfl ((if0 _ _).trans (teq hc312).2) k) ?_
                      show own_Run p e below T301 (mkF m 225 #[.val (.long q0), .second, .val (.long q1), .second, .val (.long q2), .second, .val (.long q3), .second, .val (.long q4), .second, .val (.long q5), .second, .val (.ref b158), .val (.ref b162), .val (.ref b172), .val (.ref b180), .val (.ref b190), .val (.ref b202), .val (.int (own_f0_78 q2)), .val (.ref b158), .val (.ref b172)] []) _
                      refine own_step (fun t k => XS.aload X301.here hx rfl (hb hby at_225) rfl rfl k) ?_
                      refine own_step (fun t k => XS.iconst X301.here hx rfl (hb hby at_227) k) ?_
                      refine own_step (own_ldJ X301 hx hZ rfl P301_0x (j := (3 : Int32)) (v := (.long (own_f0_c186_0_3''' q2 q0 q1))) ⟨by decide, by decide⟩ rfl (g := (mkF m 228 #[.val (.long q0), .second, .val (.long q1), .second, .val (.long q2), .second, .val (.long q3), .second, .val (.long q4), .second, .val (.long q5), .second, .val (.ref b158), .val (.ref b162), .val (.ref b172), .val (.ref b180), .val (.ref b190), .val (.ref b202), .val (.int (own_f0_78 q2)), .val (.ref b158), .val (.ref b172)] [(.int (3 : Int32)), (.ref b202)])) rfl rfl (hb hby at_228)) ?_
                      show own_Run p e below T301 (mkF m 229 #[.val (.long q0), .second, .val (.long q1), .second, .val (.long q2), .second, .val (.long q3), .second, .val (.long q4), .second, .val (.long q5), .second, .val (.ref b158), .val (.ref b162), .val (.ref b172), .val (.ref b180), .val (.ref b190), .val (.ref b202), .val (.int (own_f0_78 q2)), .val (.ref b158), .val (.ref b172)] [(.long (own_f0_c186_0_3''' q2 q0 q1))]) _
                      refine own_step (fun t k => XS.aload X301.here hx rfl (hb hby at_229) rfl rfl k) ?_
                      refine own_step (fun t k => XS.iconst X301.here hx rfl (hb hby at_231) k) ?_
                      refine own_step (own_ldJ X301 hx hZ rfl f305 (j := (3 : Int32)) (v := (.long (own_f1_118v q2 q0 q1))) ⟨by decide, by decide⟩ rfl (g := (mkF m 232 #[.val (.long q0), .second, .val (.long q1), .second, .val (.long q2), .second, .val (.long q3), .second, .val (.long q4), .second, .val (.long q5), .second, .val (.ref b158), .val (.ref b162), .val (.ref b172), .val (.ref b180), .val (.ref b190), .val (.ref b202), .val (.int (own_f0_78 q2)), .val (.ref b158), .val (.ref b172)] [(.int (3 : Int32)), (.ref b172), (.long (own_f0_c186_0_3''' q2 q0 q1))])) rfl rfl (hb hby at_232)) ?_
                      show own_Run p e below T301 (mkF m 233 #[.val (.long q0), .second, .val (.long q1), .second, .val (.long q2), .second, .val (.long q3), .second, .val (.long q4), .second, .val (.long q5), .second, .val (.ref b158), .val (.ref b162), .val (.ref b172), .val (.ref b180), .val (.ref b190), .val (.ref b202), .val (.int (own_f0_78 q2)), .val (.ref b158), .val (.ref b172)] [(.long (own_f1_118v q2 q0 q1)), (.long (own_f0_c186_0_3''' q2 q0 q1))]) _
                      refine own_step (fun t k => XS.lcmp X301.here hx rfl (hb hby at_233) rfl k) ?_
                      show own_Run p e below T301 (mkF m 234 #[.val (.long q0), .second, .val (.long q1), .second, .val (.long q2), .second, .val (.long q3), .second, .val (.long q4), .second, .val (.long q5), .second, .val (.ref b158), .val (.ref b162), .val (.ref b172), .val (.ref b180), .val (.ref b190), .val (.ref b202), .val (.int (own_f0_78 q2)), .val (.ref b158), .val (.ref b172)] [(.int (lcmpW (own_f0_c186_0_3''' q2 q0 q1) (own_f1_118v q2 q0 q1)))]) _
                      by_cases hc313 : (lcmpW (own_f0_c186_0_3''' q2 q0 q1) (own_f1_118v q2 q0 q1)) = (0 : Int32)
                      · refine own_step (fun t k => XS.ifNo X301.here hx rfl (hb hby at_234) rfl ((if0 _ _).trans (teq hc313).2) k) ?_
                        show own_Run p e below T301 (mkF m 237 #[.val (.long q0), .second, .val (.long q1), .second, .val (.long q2), .second, .val (.long q3), .second, .val (.long q4), .second, .val (.long q5), .second, .val (.ref b158), .val (.ref b162), .val (.ref b172), .val (.ref b180), .val (.ref b190), .val (.ref b202), .val (.int (own_f0_78 q2)), .val (.ref b158), .val (.ref b172)] []) _
                        refine own_step (fun t k => XS.aload X301.here hx rfl (hb hby at_237) rfl rfl k) ?_
                        refine own_step (fun t k => XS.iconst X301.here hx rfl (hb hby at_239) k) ?_
                        refine own_step (own_ldJ X301 hx hZ rfl P301_0x (j := (4 : Int32)) (v := (.long (own_f0_c186_0_4''' q2 q1 q0))) ⟨by decide, by decide⟩ rfl (g := (mkF m 240 #[.val (.long q0), .second, .val (.long q1), .second, .val (.long q2), .second, .val (.long q3), .second, .val (.long q4), .second, .val (.long q5), .second, .val (.ref b158), .val (.ref b162), .val (.ref b172), .val (.ref b180), .val (.ref b190), .val (.ref b202), .val (.int (own_f0_78 q2)), .val (.ref b158), .val (.ref b172)] [(.int (4 : Int32)), (.ref b202)])) rfl rfl (hb hby at_240)) ?_
                        show own_Run p e below T301 (mkF m 241 #[.val (.long q0), .second, .val (.long q1), .second, .val (.long q2), .second, .val (.long q3), .second, .val (.long q4), .second, .val (.long q5), .second, .val (.ref b158), .val (.ref b162), .val (.ref b172), .val (.ref b180), .val (.ref b190), .val (.ref b202), .val (.int (own_f0_78 q2)), .val (.ref b158), .val (.ref b172)] [(.long (own_f0_c186_0_4''' q2 q1 q0))]) _
                        refine own_step (fun t k => XS.aload X301.here hx rfl (hb hby at_241) rfl rfl k) ?_
                        refine own_step (fun t k => XS.iconst X301.here hx rfl (hb hby at_243) k) ?_
                        refine own_step (own_ldJ X301 hx hZ rfl f305 (j := (4 : Int32)) (v := (.long (own_f1_151v q2 q1))) ⟨by decide, by decide⟩ rfl (g := (mkF m 244 #[.val (.long q0), .second, .val (.long q1), .second, .val (.long q2), .second, .val (.long q3), .second, .val (.long q4), .second, .val (.long q5), .second, .val (.ref b158), .val (.ref b162), .val (.ref b172), .val (.ref b180), .val (.ref b190), .val (.ref b202), .val (.int (own_f0_78 q2)), .val (.ref b158), .val (.ref b172)] [(.int (4 : Int32)), (.ref b172), (.long (own_f0_c186_0_4''' q2 q1 q0))])) rfl rfl (hb hby at_244)) ?_
                        show own_Run p e below T301 (mkF m 245 #[.val (.long q0), .second, .val (.long q1), .second, .val (.long q2), .second, .val (.long q3), .second, .val (.long q4), .second, .val (.long q5), .second, .val (.ref b158), .val (.ref b162), .val (.ref b172), .val (.ref b180), .val (.ref b190), .val (.ref b202), .val (.int (own_f0_78 q2)), .val (.ref b158), .val (.ref b172)] [(.long (own_f1_151v q2 q1)), (.long (own_f0_c186_0_4''' q2 q1 q0))]) _
                        refine own_step (fun t k => XS.lcmp X301.here hx rfl (hb hby at_245) rfl k) ?_
                        show own_Run p e below T301 (mkF m 246 #[.val (.long q0), .second, .val (.long q1), .second, .val (.long q2), .second, .val (.long q3), .second, .val (.long q4), .second, .val (.long q5), .second, .val (.ref b158), .val (.ref b162), .val (.ref b172), .val (.ref b180), .val (.ref b190), .val (.ref b202), .val (.int (own_f0_78 q2)), .val (.ref b158), .val (.ref b172)] [(.int (lcmpW (own_f0_c186_0_4''' q2 q1 q0) (own_f1_151v q2 q1)))]) _
                        by_cases hc314 : (lcmpW (own_f0_c186_0_4''' q2 q1 q0) (own_f1_151v q2 q1)) = (0 : Int32)
                        · refine own_step (fun t k => XS.ifNo X301.here hx rfl (hb hby at_246) rfl ((if0 _ _).trans (teq hc314).2) k) ?_
                          show own_Run p e below T301 (mkF m 249 #[.val (.long q0), .second, .val (.long q1), .second, .val (.long q2), .second, .val (.long q3), .second, .val (.long q4), .second, .val (.long q5), .second, .val (.ref b158), .val (.ref b162), .val (.ref b172), .val (.ref b180), .val (.ref b190), .val (.ref b202), .val (.int (own_f0_78 q2)), .val (.ref b158), .val (.ref b172)] []) _
                          refine own_step (fun t k => XS.iconst X301.here hx rfl (hb hby at_249) k) ?_
                          show own_Run p e below T301 (mkF m 250 #[.val (.long q0), .second, .val (.long q1), .second, .val (.long q2), .second, .val (.long q3), .second, .val (.long q4), .second, .val (.long q5), .second, .val (.ref b158), .val (.ref b162), .val (.ref b172), .val (.ref b180), .val (.ref b190), .val (.ref b202), .val (.int (own_f0_78 q2)), .val (.ref b158), .val (.ref b172)] [(.int (1 : Int32))]) _
                          refine own_step (fun t k => XS.goto X301.here hx rfl (pc0 := 250) (pc' := 254) rfl (hb hby at_250) (by decide) (by decide) k) ?_
                          show own_Run p e below T301 (mkF m 254 #[.val (.long q0), .second, .val (.long q1), .second, .val (.long q2), .second, .val (.long q3), .second, .val (.long q4), .second, .val (.long q5), .second, .val (.ref b158), .val (.ref b162), .val (.ref b172), .val (.ref b180), .val (.ref b190), .val (.ref b202), .val (.int (own_f0_78 q2)), .val (.ref b158), .val (.ref b172)] [(.int (1 : Int32))]) _
                          have hj0 : (own_f0_j254_S0''' q2 q0 q1) = (1 : Int32) := ((if_pos hc310).trans ((if_pos hc311).trans ((if_pos hc312).trans ((if_pos hc313).trans (if_pos hc314)))))
                          exact own_here (by rw [hj0] <;> rfl)
                        · refine own_step (fun t k => XS.ifYes X301.here hx rfl (pc0 := 246) (pc' := 253) rfl (hb hby at_246) rfl ((if0 _ _).trans (feq hc314).2) (by decide) (by decide) k) ?_
                          show own_Run p e below T301 (mkF m 253 #[.val (.long q0), .second, .val (.long q1), .second, .val (.long q2), .second, .val (.long q3), .second, .val (.long q4), .second, .val (.long q5), .second, .val (.ref b158), .val (.ref b162), .val (.ref b172), .val (.ref b180), .val (.ref b190), .val (.ref b202), .val (.int (own_f0_78 q2)), .val (.ref b158), .val (.ref b172)] []) _
                          refine own_step (fun t k => XS.iconst X301.here hx rfl (hb hby at_253) k) ?_
                          have hj0 : (own_f0_j254_S0''' q2 q0 q1) = (0 : Int32) := ((if_pos hc310).trans ((if_pos hc311).trans ((if_pos hc312).trans ((if_pos hc313).trans (if_neg hc314)))))
                          exact own_here (by rw [hj0] <;> rfl)
                      · refine own_step (fun t k => XS.ifYes X301.here hx rfl (pc0 := 234) (pc' := 253) rfl (hb hby at_234) rfl ((if0 _ _).trans (feq hc313).2) (by decide) (by decide) k) ?_
                        show own_Run p e below T301 (mkF m 253 #[.val (.long q0), .second, .val (.long q1), .second, .val (.long q2), .second, .val (.long q3), .second, .val (.long q4), .second, .val (.long q5), .second, .val (.ref b158), .val (.ref b162), .val (.ref b172), .val (.ref b180), .val (.ref b190), .val (.ref b202), .val (.int (own_f0_78 q2)), .val (.ref b158), .val (.ref b172)] []) _
                        refine own_step (fun t k => XS.iconst X301.here hx rfl (hb hby at_253) k) ?_
                        have hj0 : (own_f0_j254_S0''' q2 q0 q1) = (0 : Int32) := ((if_pos hc310).trans ((if_pos hc311).trans ((if_pos hc312).trans (if_neg hc313))))
                        exact own_here (by rw [hj0] <;> rfl)
                    · refine own_step (fun t k => XS.ifYes X301.here hx rfl (pc0 := 222) (pc' := 253) rfl (hb hby at_222) rfl ((if0 _ _).trans (feq hc312).2) (by decide) (by decide) k) ?_
                      show own_Run p e below T301 (mkF m 253 #[.val (.long q0), .second, .val (.long q1), .second, .val (.long q2), .second, .val (.long q3), .second, .val (.long q4), .second, .val (.long q5), .second, .val (.ref b158), .val (.ref b162), .val (.ref b172), .val (.ref b180), .val (.ref b190), .val (.ref b202), .val (.int (own_f0_78 q2)), .val (.ref b158), .val (.ref b172)] []) _
                      refine own_step (fun t k => XS.iconst X301.here hx rfl (hb hby at_253) k) ?_
                      show own_Run p e below T301 (mkF m 254 #[.val (.long q0), .second, .val (.long q1), .second, .val (.long q2), .second, .val (.long q3), .second, .val (.long q4), .second, .val (.long q5), .second, .val (.ref b158), .val (.ref b162), .val (.ref b172), .val (.ref b180), .val (.ref b190), .val (.ref b202), .val (.int (own_f0_78 q2)), .val (.ref b158), .val (.ref b172)] [(.int (0 : Int32))]) _
                      have hj0 : (own_f0_j254_S0''' q2 q0 q1) = (0 : Int32) := ((if_pos hc310).trans ((if_pos hc311).trans (if_neg hc312)))
                      exact own_here (by rw [hj0] <;> rfl)
                  · refine own_step (fun t k => XS.ifYes X301.here hx rfl (pc0 := 210) (pc' := 253) rfl (hb hby at_210) rfl ((if0 _ _).trans (feq hc311).2) (by decide) (by decide) k) ?_
                    show own_Run p e below T301 (mkF m 253 #[.val (.long q0), .second, .val (.long q1), .second, .val (.long q2), .second, .val (.long q3), .second, .val (.long q4), .second, .val (.long q5), .second, .val (.ref b158), .val (.ref b162), .val (.ref b172), .val (.ref b180), .val (.ref b190), .val (.ref b202), .val (.int (own_f0_78 q2)), .val (.ref b158), .val (.ref b172)] []) _
                    refine own_step (fun t k => XS.iconst X301.here hx rfl (hb hby at_253) k) ?_
                    have hj0 : (own_f0_j254_S0''' q2 q0 q1) = (0 : Int32) := ((if_pos hc310).trans (if_neg hc311))
                    exact own_here (by rw [hj0] <;> rfl)
                · refine own_step (fun t k => XS.ifYes X301.here hx rfl (pc0 := 198) (pc' := 253) rfl (hb hby at_198) rfl ((if0 _ _).trans (feq hc310).2) (by decide) (by decide) k) ?_
                  show own_Run p e below T301 (mkF m 253 #[.val (.long q0), .second, .val (.long q1), .second, .val (.long q2), .second, .val (.long q3), .second, .val (.long q4), .second, .val (.long q5), .second, .val (.ref b158), .val (.ref b162), .val (.ref b172), .val (.ref b180), .val (.ref b190), .val (.ref b202), .val (.int (own_f0_78 q2)), .val (.ref b158), .val (.ref b172)] []) _
                  refine own_step (fun t k => XS.iconst X301.here hx rfl (hb hby at_253) k) ?_
                  have hj0 : (own_f0_j254_S0''' q2 q0 q1) = (0 : Int32) := (if_neg hc310)
                  exact own_here (by rw [hj0] <;> rfl)
              refine own_tr st309 ?_
              show own_Run p e below T301 (mkF m 254 #[.val (.long q0), .second, .val (.long q1), .second, .val (.long q2), .second, .val (.long q3), .second, .val (.long q4), .second, .val (.long q5), .second, .val (.ref b158), .val (.ref b162), .val (.ref b172), .val (.ref b180), .val (.ref b190), .val (.ref b202), .val (.int (own_f0_78 q2)), .val (.ref b158), .val (.ref b172)] [(.int (own_f0_j254_S0''' q2 q0 q1))]) _
              exact own_retZ X301 hx hlk hret (hb hby at_254) (by decide) (by decide) N301 trivial
theorem own_c0 : (0 : Int64).toInt = 0 := by decide
theorem own_cM : (4503599627370495 : Int64).toInt = 4503599627370495 := by decide
theorem own_c1 : (4486007441330175 : Int64).toInt = 4486007441330175 := by decide
theorem own_c4 : (281474976645119 : Int64).toInt = 281474976645119 := by decide
theorem own_cT : (281474976710655 : Int64).toInt = 281474976710655 := by decide
def own_V (x0 x1 x2 x3 x4 : Int) : Int := x0 + 4503599627370496 * (x1 + 4503599627370496 * (x2 + 4503599627370496 * (x3 + 4503599627370496 * x4)))
def own_P : Int := own_V 4503599627370495 4486007441330175 4503599627370495 4503599627370495 281474976645119
def own_D (x : Int64) : Prop := 0 ≤ x.toInt ∧ x.toInt < 4503599627370496
def own_Can (x0 x1 x2 x3 x4 : Int64) : Prop := own_D x0 ∧ own_D x1 ∧ own_D x2 ∧ own_D x3 ∧ (0 ≤ x4.toInt ∧ x4.toInt < 281474976710656) ∧ own_V x0.toInt x1.toInt x2.toInt x3.toInt x4.toInt < own_P
theorem own_shr52 (x : Int64) : (own_shrL x (52 : Int32)).toInt = x.toInt / 4503599627370496 := Jvm.Kit.i64_shr x _ (k := 52) (by decide)
theorem own_m52 (x : Int64) : (x &&& (4503599627370495 : Int64)).toInt = x.toInt % 4503599627370496 := Jvm.Kit.i64_mask x _ (k := 52) (by decide) (by decide)
theorem own_shr63 (x : Int64) : own_shrL x (63 : Int32) = if x.toInt < 0 then -1 else 0 := by
  have h : (own_shrL x (63 : Int32)).toInt = x.toInt / 2 ^ 63 := Jvm.Kit.i64_shr x _ (k := 63) (by decide)
  have h1 := Int64.toInt_lt x; have h2 := Int64.le_toInt x
  apply Int64.toInt_inj.mp
  rw [h]
  by_cases q : x.toInt < 0
  · rw [if_pos q, show (-1 : Int64).toInt = -1 by decide]; omega
  · rw [if_neg q, own_c0]; omega
theorem own_andm (x : Int64) : x &&& (-1 : Int64) = x := by
  apply Int64.toBitVec_inj.mp
  rw [Int64.toBitVec_and]
  show x.toBitVec &&& BitVec.allOnes 64 = _
  rw [BitVec.and_allOnes]
theorem own_and0 (x : Int64) : x &&& (0 : Int64) = 0 := by
  apply Int64.toBitVec_inj.mp
  rw [Int64.toBitVec_and]
  show x.toBitVec &&& 0#64 = 0#64
  rw [BitVec.and_zero]
theorem own_or0 (x : Int64) : x ||| (0 : Int64) = x := by
  apply Int64.toBitVec_inj.mp
  rw [Int64.toBitVec_or]
  show x.toBitVec ||| 0#64 = _
  rw [BitVec.or_zero]
theorem own_0or (x : Int64) : (0 : Int64) ||| x = x := by
  apply Int64.toBitVec_inj.mp
  rw [Int64.toBitVec_or]
  show 0#64 ||| x.toBitVec = _
  rw [BitVec.zero_or]
theorem own_xm : ((-1 : Int64) ^^^ (-1 : Int64)) = 0 := by decide
theorem own_x0 : ((0 : Int64) ^^^ (-1 : Int64)) = -1 := by decide
/-- the four low digits, and the top -/
theorem own_dig {a b x y : Int} (ha : 0 ≤ a ∧ a < 4503599627370496) (hb : 0 ≤ b ∧ b < 4503599627370496) (h : a + 4503599627370496 * x = b + 4503599627370496 * y) : a = b ∧ x = y := by omega
theorem own_uniq {a b : Int64} (h : a.toInt = b.toInt) : a = b := Int64.toInt_inj.mp h
theorem own_r4_is {v0 v1 v2 v3 v4 : Int64} (h0 : own_D v0) (h1 : own_D v1) (h2 : own_D v2) (h3 : own_D v3) (h4 : 0 ≤ v4.toInt ∧ v4.toInt < 281474976710656) : own_r4 v0 v1 v2 v3 v4 = if own_V v0.toInt v1.toInt v2.toInt v3.toInt v4.toInt < own_P then 1 else 0 := by
  unfold own_D at h0 h1 h2 h3
  unfold own_r4 own_P own_V
  simp only [lw_eq, lw_lt, Int64.lt_iff_toInt_lt, ← Int64.toInt_inj, own_cM, own_c1, own_c4]
  by_cases q4 : v4.toInt = 281474976645119
  · rw [if_pos q4]
    by_cases q3 : v3.toInt = 4503599627370495
    · rw [if_pos q3]
      by_cases q2 : v2.toInt = 4503599627370495
      · rw [if_pos q2]
        by_cases q1 : v1.toInt = 4486007441330175
        · rw [if_pos q1]
          by_cases q0 : v0.toInt < 4503599627370495
          · rw [if_pos q0, if_pos (by omega)]
          · rw [if_neg q0, if_neg (by omega)]
        · rw [if_neg q1]
          by_cases q0 : v1.toInt < 4486007441330175
          · rw [if_pos q0, if_pos (by omega)]
          · rw [if_neg q0, if_neg (by omega)]
      · rw [if_neg q2]
        by_cases q0 : v2.toInt < 4503599627370495
        · rw [if_pos q0, if_pos (by omega)]
        · rw [if_neg q0, if_neg (by omega)]
    · rw [if_neg q3]
      by_cases q0 : v3.toInt < 4503599627370495
      · rw [if_pos q0, if_pos (by omega)]
      · rw [if_neg q0, if_neg (by omega)]
  · rw [if_neg q4]
    by_cases q0 : v4.toInt < 281474976645119
    · rw [if_pos q0, if_pos (by omega)]
    · rw [if_neg q0, if_neg (by omega)]
theorem own_can_of {v0 v1 v2 v3 v4 : Int64} (h : ¬ own_r3 v0 v1 v2 v3 v4 = 0) : own_Can v0 v1 v2 v3 v4 := by
  unfold own_r3 at h
  simp only [lw_lt, lw_gt, Int64.lt_iff_toInt_lt, own_c0, own_cM, own_cT] at h
  by_cases a0 : v0.toInt < 0
  · rw [if_pos a0] at h; exact absurd rfl h
  by_cases a1 : 4503599627370495 < v0.toInt
  · rw [if_neg a0, if_pos a1] at h; exact absurd rfl h
  by_cases a2 : v1.toInt < 0
  · rw [if_neg a0, if_neg a1, if_pos a2] at h; exact absurd rfl h
  by_cases a3 : 4503599627370495 < v1.toInt
  · rw [if_neg a0, if_neg a1, if_neg a2, if_pos a3] at h; exact absurd rfl h
  by_cases a4 : v2.toInt < 0
  · rw [if_neg a0, if_neg a1, if_neg a2, if_neg a3, if_pos a4] at h; exact absurd rfl h
  by_cases a5 : 4503599627370495 < v2.toInt
  · rw [if_neg a0, if_neg a1, if_neg a2, if_neg a3, if_neg a4, if_pos a5] at h; exact absurd rfl h
  by_cases a6 : v3.toInt < 0
  · rw [if_neg a0, if_neg a1, if_neg a2, if_neg a3, if_neg a4, if_neg a5, if_pos a6] at h; exact absurd rfl h
  by_cases a7 : 4503599627370495 < v3.toInt
  · rw [if_neg a0, if_neg a1, if_neg a2, if_neg a3, if_neg a4, if_neg a5, if_neg a6, if_pos a7] at h; exact absurd rfl h
  by_cases a8 : v4.toInt < 0
  · rw [if_neg a0, if_neg a1, if_neg a2, if_neg a3, if_neg a4, if_neg a5, if_neg a6, if_neg a7, if_pos a8] at h; exact absurd rfl h
  by_cases a9 : 281474976710655 < v4.toInt
  · rw [if_neg a0, if_neg a1, if_neg a2, if_neg a3, if_neg a4, if_neg a5, if_neg a6, if_neg a7, if_neg a8, if_pos a9] at h; exact absurd rfl h
  rw [if_neg a0, if_neg a1, if_neg a2, if_neg a3, if_neg a4, if_neg a5, if_neg a6, if_neg a7, if_neg a8, if_neg a9] at h
  have d0 : own_D v0 := ⟨by omega, by omega⟩
  have d1 : own_D v1 := ⟨by omega, by omega⟩
  have d2 : own_D v2 := ⟨by omega, by omega⟩
  have d3 : own_D v3 := ⟨by omega, by omega⟩
  have d4 : 0 ≤ v4.toInt ∧ v4.toInt < 281474976710656 := ⟨by omega, by omega⟩
  refine ⟨d0, d1, d2, d3, d4, ?_⟩
  rw [own_r4_is d0 d1 d2 d3 d4] at h
  by_cases q : own_V v0.toInt v1.toInt v2.toInt v3.toInt v4.toInt < own_P
  · exact q
  · rw [if_neg q] at h; exact absurd rfl h
theorem own_of_can {v0 v1 v2 v3 v4 : Int64} (h : own_Can v0 v1 v2 v3 v4) : own_r3 v0 v1 v2 v3 v4 = 1 := by
  obtain ⟨d0, d1, d2, d3, d4, hV⟩ := h
  have r4 := own_r4_is d0 d1 d2 d3 d4
  unfold own_D at d0 d1 d2 d3
  unfold own_r3
  simp only [lw_lt, lw_gt, Int64.lt_iff_toInt_lt, own_c0, own_cM, own_cT]
  rw [if_neg (by omega), if_neg (by omega), if_neg (by omega), if_neg (by omega), if_neg (by omega), if_neg (by omega), if_neg (by omega), if_neg (by omega), if_neg (by omega), if_neg (by omega), r4, if_pos hV]
  rfl
theorem own_V0 {v0 v1 v2 v3 v4 : Int64} (h : own_Can v0 v1 v2 v3 v4) : 0 ≤ own_V v0.toInt v1.toInt v2.toInt v3.toInt v4.toInt := by
  obtain ⟨d0, d1, d2, d3, d4, hV⟩ := h
  unfold own_D at d0 d1 d2 d3
  unfold own_V; omega
theorem own_tstep {a b t : Int64} (ha : 0 ≤ a.toInt ∧ a.toInt < 4503599627370496) (hb : 0 ≤ b.toInt ∧ b.toInt < 4503599627370496) (ht : -4503599627370496 ≤ t.toInt ∧ t.toInt < 4503599627370496) :
    ((a - b) + own_shrL t (52 : Int32)).toInt = a.toInt - b.toInt + t.toInt / 4503599627370496 ∧ -4503599627370496 ≤ a.toInt - b.toInt + t.toInt / 4503599627370496 ∧ a.toInt - b.toInt + t.toInt / 4503599627370496 < 4503599627370496 := by
  have y : (a - b).toInt = a.toInt - b.toInt := Jvm.Kit.i64_sub (by omega) (by omega)
  rw [Jvm.Kit.i64_add (by rw [y, own_shr52]; omega) (by rw [y, own_shr52]; omega), y, own_shr52]
  exact ⟨rfl, by omega, by omega⟩
theorem own_sstep {t q s : Int64} (hq : 0 ≤ q.toInt ∧ q.toInt < 4503599627370496) (hs : 0 ≤ s.toInt ∧ s.toInt < 9007199254740992) :
    (((t &&& (4503599627370495 : Int64)) + q) + own_shrL s (52 : Int32)).toInt = t.toInt % 4503599627370496 + q.toInt + s.toInt / 4503599627370496 ∧ 0 ≤ t.toInt % 4503599627370496 + q.toInt + s.toInt / 4503599627370496 ∧ t.toInt % 4503599627370496 + q.toInt + s.toInt / 4503599627370496 < 9007199254740992 := by
  have k : ((t &&& (4503599627370495 : Int64)) + q).toInt = t.toInt % 4503599627370496 + q.toInt := by rw [Jvm.Kit.i64_add (by rw [own_m52]; omega) (by rw [own_m52]; omega), own_m52]
  rw [Jvm.Kit.i64_add (by rw [k, own_shr52]; omega) (by rw [k, own_shr52]; omega), k, own_shr52]
  exact ⟨rfl, by omega, by omega⟩
theorem own_s0 {t q : Int64} (hq : 0 ≤ q.toInt ∧ q.toInt < 4503599627370496) :
    ((t &&& (4503599627370495 : Int64)) + q).toInt = t.toInt % 4503599627370496 + q.toInt ∧ 0 ≤ t.toInt % 4503599627370496 + q.toInt ∧ t.toInt % 4503599627370496 + q.toInt < 9007199254740992 := by
  rw [Jvm.Kit.i64_add (by rw [own_m52]; omega) (by rw [own_m52]; omega), own_m52]
  exact ⟨rfl, by omega, by omega⟩
theorem own_s4 {t q s : Int64} (ht : -4503599627370496 ≤ t.toInt ∧ t.toInt < 4503599627370496) (hq : 0 ≤ q.toInt ∧ q.toInt < 4503599627370496) (hs : 0 ≤ s.toInt ∧ s.toInt < 9007199254740992) :
    ((t + q) + own_shrL s (52 : Int32)).toInt = t.toInt + q.toInt + s.toInt / 4503599627370496 := by
  have k : (t + q).toInt = t.toInt + q.toInt := Jvm.Kit.i64_add (by omega) (by omega)
  rw [Jvm.Kit.i64_add (by rw [k, own_shr52]; omega) (by rw [k, own_shr52]; omega), k, own_shr52]
/-- digits with carries, told together -/
theorem own_tele {x0 x1 x2 x3 x4 y0 y1 y2 y3 y4 : Int} (h0 : y0 = x0) (h1 : y1 = x1 + y0 / 4503599627370496) (h2 : y2 = x2 + y1 / 4503599627370496) (h3 : y3 = x3 + y2 / 4503599627370496) (h4 : y4 = x4 + y3 / 4503599627370496) :
    own_V (y0 % 4503599627370496) (y1 % 4503599627370496) (y2 % 4503599627370496) (y3 % 4503599627370496) y4 = own_V x0 x1 x2 x3 x4 := by
  have e0 := Int.emod_add_mul_ediv y0 4503599627370496
  have e1 := Int.emod_add_mul_ediv y1 4503599627370496
  have e2 := Int.emod_add_mul_ediv y2 4503599627370496
  have e3 := Int.emod_add_mul_ediv y3 4503599627370496
  generalize y0 % 4503599627370496 = r0 at *
  generalize y1 % 4503599627370496 = r1 at *
  generalize y2 % 4503599627370496 = r2 at *
  generalize y3 % 4503599627370496 = r3 at *
  generalize y0 / 4503599627370496 = c0 at *
  generalize y1 / 4503599627370496 = c1 at *
  generalize y2 / 4503599627370496 = c2 at *
  generalize y3 / 4503599627370496 = c3 at *
  subst h0 h1 h2 h3 h4
  unfold own_V
  omega
theorem own_Vsub (a0 a1 a2 a3 a4 b0 b1 b2 b3 b4 : Int) : own_V (a0 - b0) (a1 - b1) (a2 - b2) (a3 - b3) (a4 - b4) = own_V a0 a1 a2 a3 a4 - own_V b0 b1 b2 b3 b4 := by unfold own_V; omega
theorem own_Vadd (a0 a1 a2 a3 a4 b0 b1 b2 b3 b4 : Int) : own_V (a0 + b0) (a1 + b1) (a2 + b2) (a3 + b3) (a4 + b4) = own_V a0 a1 a2 a3 a4 + own_V b0 b1 b2 b3 b4 := by unfold own_V; omega
theorem own_neg {r0 r1 r2 r3 t : Int} (h0 : 0 ≤ r0 ∧ r0 < 4503599627370496) (h1 : 0 ≤ r1 ∧ r1 < 4503599627370496) (h2 : 0 ≤ r2 ∧ r2 < 4503599627370496) (h3 : 0 ≤ r3 ∧ r3 < 4503599627370496) (h : t < 0) : own_V r0 r1 r2 r3 t < 0 := by unfold own_V; omega
theorem own_pos {r0 r1 r2 r3 t : Int} (h0 : 0 ≤ r0 ∧ r0 < 4503599627370496) (h1 : 0 ≤ r1 ∧ r1 < 4503599627370496) (h2 : 0 ≤ r2 ∧ r2 < 4503599627370496) (h3 : 0 ≤ r3 ∧ r3 < 4503599627370496) (h : 0 ≤ t) : 0 ≤ own_V r0 r1 r2 r3 t := by unfold own_V; omega
theorem own_dm (y : Int) : 0 ≤ y % 4503599627370496 ∧ y % 4503599627370496 < 4503599627370496 := ⟨by omega, by omega⟩
theorem own_topd {r0 r1 r2 r3 t : Int} (h0 : 0 ≤ r0 ∧ r0 < 4503599627370496) (h1 : 0 ≤ r1 ∧ r1 < 4503599627370496) (h2 : 0 ≤ r2 ∧ r2 < 4503599627370496) (h3 : 0 ≤ r3 ∧ r3 < 4503599627370496) (l : 0 ≤ own_V r0 r1 r2 r3 t) (u : own_V r0 r1 r2 r3 t < own_P) : 0 ≤ t ∧ t < 281474976710656 := by
  unfold own_P own_V at u; unfold own_V at l; omega
theorem own_subT {u0 u1 u2 u3 u4 v0 v1 v2 v3 v4 : Int64} (hu0 : 0 ≤ u0.toInt ∧ u0.toInt < 4503599627370496) (hv0 : 0 ≤ v0.toInt ∧ v0.toInt < 4503599627370496) (hu1 : 0 ≤ u1.toInt ∧ u1.toInt < 4503599627370496) (hv1 : 0 ≤ v1.toInt ∧ v1.toInt < 4503599627370496) (hu2 : 0 ≤ u2.toInt ∧ u2.toInt < 4503599627370496) (hv2 : 0 ≤ v2.toInt ∧ v2.toInt < 4503599627370496) (hu3 : 0 ≤ u3.toInt ∧ u3.toInt < 4503599627370496) (hv3 : 0 ≤ v3.toInt ∧ v3.toInt < 4503599627370496) (hu4 : 0 ≤ u4.toInt ∧ u4.toInt < 4503599627370496) (hv4 : 0 ≤ v4.toInt ∧ v4.toInt < 4503599627370496) :
    own_V ((u0 - v0).toInt % 4503599627370496) ((own_f5_20 u1 v1 u0 v0).toInt % 4503599627370496) ((own_f5_35 u2 v2 u1 v1 u0 v0).toInt % 4503599627370496) ((own_f5_50 u3 v3 u2 v2 u1 v1 u0 v0).toInt % 4503599627370496) (own_f5_65 u4 v4 u3 v3 u2 v2 u1 v1 u0 v0).toInt = own_V u0.toInt u1.toInt u2.toInt u3.toInt u4.toInt - own_V v0.toInt v1.toInt v2.toInt v3.toInt v4.toInt ∧ (-4503599627370496 ≤ (own_f5_65 u4 v4 u3 v3 u2 v2 u1 v1 u0 v0).toInt ∧ (own_f5_65 u4 v4 u3 v3 u2 v2 u1 v1 u0 v0).toInt < 4503599627370496) := by
  have t0 : (u0 - v0).toInt = u0.toInt - v0.toInt := Jvm.Kit.i64_sub (by omega) (by omega)
  have b0 : -4503599627370496 ≤ (u0 - v0).toInt ∧ (u0 - v0).toInt < 4503599627370496 := by rw [t0]; omega
  have t1 : (own_f5_20 u1 v1 u0 v0).toInt = u1.toInt - v1.toInt + (u0 - v0).toInt / 4503599627370496 := (own_tstep hu1 hv1 b0).1
  have b1 : -4503599627370496 ≤ (own_f5_20 u1 v1 u0 v0).toInt ∧ (own_f5_20 u1 v1 u0 v0).toInt < 4503599627370496 := by rw [t1]; exact (own_tstep hu1 hv1 b0).2
  have t2 : (own_f5_35 u2 v2 u1 v1 u0 v0).toInt = u2.toInt - v2.toInt + (own_f5_20 u1 v1 u0 v0).toInt / 4503599627370496 := (own_tstep hu2 hv2 b1).1
  have b2 : -4503599627370496 ≤ (own_f5_35 u2 v2 u1 v1 u0 v0).toInt ∧ (own_f5_35 u2 v2 u1 v1 u0 v0).toInt < 4503599627370496 := by rw [t2]; exact (own_tstep hu2 hv2 b1).2
  have t3 : (own_f5_50 u3 v3 u2 v2 u1 v1 u0 v0).toInt = u3.toInt - v3.toInt + (own_f5_35 u2 v2 u1 v1 u0 v0).toInt / 4503599627370496 := (own_tstep hu3 hv3 b2).1
  have b3 : -4503599627370496 ≤ (own_f5_50 u3 v3 u2 v2 u1 v1 u0 v0).toInt ∧ (own_f5_50 u3 v3 u2 v2 u1 v1 u0 v0).toInt < 4503599627370496 := by rw [t3]; exact (own_tstep hu3 hv3 b2).2
  have t4 : (own_f5_65 u4 v4 u3 v3 u2 v2 u1 v1 u0 v0).toInt = u4.toInt - v4.toInt + (own_f5_50 u3 v3 u2 v2 u1 v1 u0 v0).toInt / 4503599627370496 := (own_tstep hu4 hv4 b3).1
  have b4 : -4503599627370496 ≤ (own_f5_65 u4 v4 u3 v3 u2 v2 u1 v1 u0 v0).toInt ∧ (own_f5_65 u4 v4 u3 v3 u2 v2 u1 v1 u0 v0).toInt < 4503599627370496 := by rw [t4]; exact (own_tstep hu4 hv4 b3).2
  exact ⟨(own_tele t0 t1 t2 t3 t4).trans (own_Vsub _ _ _ _ _ _ _ _ _ _), b4⟩
theorem own_subS {t0 t1 t2 t3 t4 p0 p1 p2 p3 p4 s0 s1 s2 s3 s4 : Int64} (ht : -4503599627370496 ≤ t4.toInt ∧ t4.toInt < 4503599627370496) (hp0 : 0 ≤ p0.toInt ∧ p0.toInt < 4503599627370496) (hp1 : 0 ≤ p1.toInt ∧ p1.toInt < 4503599627370496) (hp2 : 0 ≤ p2.toInt ∧ p2.toInt < 4503599627370496) (hp3 : 0 ≤ p3.toInt ∧ p3.toInt < 4503599627370496) (hp4 : 0 ≤ p4.toInt ∧ p4.toInt < 4503599627370496)
    (e0 : s0 = (t0 &&& (4503599627370495 : Int64)) + p0) (e1 : s1 = ((t1 &&& (4503599627370495 : Int64)) + p1) + own_shrL s0 (52 : Int32)) (e2 : s2 = ((t2 &&& (4503599627370495 : Int64)) + p2) + own_shrL s1 (52 : Int32)) (e3 : s3 = ((t3 &&& (4503599627370495 : Int64)) + p3) + own_shrL s2 (52 : Int32)) (e4 : s4 = (t4 + p4) + own_shrL s3 (52 : Int32)) :
    own_V (s0 &&& (4503599627370495 : Int64)).toInt (s1 &&& (4503599627370495 : Int64)).toInt (s2 &&& (4503599627370495 : Int64)).toInt (s3 &&& (4503599627370495 : Int64)).toInt s4.toInt = own_V (t0.toInt % 4503599627370496) (t1.toInt % 4503599627370496) (t2.toInt % 4503599627370496) (t3.toInt % 4503599627370496) t4.toInt + own_V p0.toInt p1.toInt p2.toInt p3.toInt p4.toInt := by
  have f0 : s0.toInt = t0.toInt % 4503599627370496 + p0.toInt := by rw [e0]; exact (own_s0 hp0).1
  have b0 : 0 ≤ s0.toInt ∧ s0.toInt < 9007199254740992 := by rw [f0]; exact (own_s0 hp0).2
  have f1 : s1.toInt = t1.toInt % 4503599627370496 + p1.toInt + s0.toInt / 4503599627370496 := by rw [e1]; exact (own_sstep hp1 b0).1
  have b1 : 0 ≤ s1.toInt ∧ s1.toInt < 9007199254740992 := by rw [f1]; exact (own_sstep hp1 b0).2
  have f2 : s2.toInt = t2.toInt % 4503599627370496 + p2.toInt + s1.toInt / 4503599627370496 := by rw [e2]; exact (own_sstep hp2 b1).1
  have b2 : 0 ≤ s2.toInt ∧ s2.toInt < 9007199254740992 := by rw [f2]; exact (own_sstep hp2 b1).2
  have f3 : s3.toInt = t3.toInt % 4503599627370496 + p3.toInt + s2.toInt / 4503599627370496 := by rw [e3]; exact (own_sstep hp3 b2).1
  have b3 : 0 ≤ s3.toInt ∧ s3.toInt < 9007199254740992 := by rw [f3]; exact (own_sstep hp3 b2).2
  have f4 : s4.toInt = t4.toInt + p4.toInt + s3.toInt / 4503599627370496 := by rw [e4]; exact own_s4 ht hp4 b3
  rw [own_m52, own_m52, own_m52, own_m52]
  exact (own_tele f0 f1 f2 f3 f4).trans (own_Vadd _ _ _ _ _ _ _ _ _ _)
theorem own_sub {u0 u1 u2 u3 u4 v0 v1 v2 v3 v4 : Int64} (hu : own_Can u0 u1 u2 u3 u4) (hv : own_Can v0 v1 v2 v3 v4) :
    own_Can (own_f5_v2_0 u0 v0 u4 v4 u3 v3 u2 v2 u1 v1) (own_f5_v2_1 u1 v1 u0 v0 u4 v4 u3 v3 u2 v2) (own_f5_v2_2 u2 v2 u1 v1 u0 v0 u4 v4 u3 v3) (own_f5_v2_3 u3 v3 u2 v2 u1 v1 u0 v0 u4 v4) (own_f5_v2_4 u4 v4 u3 v3 u2 v2 u1 v1 u0 v0) ∧ (own_V (own_f5_v2_0 u0 v0 u4 v4 u3 v3 u2 v2 u1 v1).toInt (own_f5_v2_1 u1 v1 u0 v0 u4 v4 u3 v3 u2 v2).toInt (own_f5_v2_2 u2 v2 u1 v1 u0 v0 u4 v4 u3 v3).toInt (own_f5_v2_3 u3 v3 u2 v2 u1 v1 u0 v0 u4 v4).toInt (own_f5_v2_4 u4 v4 u3 v3 u2 v2 u1 v1 u0 v0).toInt = own_V u0.toInt u1.toInt u2.toInt u3.toInt u4.toInt - own_V v0.toInt v1.toInt v2.toInt v3.toInt v4.toInt ∨ own_V (own_f5_v2_0 u0 v0 u4 v4 u3 v3 u2 v2 u1 v1).toInt (own_f5_v2_1 u1 v1 u0 v0 u4 v4 u3 v3 u2 v2).toInt (own_f5_v2_2 u2 v2 u1 v1 u0 v0 u4 v4 u3 v3).toInt (own_f5_v2_3 u3 v3 u2 v2 u1 v1 u0 v0 u4 v4).toInt (own_f5_v2_4 u4 v4 u3 v3 u2 v2 u1 v1 u0 v0).toInt = own_V u0.toInt u1.toInt u2.toInt u3.toInt u4.toInt - own_V v0.toInt v1.toInt v2.toInt v3.toInt v4.toInt + own_P) := by
  have pu := own_V0 hu; have pv := own_V0 hv
  obtain ⟨a0, a1, a2, a3, a4, aV⟩ := hu
  obtain ⟨b0, b1, b2, b3, b4, bV⟩ := hv
  obtain ⟨vT, hT⟩ := own_subT a0 b0 a1 b1 a2 b2 a3 b3 ⟨a4.1, by omega⟩ ⟨b4.1, by omega⟩
  by_cases hb : (own_f5_65 u4 v4 u3 v3 u2 v2 u1 v1 u0 v0).toInt < 0
  · have bor : (own_f5_72 u4 v4 u3 v3 u2 v2 u1 v1 u0 v0) = -1 := by unfold own_f5_72; rw [own_shr63, if_pos hb]
    have val := own_subS (t0 := (u0 - v0)) (t1 := (own_f5_20 u1 v1 u0 v0)) (t2 := (own_f5_35 u2 v2 u1 v1 u0 v0)) (t3 := (own_f5_50 u3 v3 u2 v2 u1 v1 u0 v0)) (t4 := (own_f5_65 u4 v4 u3 v3 u2 v2 u1 v1 u0 v0)) (p0 := (4503599627370495 : Int64)) (p1 := (4486007441330175 : Int64)) (p2 := (4503599627370495 : Int64)) (p3 := (4503599627370495 : Int64)) (p4 := (281474976645119 : Int64)) (s0 := (own_f5_88 u0 v0 u4 v4 u3 v3 u2 v2 u1 v1)) (s1 := (own_f5_109 u1 v1 u0 v0 u4 v4 u3 v3 u2 v2)) (s2 := (own_f5_132 u2 v2 u1 v1 u0 v0 u4 v4 u3 v3)) (s3 := (own_f5_155 u3 v3 u2 v2 u1 v1 u0 v0 u4 v4)) (s4 := (own_f5_174 u4 v4 u3 v3 u2 v2 u1 v1 u0 v0)) hT (by decide) (by decide) (by decide) (by decide) (by decide) (by unfold own_f5_88; rw [bor, own_andm]) (by unfold own_f5_109; rw [bor, own_andm]) (by unfold own_f5_132; rw [bor, own_andm]) (by unfold own_f5_155; rw [bor, own_andm]) (by unfold own_f5_174; rw [bor, own_andm])
    rw [vT] at val
    have e : own_V (4503599627370495 : Int64).toInt (4486007441330175 : Int64).toInt (4503599627370495 : Int64).toInt (4503599627370495 : Int64).toInt (281474976645119 : Int64).toInt = own_P := by rw [own_cM, own_c1, own_c4]; rfl
    rw [e] at val
    have val2 : own_V (own_f5_v2_0 u0 v0 u4 v4 u3 v3 u2 v2 u1 v1).toInt (own_f5_v2_1 u1 v1 u0 v0 u4 v4 u3 v3 u2 v2).toInt (own_f5_v2_2 u2 v2 u1 v1 u0 v0 u4 v4 u3 v3).toInt (own_f5_v2_3 u3 v3 u2 v2 u1 v1 u0 v0 u4 v4).toInt (own_f5_v2_4 u4 v4 u3 v3 u2 v2 u1 v1 u0 v0).toInt = own_V u0.toInt u1.toInt u2.toInt u3.toInt u4.toInt - own_V v0.toInt v1.toInt v2.toInt v3.toInt v4.toInt + own_P := val
    have d0 : own_D (own_f5_v2_0 u0 v0 u4 v4 u3 v3 u2 v2 u1 v1) := by unfold own_D own_f5_v2_0; rw [own_m52]; exact own_dm _
    have d1 : own_D (own_f5_v2_1 u1 v1 u0 v0 u4 v4 u3 v3 u2 v2) := by unfold own_D own_f5_v2_1; rw [own_m52]; exact own_dm _
    have d2 : own_D (own_f5_v2_2 u2 v2 u1 v1 u0 v0 u4 v4 u3 v3) := by unfold own_D own_f5_v2_2; rw [own_m52]; exact own_dm _
    have d3 : own_D (own_f5_v2_3 u3 v3 u2 v2 u1 v1 u0 v0 u4 v4) := by unfold own_D own_f5_v2_3; rw [own_m52]; exact own_dm _
    have sg := own_neg (own_dm (u0 - v0).toInt) (own_dm (own_f5_20 u1 v1 u0 v0).toInt) (own_dm (own_f5_35 u2 v2 u1 v1 u0 v0).toInt) (own_dm (own_f5_50 u3 v3 u2 v2 u1 v1 u0 v0).toInt) hb
    rw [vT] at sg
    have l : 0 ≤ own_V (own_f5_v2_0 u0 v0 u4 v4 u3 v3 u2 v2 u1 v1).toInt (own_f5_v2_1 u1 v1 u0 v0 u4 v4 u3 v3 u2 v2).toInt (own_f5_v2_2 u2 v2 u1 v1 u0 v0 u4 v4 u3 v3).toInt (own_f5_v2_3 u3 v3 u2 v2 u1 v1 u0 v0 u4 v4).toInt (own_f5_v2_4 u4 v4 u3 v3 u2 v2 u1 v1 u0 v0).toInt := by rw [val2]; omega
    have u : own_V (own_f5_v2_0 u0 v0 u4 v4 u3 v3 u2 v2 u1 v1).toInt (own_f5_v2_1 u1 v1 u0 v0 u4 v4 u3 v3 u2 v2).toInt (own_f5_v2_2 u2 v2 u1 v1 u0 v0 u4 v4 u3 v3).toInt (own_f5_v2_3 u3 v3 u2 v2 u1 v1 u0 v0 u4 v4).toInt (own_f5_v2_4 u4 v4 u3 v3 u2 v2 u1 v1 u0 v0).toInt < own_P := by rw [val2]; omega
    exact ⟨⟨d0, d1, d2, d3, own_topd d0 d1 d2 d3 l u, u⟩, Or.inr val2⟩
  · have bor : (own_f5_72 u4 v4 u3 v3 u2 v2 u1 v1 u0 v0) = 0 := by unfold own_f5_72; rw [own_shr63, if_neg hb]
    have val := own_subS (t0 := (u0 - v0)) (t1 := (own_f5_20 u1 v1 u0 v0)) (t2 := (own_f5_35 u2 v2 u1 v1 u0 v0)) (t3 := (own_f5_50 u3 v3 u2 v2 u1 v1 u0 v0)) (t4 := (own_f5_65 u4 v4 u3 v3 u2 v2 u1 v1 u0 v0)) (p0 := (0 : Int64)) (p1 := (0 : Int64)) (p2 := (0 : Int64)) (p3 := (0 : Int64)) (p4 := (0 : Int64)) (s0 := (own_f5_88 u0 v0 u4 v4 u3 v3 u2 v2 u1 v1)) (s1 := (own_f5_109 u1 v1 u0 v0 u4 v4 u3 v3 u2 v2)) (s2 := (own_f5_132 u2 v2 u1 v1 u0 v0 u4 v4 u3 v3)) (s3 := (own_f5_155 u3 v3 u2 v2 u1 v1 u0 v0 u4 v4)) (s4 := (own_f5_174 u4 v4 u3 v3 u2 v2 u1 v1 u0 v0)) hT (by decide) (by decide) (by decide) (by decide) (by decide) (by unfold own_f5_88; rw [bor, own_and0]) (by unfold own_f5_109; rw [bor, own_and0]) (by unfold own_f5_132; rw [bor, own_and0]) (by unfold own_f5_155; rw [bor, own_and0]) (by unfold own_f5_174; rw [bor, own_and0])
    rw [vT] at val
    have e : own_V (0 : Int64).toInt (0 : Int64).toInt (0 : Int64).toInt (0 : Int64).toInt (0 : Int64).toInt = 0 := by decide
    rw [e] at val
    have val2 : own_V (own_f5_v2_0 u0 v0 u4 v4 u3 v3 u2 v2 u1 v1).toInt (own_f5_v2_1 u1 v1 u0 v0 u4 v4 u3 v3 u2 v2).toInt (own_f5_v2_2 u2 v2 u1 v1 u0 v0 u4 v4 u3 v3).toInt (own_f5_v2_3 u3 v3 u2 v2 u1 v1 u0 v0 u4 v4).toInt (own_f5_v2_4 u4 v4 u3 v3 u2 v2 u1 v1 u0 v0).toInt = own_V u0.toInt u1.toInt u2.toInt u3.toInt u4.toInt - own_V v0.toInt v1.toInt v2.toInt v3.toInt v4.toInt := val.trans (Int.add_zero _)
    have d0 : own_D (own_f5_v2_0 u0 v0 u4 v4 u3 v3 u2 v2 u1 v1) := by unfold own_D own_f5_v2_0; rw [own_m52]; exact own_dm _
    have d1 : own_D (own_f5_v2_1 u1 v1 u0 v0 u4 v4 u3 v3 u2 v2) := by unfold own_D own_f5_v2_1; rw [own_m52]; exact own_dm _
    have d2 : own_D (own_f5_v2_2 u2 v2 u1 v1 u0 v0 u4 v4 u3 v3) := by unfold own_D own_f5_v2_2; rw [own_m52]; exact own_dm _
    have d3 : own_D (own_f5_v2_3 u3 v3 u2 v2 u1 v1 u0 v0 u4 v4) := by unfold own_D own_f5_v2_3; rw [own_m52]; exact own_dm _
    have sg := own_pos (own_dm (u0 - v0).toInt) (own_dm (own_f5_20 u1 v1 u0 v0).toInt) (own_dm (own_f5_35 u2 v2 u1 v1 u0 v0).toInt) (own_dm (own_f5_50 u3 v3 u2 v2 u1 v1 u0 v0).toInt) (Int.not_lt.mp hb)
    rw [vT] at sg
    have l : 0 ≤ own_V (own_f5_v2_0 u0 v0 u4 v4 u3 v3 u2 v2 u1 v1).toInt (own_f5_v2_1 u1 v1 u0 v0 u4 v4 u3 v3 u2 v2).toInt (own_f5_v2_2 u2 v2 u1 v1 u0 v0 u4 v4 u3 v3).toInt (own_f5_v2_3 u3 v3 u2 v2 u1 v1 u0 v0 u4 v4).toInt (own_f5_v2_4 u4 v4 u3 v3 u2 v2 u1 v1 u0 v0).toInt := by rw [val2]; omega
    have u : own_V (own_f5_v2_0 u0 v0 u4 v4 u3 v3 u2 v2 u1 v1).toInt (own_f5_v2_1 u1 v1 u0 v0 u4 v4 u3 v3 u2 v2).toInt (own_f5_v2_2 u2 v2 u1 v1 u0 v0 u4 v4 u3 v3).toInt (own_f5_v2_3 u3 v3 u2 v2 u1 v1 u0 v0 u4 v4).toInt (own_f5_v2_4 u4 v4 u3 v3 u2 v2 u1 v1 u0 v0).toInt < own_P := by rw [val2]; omega
    exact ⟨⟨d0, d1, d2, d3, own_topd d0 d1 d2 d3 l u, u⟩, Or.inl val2⟩
theorem own_red {q0 q1 q2 q3 q4 : Int64} (h0 : 0 ≤ q0.toInt ∧ q0.toInt < 9007199254740992) (h1 : 0 ≤ q1.toInt ∧ q1.toInt < 9007199254740992) (h2 : 0 ≤ q2.toInt ∧ q2.toInt < 9007199254740992) (h3 : 0 ≤ q3.toInt ∧ q3.toInt < 9007199254740992) (h4 : 0 ≤ q4.toInt ∧ q4.toInt < 562949953421312) :
    own_D (own_f7_v0_0 q0 q4 q3 q2 q1) ∧ own_D (own_f7_v0_1 q1 q0 q4 q3 q2) ∧ own_D (own_f7_v0_2 q2 q1 q0 q4 q3) ∧ own_D (own_f7_v0_3 q3 q2 q1 q0 q4) ∧ own_V (own_f7_v0_0 q0 q4 q3 q2 q1).toInt (own_f7_v0_1 q1 q0 q4 q3 q2).toInt (own_f7_v0_2 q2 q1 q0 q4 q3).toInt (own_f7_v0_3 q3 q2 q1 q0 q4).toInt (own_f7_v0_4 q4 q3 q2 q1 q0).toInt = if own_V q0.toInt q1.toInt q2.toInt q3.toInt q4.toInt < own_P then own_V q0.toInt q1.toInt q2.toInt q3.toInt q4.toInt else own_V q0.toInt q1.toInt q2.toInt q3.toInt q4.toInt - own_P := by
  have t1 : (own_f7_6 q1 q0).toInt = q1.toInt + q0.toInt / 4503599627370496 := by unfold own_f7_6; rw [Jvm.Kit.i64_add (by rw [own_shr52]; omega) (by rw [own_shr52]; omega), own_shr52]
  have t2 : (own_f7_20 q2 q1 q0).toInt = q2.toInt + (own_f7_6 q1 q0).toInt / 4503599627370496 := by unfold own_f7_20; rw [Jvm.Kit.i64_add (by rw [own_shr52]; omega) (by rw [own_shr52]; omega), own_shr52]
  have t3 : (own_f7_36 q3 q2 q1 q0).toInt = q3.toInt + (own_f7_20 q2 q1 q0).toInt / 4503599627370496 := by unfold own_f7_36; rw [Jvm.Kit.i64_add (by rw [own_shr52]; omega) (by rw [own_shr52]; omega), own_shr52]
  have r4 : (own_f7_54 q4 q3 q2 q1 q0).toInt = q4.toInt + (own_f7_36 q3 q2 q1 q0).toInt / 4503599627370496 := by unfold own_f7_54; rw [Jvm.Kit.i64_add (by rw [own_shr52]; omega) (by rw [own_shr52]; omega), own_shr52]
  have r0 : (own_f7_12 q0).toInt = q0.toInt % 4503599627370496 := own_m52 _
  have r1 : (own_f7_27 q1 q0).toInt = (own_f7_6 q1 q0).toInt % 4503599627370496 := own_m52 _
  have r2 : (own_f7_44 q2 q1 q0).toInt = (own_f7_20 q2 q1 q0).toInt % 4503599627370496 := own_m52 _
  have r3 : (own_f7_62 q3 q2 q1 q0).toInt = (own_f7_36 q3 q2 q1 q0).toInt % 4503599627370496 := own_m52 _
  have d0 : (own_f7_71 q0).toInt = (own_f7_12 q0).toInt - 4503599627370495 := by unfold own_f7_71; rw [Jvm.Kit.i64_sub (by rw [own_cM]; omega) (by rw [own_cM]; omega), own_cM]
  have d1 : (own_f7_86 q1 q0).toInt = (own_f7_27 q1 q0).toInt - 4486007441330175 + (own_f7_71 q0).toInt / 4503599627370496 := by
    have k : ((own_f7_27 q1 q0) - (4486007441330175 : Int64)).toInt = (own_f7_27 q1 q0).toInt - 4486007441330175 := by rw [Jvm.Kit.i64_sub (by rw [own_c1]; omega) (by rw [own_c1]; omega), own_c1]
    unfold own_f7_86; rw [Jvm.Kit.i64_add (by rw [k, own_shr52]; omega) (by rw [k, own_shr52]; omega), k, own_shr52]
  have d2 : (own_f7_102 q2 q1 q0).toInt = (own_f7_44 q2 q1 q0).toInt - 4503599627370495 + (own_f7_86 q1 q0).toInt / 4503599627370496 := by
    have k : ((own_f7_44 q2 q1 q0) - (4503599627370495 : Int64)).toInt = (own_f7_44 q2 q1 q0).toInt - 4503599627370495 := by rw [Jvm.Kit.i64_sub (by rw [own_cM]; omega) (by rw [own_cM]; omega), own_cM]
    unfold own_f7_102; rw [Jvm.Kit.i64_add (by rw [k, own_shr52]; omega) (by rw [k, own_shr52]; omega), k, own_shr52]
  have d3 : (own_f7_118 q3 q2 q1 q0).toInt = (own_f7_62 q3 q2 q1 q0).toInt - 4503599627370495 + (own_f7_102 q2 q1 q0).toInt / 4503599627370496 := by
    have k : ((own_f7_62 q3 q2 q1 q0) - (4503599627370495 : Int64)).toInt = (own_f7_62 q3 q2 q1 q0).toInt - 4503599627370495 := by rw [Jvm.Kit.i64_sub (by rw [own_cM]; omega) (by rw [own_cM]; omega), own_cM]
    unfold own_f7_118; rw [Jvm.Kit.i64_add (by rw [k, own_shr52]; omega) (by rw [k, own_shr52]; omega), k, own_shr52]
  have d4 : (own_f7_134 q4 q3 q2 q1 q0).toInt = (own_f7_54 q4 q3 q2 q1 q0).toInt - 281474976645119 + (own_f7_118 q3 q2 q1 q0).toInt / 4503599627370496 := by
    have k : ((own_f7_54 q4 q3 q2 q1 q0) - (281474976645119 : Int64)).toInt = (own_f7_54 q4 q3 q2 q1 q0).toInt - 281474976645119 := by rw [Jvm.Kit.i64_sub (by rw [own_c4]; omega) (by rw [own_c4]; omega), own_c4]
    unfold own_f7_134; rw [Jvm.Kit.i64_add (by rw [k, own_shr52]; omega) (by rw [k, own_shr52]; omega), k, own_shr52]
  have vr : own_V (own_f7_12 q0).toInt (own_f7_27 q1 q0).toInt (own_f7_44 q2 q1 q0).toInt (own_f7_62 q3 q2 q1 q0).toInt (own_f7_54 q4 q3 q2 q1 q0).toInt = own_V q0.toInt q1.toInt q2.toInt q3.toInt q4.toInt := by
    rw [r0, r1, r2, r3, r4]; unfold own_V
    have e0 := Int.emod_add_mul_ediv q0.toInt 4503599627370496
    have e1 := Int.emod_add_mul_ediv (own_f7_6 q1 q0).toInt 4503599627370496
    have e2 := Int.emod_add_mul_ediv (own_f7_20 q2 q1 q0).toInt 4503599627370496
    have e3 := Int.emod_add_mul_ediv (own_f7_36 q3 q2 q1 q0).toInt 4503599627370496
    omega
  have vd : own_V ((own_f7_71 q0).toInt % 4503599627370496) ((own_f7_86 q1 q0).toInt % 4503599627370496) ((own_f7_102 q2 q1 q0).toInt % 4503599627370496) ((own_f7_118 q3 q2 q1 q0).toInt % 4503599627370496) (own_f7_134 q4 q3 q2 q1 q0).toInt = own_V q0.toInt q1.toInt q2.toInt q3.toInt q4.toInt - own_P := by
    rw [← vr]; unfold own_P own_V
    have e0 := Int.emod_add_mul_ediv (own_f7_71 q0).toInt 4503599627370496
    have e1 := Int.emod_add_mul_ediv (own_f7_86 q1 q0).toInt 4503599627370496
    have e2 := Int.emod_add_mul_ediv (own_f7_102 q2 q1 q0).toInt 4503599627370496
    have e3 := Int.emod_add_mul_ediv (own_f7_118 q3 q2 q1 q0).toInt 4503599627370496
    omega
  have D0 : own_D (own_f7_12 q0) := by unfold own_D; rw [r0]; omega
  have D1 : own_D (own_f7_27 q1 q0) := by unfold own_D; rw [r1]; omega
  have D2 : own_D (own_f7_44 q2 q1 q0) := by unfold own_D; rw [r2]; omega
  have D3 : own_D (own_f7_62 q3 q2 q1 q0) := by unfold own_D; rw [r3]; omega
  have m : ∀ x : Int64, own_D (x &&& (4503599627370495 : Int64)) := fun x => by unfold own_D; rw [own_m52]; omega
  by_cases hb : (own_f7_134 q4 q3 q2 q1 q0).toInt < 0
  · have bl : (own_f7_141 q4 q3 q2 q1 q0) = -1 := by unfold own_f7_141; rw [own_shr63, if_pos hb]
    have o0 : (own_f7_v0_0 q0 q4 q3 q2 q1) = (own_f7_12 q0) := by unfold own_f7_v0_0; rw [bl, own_xm, own_andm, own_and0, own_or0]
    have o1 : (own_f7_v0_1 q1 q0 q4 q3 q2) = (own_f7_27 q1 q0) := by unfold own_f7_v0_1; rw [bl, own_xm, own_andm, own_and0, own_or0]
    have o2 : (own_f7_v0_2 q2 q1 q0 q4 q3) = (own_f7_44 q2 q1 q0) := by unfold own_f7_v0_2; rw [bl, own_xm, own_andm, own_and0, own_or0]
    have o3 : (own_f7_v0_3 q3 q2 q1 q0 q4) = (own_f7_62 q3 q2 q1 q0) := by unfold own_f7_v0_3; rw [bl, own_xm, own_andm, own_and0, own_or0]
    have o4 : (own_f7_v0_4 q4 q3 q2 q1 q0) = (own_f7_54 q4 q3 q2 q1 q0) := by unfold own_f7_v0_4; rw [bl, own_xm, own_andm, own_and0, own_or0]
    have lt : own_V q0.toInt q1.toInt q2.toInt q3.toInt q4.toInt < own_P := by
      have k := vd
      unfold own_V at k
      have g0 := Int.emod_nonneg (own_f7_71 q0).toInt (show (4503599627370496 : Int) ≠ 0 by decide)
      have l0 := Int.emod_lt_of_pos (own_f7_71 q0).toInt (show (0 : Int) < 4503599627370496 by decide)
      have g1 := Int.emod_nonneg (own_f7_86 q1 q0).toInt (show (4503599627370496 : Int) ≠ 0 by decide)
      have l1 := Int.emod_lt_of_pos (own_f7_86 q1 q0).toInt (show (0 : Int) < 4503599627370496 by decide)
      have g2 := Int.emod_nonneg (own_f7_102 q2 q1 q0).toInt (show (4503599627370496 : Int) ≠ 0 by decide)
      have l2 := Int.emod_lt_of_pos (own_f7_102 q2 q1 q0).toInt (show (0 : Int) < 4503599627370496 by decide)
      have g3 := Int.emod_nonneg (own_f7_118 q3 q2 q1 q0).toInt (show (4503599627370496 : Int) ≠ 0 by decide)
      have l3 := Int.emod_lt_of_pos (own_f7_118 q3 q2 q1 q0).toInt (show (0 : Int) < 4503599627370496 by decide)
      unfold own_V; omega
    rw [o0, o1, o2, o3, o4, if_pos lt]
    exact ⟨D0, D1, D2, D3, vr⟩
  · have bl : (own_f7_141 q4 q3 q2 q1 q0) = 0 := by unfold own_f7_141; rw [own_shr63, if_neg hb]
    have o0 : (own_f7_v0_0 q0 q4 q3 q2 q1) = ((own_f7_71 q0) &&& (4503599627370495 : Int64)) := by unfold own_f7_v0_0; rw [bl, own_x0, own_andm, own_and0, own_0or]
    have o1 : (own_f7_v0_1 q1 q0 q4 q3 q2) = ((own_f7_86 q1 q0) &&& (4503599627370495 : Int64)) := by unfold own_f7_v0_1; rw [bl, own_x0, own_andm, own_and0, own_0or]
    have o2 : (own_f7_v0_2 q2 q1 q0 q4 q3) = ((own_f7_102 q2 q1 q0) &&& (4503599627370495 : Int64)) := by unfold own_f7_v0_2; rw [bl, own_x0, own_andm, own_and0, own_0or]
    have o3 : (own_f7_v0_3 q3 q2 q1 q0 q4) = ((own_f7_118 q3 q2 q1 q0) &&& (4503599627370495 : Int64)) := by unfold own_f7_v0_3; rw [bl, own_x0, own_andm, own_and0, own_0or]
    have o4 : (own_f7_v0_4 q4 q3 q2 q1 q0) = (own_f7_134 q4 q3 q2 q1 q0) := by unfold own_f7_v0_4; rw [bl, own_x0, own_andm, own_and0, own_0or]
    have lt : ¬ own_V q0.toInt q1.toInt q2.toInt q3.toInt q4.toInt < own_P := by
      have k := vd
      unfold own_V at k
      have g0 := Int.emod_nonneg (own_f7_71 q0).toInt (show (4503599627370496 : Int) ≠ 0 by decide)
      have l0 := Int.emod_lt_of_pos (own_f7_71 q0).toInt (show (0 : Int) < 4503599627370496 by decide)
      have g1 := Int.emod_nonneg (own_f7_86 q1 q0).toInt (show (4503599627370496 : Int) ≠ 0 by decide)
      have l1 := Int.emod_lt_of_pos (own_f7_86 q1 q0).toInt (show (0 : Int) < 4503599627370496 by decide)
      have g2 := Int.emod_nonneg (own_f7_102 q2 q1 q0).toInt (show (4503599627370496 : Int) ≠ 0 by decide)
      have l2 := Int.emod_lt_of_pos (own_f7_102 q2 q1 q0).toInt (show (0 : Int) < 4503599627370496 by decide)
      have g3 := Int.emod_nonneg (own_f7_118 q3 q2 q1 q0).toInt (show (4503599627370496 : Int) ≠ 0 by decide)
      have l3 := Int.emod_lt_of_pos (own_f7_118 q3 q2 q1 q0).toInt (show (0 : Int) < 4503599627370496 by decide)
      unfold own_V; omega
    rw [o0, o1, o2, o3, o4, if_neg lt]
    refine ⟨m _, m _, m _, m _, ?_⟩
    rw [own_m52, own_m52, own_m52, own_m52]; exact vd
theorem own_back {u0 u1 u2 u3 u4 v0 v1 v2 v3 v4 : Int64} (hu : own_Can u0 u1 u2 u3 u4) (hv : own_Can v0 v1 v2 v3 v4) : (own_f6_c36_0_0 (own_f5_v2_0 u0 v0 u4 v4 u3 v3 u2 v2 u1 v1) v0 (own_f5_v2_4 u4 v4 u3 v3 u2 v2 u1 v1 u0 v0) v4 (own_f5_v2_3 u3 v3 u2 v2 u1 v1 u0 v0 u4 v4) v3 (own_f5_v2_2 u2 v2 u1 v1 u0 v0 u4 v4 u3 v3) v2 (own_f5_v2_1 u1 v1 u0 v0 u4 v4 u3 v3 u2 v2) v1) = u0 ∧ (own_f6_c36_0_1 (own_f5_v2_1 u1 v1 u0 v0 u4 v4 u3 v3 u2 v2) v1 (own_f5_v2_0 u0 v0 u4 v4 u3 v3 u2 v2 u1 v1) v0 (own_f5_v2_4 u4 v4 u3 v3 u2 v2 u1 v1 u0 v0) v4 (own_f5_v2_3 u3 v3 u2 v2 u1 v1 u0 v0 u4 v4) v3 (own_f5_v2_2 u2 v2 u1 v1 u0 v0 u4 v4 u3 v3) v2) = u1 ∧ (own_f6_c36_0_2 (own_f5_v2_2 u2 v2 u1 v1 u0 v0 u4 v4 u3 v3) v2 (own_f5_v2_1 u1 v1 u0 v0 u4 v4 u3 v3 u2 v2) v1 (own_f5_v2_0 u0 v0 u4 v4 u3 v3 u2 v2 u1 v1) v0 (own_f5_v2_4 u4 v4 u3 v3 u2 v2 u1 v1 u0 v0) v4 (own_f5_v2_3 u3 v3 u2 v2 u1 v1 u0 v0 u4 v4) v3) = u2 ∧ (own_f6_c36_0_3 (own_f5_v2_3 u3 v3 u2 v2 u1 v1 u0 v0 u4 v4) v3 (own_f5_v2_2 u2 v2 u1 v1 u0 v0 u4 v4 u3 v3) v2 (own_f5_v2_1 u1 v1 u0 v0 u4 v4 u3 v3 u2 v2) v1 (own_f5_v2_0 u0 v0 u4 v4 u3 v3 u2 v2 u1 v1) v0 (own_f5_v2_4 u4 v4 u3 v3 u2 v2 u1 v1 u0 v0) v4) = u3 ∧ (own_f6_c36_0_4 (own_f5_v2_4 u4 v4 u3 v3 u2 v2 u1 v1 u0 v0) v4 (own_f5_v2_3 u3 v3 u2 v2 u1 v1 u0 v0 u4 v4) v3 (own_f5_v2_2 u2 v2 u1 v1 u0 v0 u4 v4 u3 v3) v2 (own_f5_v2_1 u1 v1 u0 v0 u4 v4 u3 v3 u2 v2) v1 (own_f5_v2_0 u0 v0 u4 v4 u3 v3 u2 v2 u1 v1) v0) = u4 := by
  obtain ⟨cz, vz⟩ := own_sub hu hv
  have pu := own_V0 hu; have pv := own_V0 hv; have pz := own_V0 cz
  obtain ⟨a0, a1, a2, a3, a4, aV⟩ := hu
  obtain ⟨b0, b1, b2, b3, b4, bV⟩ := hv
  obtain ⟨z0, z1, z2, z3, z4, zV⟩ := cz
  generalize (own_f5_v2_0 u0 v0 u4 v4 u3 v3 u2 v2 u1 v1) = y0 at *
  generalize (own_f5_v2_1 u1 v1 u0 v0 u4 v4 u3 v3 u2 v2) = y1 at *
  generalize (own_f5_v2_2 u2 v2 u1 v1 u0 v0 u4 v4 u3 v3) = y2 at *
  generalize (own_f5_v2_3 u3 v3 u2 v2 u1 v1 u0 v0 u4 v4) = y3 at *
  generalize (own_f5_v2_4 u4 v4 u3 v3 u2 v2 u1 v1 u0 v0) = y4 at *
  have A0 := a0; have A1 := a1; have A2 := a2; have A3 := a3
  unfold own_D at a0 a1 a2 a3 b0 b1 b2 b3 z0 z1 z2 z3
  have s0 : (y0 + v0).toInt = y0.toInt + v0.toInt := Jvm.Kit.i64_add (by omega) (by omega)
  have s1 : (y1 + v1).toInt = y1.toInt + v1.toInt := Jvm.Kit.i64_add (by omega) (by omega)
  have s2 : (y2 + v2).toInt = y2.toInt + v2.toInt := Jvm.Kit.i64_add (by omega) (by omega)
  have s3 : (y3 + v3).toInt = y3.toInt + v3.toInt := Jvm.Kit.i64_add (by omega) (by omega)
  have s4 : (y4 + v4).toInt = y4.toInt + v4.toInt := Jvm.Kit.i64_add (by omega) (by omega)
  obtain ⟨r0, r1, r2, r3, rV⟩ := own_red (q0 := y0 + v0) (q1 := y1 + v1) (q2 := y2 + v2) (q3 := y3 + v3) (q4 := y4 + v4) (by rw [s0]; omega) (by rw [s1]; omega) (by rw [s2]; omega) (by rw [s3]; omega) (by rw [s4]; omega)
  have sum : own_V (y0 + v0).toInt (y1 + v1).toInt (y2 + v2).toInt (y3 + v3).toInt (y4 + v4).toInt = own_V y0.toInt y1.toInt y2.toInt y3.toInt y4.toInt + own_V v0.toInt v1.toInt v2.toInt v3.toInt v4.toInt := by rw [s0, s1, s2, s3, s4]; unfold own_V; omega
  rw [sum] at rV
  have fin : own_V (own_f7_v0_0 (y0 + v0) (y4 + v4) (y3 + v3) (y2 + v2) (y1 + v1)).toInt (own_f7_v0_1 (y1 + v1) (y0 + v0) (y4 + v4) (y3 + v3) (y2 + v2)).toInt (own_f7_v0_2 (y2 + v2) (y1 + v1) (y0 + v0) (y4 + v4) (y3 + v3)).toInt (own_f7_v0_3 (y3 + v3) (y2 + v2) (y1 + v1) (y0 + v0) (y4 + v4)).toInt (own_f7_v0_4 (y4 + v4) (y3 + v3) (y2 + v2) (y1 + v1) (y0 + v0)).toInt = own_V u0.toInt u1.toInt u2.toInt u3.toInt u4.toInt := by
    rw [rV]
    rcases vz with e | e
    · rw [if_pos (by omega)]; omega
    · rw [if_neg (by omega)]; omega
  unfold own_V at fin
  obtain ⟨e0, k0⟩ := own_dig r0 A0 fin
  obtain ⟨e1, k1⟩ := own_dig r1 A1 k0
  obtain ⟨e2, k2⟩ := own_dig r2 A2 k1
  obtain ⟨e3, e4⟩ := own_dig r3 A3 k2
  exact ⟨own_uniq e0, own_uniq e1, own_uniq e2, own_uniq e3, own_uniq e4⟩
theorem own_plain (q0 q1 q2 q3 q4 q5 : Int64) : own_r0 q0 q1 q2 q3 q4 q5 = 1 := by
  unfold own_r0
  by_cases ca : own_r3 (own_f1_42v q2 q0) (own_f1_64v q2 q1) (own_f1_87v q2) (own_f1_118v q2 q0 q1) (own_f1_151v q2 q1) = 0
  · rw [if_pos ca]
  rw [if_neg ca]
  by_cases cb : own_r3 (own_f1_42v q5 q3) (own_f1_64v q5 q4) (own_f1_87v q5) (own_f1_118v q5 q3 q4) (own_f1_151v q5 q4) = 0
  · rw [if_pos cb]
  rw [if_neg cb]
  have hu := own_can_of ca
  have hv := own_can_of cb
  have hz := own_sub hu hv
  have hk := own_back hu hv
  have hz' := own_sub hu hu
  have hk' := own_back hu hu
  by_cases m0 : own_f0_78 q2 = 0
  · rw [if_pos m0]
    rw [show own_r3 (own_f0_c99_0_0 q2 q0 q5 q3 q1 q4) (own_f0_c99_0_1 q2 q1 q5 q4 q0 q3) (own_f0_c99_0_2 q2 q5 q1 q4 q0 q3) (own_f0_c99_0_3 q2 q0 q1 q5 q3 q4) (own_f0_c99_0_4 q2 q1 q5 q4 q0 q3) = 1 from own_of_can hz.1]
    rw [if_neg (by decide)]
    have k0 : (own_f0_c186_0_0 q2 q0 q5 q3 q1 q4) = (own_f1_42v q2 q0) := hk.1
    have k1 : (own_f0_c186_0_1 q2 q1 q5 q4 q0 q3) = (own_f1_64v q2 q1) := hk.2.1
    have k2 : (own_f0_c186_0_2 q2 q5 q1 q4 q0 q3) = (own_f1_87v q2) := hk.2.2.1
    have k3 : (own_f0_c186_0_3 q2 q0 q1 q5 q3 q4) = (own_f1_118v q2 q0 q1) := hk.2.2.2.1
    have k4 : (own_f0_c186_0_4 q2 q1 q5 q4 q0 q3) = (own_f1_151v q2 q1) := hk.2.2.2.2
    unfold own_f0_j254_S0
    rw [if_pos ((lw_eq _ _).mpr k0), if_pos ((lw_eq _ _).mpr k1), if_pos ((lw_eq _ _).mpr k2), if_pos ((lw_eq _ _).mpr k3), if_pos ((lw_eq _ _).mpr k4)]; rfl
  rw [if_neg m0]
  by_cases m1 : own_f0_78 q2 = 1
  · rw [if_pos m1]
    rw [show own_r3 (own_f0_c121_0_0 q2 q0 q5 q3 q1 q4) (own_f0_c121_0_1 q2 q1 q5 q4 q0 q3) (own_f0_c121_0_2 q2 q5 q1 q4 q0 q3) (own_f0_c121_0_3 q2 q0 q1 q5 q3 q4) (own_f0_c121_0_4 q2 q1 q5 q4 q0 q3) = 1 from own_of_can hz.1]
    rw [if_neg (by decide)]
    have k0 : (own_f0_c186_0_0' q2 q0 q5 q3 q1 q4) = (own_f1_42v q2 q0) := hk.1
    have k1 : (own_f0_c186_0_1' q2 q1 q5 q4 q0 q3) = (own_f1_64v q2 q1) := hk.2.1
    have k2 : (own_f0_c186_0_2' q2 q5 q1 q4 q0 q3) = (own_f1_87v q2) := hk.2.2.1
    have k3 : (own_f0_c186_0_3' q2 q0 q1 q5 q3 q4) = (own_f1_118v q2 q0 q1) := hk.2.2.2.1
    have k4 : (own_f0_c186_0_4' q2 q1 q5 q4 q0 q3) = (own_f1_151v q2 q1) := hk.2.2.2.2
    unfold own_f0_j254_S0'
    rw [if_pos ((lw_eq _ _).mpr k0), if_pos ((lw_eq _ _).mpr k1), if_pos ((lw_eq _ _).mpr k2), if_pos ((lw_eq _ _).mpr k3), if_pos ((lw_eq _ _).mpr k4)]; rfl
  rw [if_neg m1]
  by_cases m2 : own_f0_78 q2 = 2
  · rw [if_pos m2]
    rw [show own_r3 (own_f0_c143_0_0 q2 q0 q5 q3 q1 q4) (own_f0_c143_0_1 q2 q1 q5 q4 q0 q3) (own_f0_c143_0_2 q2 q5 q1 q4 q0 q3) (own_f0_c143_0_3 q2 q0 q1 q5 q3 q4) (own_f0_c143_0_4 q2 q1 q5 q4 q0 q3) = 1 from own_of_can hz.1]
    rw [if_neg (by decide)]
    have k0 : (own_f0_c186_0_0'' q2 q0 q5 q3 q1 q4) = (own_f1_42v q2 q0) := hk.1
    have k1 : (own_f0_c186_0_1'' q2 q1 q5 q4 q0 q3) = (own_f1_64v q2 q1) := hk.2.1
    have k2 : (own_f0_c186_0_2'' q2 q5 q1 q4 q0 q3) = (own_f1_87v q2) := hk.2.2.1
    have k3 : (own_f0_c186_0_3'' q2 q0 q1 q5 q3 q4) = (own_f1_118v q2 q0 q1) := hk.2.2.2.1
    have k4 : (own_f0_c186_0_4'' q2 q1 q5 q4 q0 q3) = (own_f1_151v q2 q1) := hk.2.2.2.2
    unfold own_f0_j254_S0''
    rw [if_pos ((lw_eq _ _).mpr k0), if_pos ((lw_eq _ _).mpr k1), if_pos ((lw_eq _ _).mpr k2), if_pos ((lw_eq _ _).mpr k3), if_pos ((lw_eq _ _).mpr k4)]; rfl
  · rw [if_neg m2]
    rw [show own_r3 (own_f0_c159_0_0 q2 q0 q1) (own_f0_c159_0_1 q2 q1 q0) (own_f0_c159_0_2 q2 q1 q0) (own_f0_c159_0_3 q2 q0 q1) (own_f0_c159_0_4 q2 q1 q0) = 1 from own_of_can hz'.1]
    rw [if_neg (by decide)]
    have k0 : (own_f0_c186_0_0''' q2 q0 q1) = (own_f1_42v q2 q0) := hk'.1
    have k1 : (own_f0_c186_0_1''' q2 q1 q0) = (own_f1_64v q2 q1) := hk'.2.1
    have k2 : (own_f0_c186_0_2''' q2 q1 q0) = (own_f1_87v q2) := hk'.2.2.1
    have k3 : (own_f0_c186_0_3''' q2 q0 q1) = (own_f1_118v q2 q0 q1) := hk'.2.2.2.1
    have k4 : (own_f0_c186_0_4''' q2 q1 q0) = (own_f1_151v q2 q1) := hk'.2.2.2.2
    unfold own_f0_j254_S0'''
    rw [if_pos ((lw_eq _ _).mpr k0), if_pos ((lw_eq _ _).mpr k1), if_pos ((lw_eq _ _).mpr k2), if_pos ((lw_eq _ _).mpr k3), if_pos ((lw_eq _ _).mpr k4)]; rfl

set_option maxRecDepth 65536 in
set_option maxHeartbeats 40000000 in
theorem own_comes {Post : Tables → Env → Array Value → State → Outcome → State → Prop} (hpost : ∀ tb e args s v u, (limb_1_1.after args s (.returned v) u = true ∧ limb_1_2.after args s (.returned v) u = true ∧ True) → FrameEnd s (.returned v) u (Jvm.fieldLocs frame_1_writes args s ++ Jvm.arrayLocs frame_1_arrays args s ++ Jvm.staticLocs frame_1_statics s) 24 128 → Post tb e args s (.returned v) u) :
    ArmFor flags0 classFile x code maxLocals ret World_1 tables_1 room_1 Calls_1 rest_1 Pre_1 Post := by
  intro l hfl _ _ p e ha hc hk s m args below hf hA hF happ hP
  obtain ⟨hcalls, hrest, hpre⟩ := hP
  obtain ⟨-, -, -, hnamed, -, -, -, hat⟩ := (Spec.applies_iff hf).mp happ
  obtain ⟨hg, hn⟩ := and_e (Cond.before_iff.mp (show (Jvm.Cond.and given_1 narrow_1).before args s = true from hpre))
  obtain ⟨gc, g0⟩ := and_e hg
  obtain ⟨v0, g1⟩ := and_e g0
  obtain ⟨v1, g2⟩ := and_e g1
  obtain ⟨v2, g3⟩ := and_e g2
  obtain ⟨v3, g4⟩ := and_e g3
  obtain ⟨v4, g5⟩ := and_e g4
  obtain ⟨w0, w1, w2, w3, w4, w5, rfl⟩ : ∃ w0 w1 w2 w3 w4 w5 : Value, args = #[w0, w1, w2, w3, w4, w5] := by
    have hs : args.size = 6 := by simpa [Cond.value, given_1] using gc
    obtain ⟨L⟩ := args
    match L, hs with
    | [w0, w1, w2, w3, w4, w5], _ => exact ⟨w0, w1, w2, w3, w4, w5, rfl⟩
  have hw := fun d (hd : d ∈ tables_1) => atoms_spec (ws := Jvm.Cond.code x code maxLocals ret :: tables_1) hat d (List.mem_cons_of_mem _ hd)
  obtain ⟨i0, ei0⟩ := isL_v v0
  obtain rfl : w0 = (.long i0) := Option.some.inj ei0
  obtain ⟨i1, ei1⟩ := isL_v v1
  obtain rfl : w1 = (.long i1) := Option.some.inj ei1
  obtain ⟨i2, ei2⟩ := isL_v v2
  obtain rfl : w2 = (.long i2) := Option.some.inj ei2
  obtain ⟨i3, ei3⟩ := isL_v v3
  obtain rfl : w3 = (.long i3) := Option.some.inj ei3
  obtain ⟨i4, ei4⟩ := isL_v v4
  obtain rfl : w4 = (.long i4) := Option.some.inj ei4
  obtain ⟨i5, ei5⟩ := isL_v g5
  obtain rfl : w5 = (.long i5) := Option.some.inj ei5
  obtain ⟨na, n0⟩ := and_e hn
  obtain ⟨nl, n1⟩ := and_e n0
  obtain ⟨nx0, n2⟩ := and_e n1
  obtain ⟨nx1, n3⟩ := and_e n2
  obtain ⟨nx2, n4⟩ := and_e n3
  obtain ⟨nx3, nx4⟩ := and_e n4
  obtain ⟨w100, ev⟩ := arr_v na
  obtain ⟨cl, Ar⟩ := Arr.start ev na
  obtain ⟨hsz, hln⟩ := own_lenJ ev Ar nl
  have Sp := Sta.start ev (Or.inr ⟨(hw _ (List.mem_of_getElem? (i := 23) rfl)), (hw _ (List.mem_of_getElem? (i := 27) rfl))⟩)
  have hfit : Fit s := fun {y c} hc i hi => by
    obtain ⟨ha, rfl⟩ := Array.getElem?_eq_some_iff.mp hc
    have q := List.all_eq_true.mp ((Array.all_eq_true_iff_forall_mem.mp hF) _ (Array.getElem_mem ha)) i (List.mem_range.mpr hi)
    simpa [Array.getElem?_eq_getElem hi] using q
  have Vp : Arv s s.heap w100 cl.cls .long (5 : Int32) [(.long (4503599627370495 : Int64)), (.long (4486007441330175 : Int64)), (.long (4503599627370495 : Int64)), (.long (4503599627370495 : Int64)), (.long (281474976645119 : Int64))] (.long (0 : Int64)) := Arv.start hfit Ar hsz hln (by decide) (by decide) ⟨own_elemJ ev Ar nx0, own_elemJ ev Ar nx1, own_elemJ ev Ar nx2, own_elemJ ev Ar nx3, own_elemJ ev Ar nx4, trivial⟩
  obtain ⟨n, o, h1, h2, h3, _, L, rfl, ⟨rfl, N, -⟩, hq⟩ := rm0 l s _ hw tables_1 i0 i1 i2 i3 i4 i5 w100 cl.cls s.heap s.heap.size (Nat.le_refl _) Sp Vp p e ha hc hk s m _ below hf ((Spec.applies_iff_loose hf).mp happ).1 ⟨rfl, State.Warmed39.refl s, rfl⟩ trivial
  have hv : own_r0 i0 i1 i2 i3 i4 i5 = 1 := own_plain i0 i1 i2 i3 i4 i5
  refine ⟨n, _, h1, h2, h3, hpost _ _ _ _ _ _ ⟨Cond.after_iff.mpr rfl, Cond.after_iff.mpr (eq_i res_at (Term.int_eval (1)) (congrArg Value.int hv)), trivial⟩ ⟨hq.1, hq.2.1, (hq.2.2.sift fun y hy => Or.inr (N y hy)).mono (by decide) (by decide)⟩⟩
theorem main_1_1 : Claimed_1_1 := own_comes fun _ _ _ _ _ _ h hF => ⟨h.1, hF⟩
theorem main_1_2 : Claimed_1_2 := own_comes fun _ _ _ _ _ _ h hF => ⟨h.2.1, hF⟩
end Jvm.Pilot.@@N@@
namespace Jvm.Pilot.@@N@@
open Jvm Jvm.ClassFile Sem Op Lib Jvm.Free Jvm.Stand Jvm.Pilot.@@N@@.Jvm.D
/-! MADE BY PROGRAM (witnessworld.py) out of the Statement's table words and the real class files: 11 classes; the members and pool entries that the words name. The judged class is class 1, her method 1. -/
namespace start1
open Jvm.ClassFile
def u (s : String) : CpInfo := .utf8 (stringToUtf16 s)
/-- a pool by its gaps: so many unusable entries, then the entry; so many at the end -/
def gap : Nat → List CpInfo → List CpInfo
  | 0, r => r
  | n + 1, r => .unusable :: gap n r
def poolList (es : List (Nat × CpInfo)) (last : Nat) : List CpInfo := es.foldr (fun e r => gap e.1 (e.2 :: r)) (gap last [])
def pool (es : List (Nat × CpInfo)) (last : Nat) : Array CpInfo := ⟨poolList es last⟩
def fileOf (pool : Array CpInfo) (this : Nat) (attrs : Array Attribute := #[]) (ms : Array MethodInfo := #[]) (fl : Nat := 33) (sup : Nat := 0) (ifs : Array Nat := #[]) (fds : Array FieldInfo := #[]) : ClassFile where
  minorVersion := 0
  majorVersion := 65
  constantPool := pool
  accessFlags := fl
  thisClass := this
  superClass := sup
  interfaces := ifs
  fields := fds
  methods := ms
  attributes := attrs
def plain (name : String) (sup : Option ClassId) : Class where
  name := name
  kind := .ordinary
  loader := none
  accessFlags := 33
  super := sup
  interfaces := #[]
  cf := none
  fields := #[]
  methods := #[]
  instanceTypes := #[]
  staticTypes := #[]
  resolved := #[]
  callSites := []
  init := .initialized
  statics := none
  mirror := none

def pool0 : Array CpInfo := pool [(5, u "<init>"), (0, u "()V"), (1, .class_ 10), (1, u "java/lang/Object")] 113

def k0m0 : Method := { name := "<init>", desc := "()V", sig := { parameters := [], returnType := none }, accessFlags := 1, code := none }
/-- java/lang/Object -/
def k0 : Class := { plain "java/lang/Object" none with
  accessFlags := 33
  interfaces := #[]
  cf := some (fileOf pool0 8 #[] #[{ accessFlags := 1, nameIndex := 5, descriptorIndex := 6, attributes := #[] }] 33 0 #[] #[])
  fields := #[]
  methods := #[k0m0]
  instanceTypes := #[]
  staticTypes := #[]
  resolved := Array.replicate 124 none
  statics := none }

def pool1 : Array CpInfo := pool [(2, .class_ 4), (1, u "java/lang/Object"), (0, u "<init>"), (0, u "()V"), (0, .methodref 8 9), (0, .class_ 10), (0, .nameAndType 11 12), (0, u "com/example/rxrelay/rxrelay/protocol/gm/Sm2FieldSubtractPinLaw"), (0, u "build"), (0, u "(JJJ)[J"), (0, .methodref 8 14), (0, .nameAndType 15 16), (0, u "canonical"), (0, u "([J)Z"), (0, .long 3), (1, .methodref 20 21), (0, .class_ 22), (0, .nameAndType 23 24), (0, u "com/example/rxrelay/rxrelay/protocol/gm/Sm2Field"), (0, u "subtract"), (0, u "([J[J[J)V"), (0, .methodref 20 26), (0, .nameAndType 27 24), (0, u "add"), (0, .long 4503599627370495), (1, .long 281474976710655), (1, .long 4503599627370494), (1, .methodref 8 35), (0, .nameAndType 36 37), (0, u "pick"), (0, u "(IJJJ)J"), (0, .long 4486007441330175), (1, .long 281474976645118), (1, .long 281474976645119), (1, .methodref 8 45), (0, .nameAndType 46 16), (0, u "belowP"), (2, u "law"), (0, u "(JJJJJJ)Z")] 5

def k1m0 : Method := { name := "<init>", desc := "()V", sig := { parameters := [], returnType := none }, accessFlags := 2, code := none }
def k1c1 : Code := { maxStack := 6, maxLocals := 21, code := code, exceptionTable := #[], attributes := #[] }
def k1m1 : Method := { name := "law", desc := "(JJJJJJ)Z", sig := { parameters := [.long, .long, .long, .long, .long, .long], returnType := some .boolean }, accessFlags := 9, code := some k1c1 }
def k1c2 : Code := { maxStack := 9, maxLocals := 12, code := method_3_code, exceptionTable := #[], attributes := #[] }
def k1m2 : Method := { name := "build", desc := "(JJJ)[J", sig := { parameters := [.long, .long, .long], returnType := some (.array .long) }, accessFlags := 10, code := some k1c2 }
def k1c3 : Code := { maxStack := 2, maxLocals := 7, code := method_4_code, exceptionTable := #[], attributes := #[] }
def k1m3 : Method := { name := "pick", desc := "(IJJJ)J", sig := { parameters := [.int, .long, .long, .long], returnType := some .long }, accessFlags := 10, code := some k1c3 }
def k1c4 : Code := { maxStack := 4, maxLocals := 3, code := method_5_code, exceptionTable := #[], attributes := #[] }
def k1m4 : Method := { name := "canonical", desc := "([J)Z", sig := { parameters := [(.array .long)], returnType := some .boolean }, accessFlags := 10, code := some k1c4 }
def k1c5 : Code := { maxStack := 4, maxLocals := 7, code := method_6_code, exceptionTable := #[], attributes := #[] }
def k1m5 : Method := { name := "belowP", desc := "([J)Z", sig := { parameters := [(.array .long)], returnType := some .boolean }, accessFlags := 10, code := some k1c5 }
/-- com/example/rxrelay/rxrelay/protocol/gm/Sm2FieldSubtractPinLaw -/
def k1 : Class := { plain "com/example/rxrelay/rxrelay/protocol/gm/Sm2FieldSubtractPinLaw" (some 0) with
  accessFlags := 49
  interfaces := #[]
  cf := some (fileOf pool1 8 #[] #[{ accessFlags := 2, nameIndex := 5, descriptorIndex := 6, attributes := #[] }, { accessFlags := 9, nameIndex := 49, descriptorIndex := 50, attributes := #[] }, { accessFlags := 10, nameIndex := 11, descriptorIndex := 12, attributes := #[] }, { accessFlags := 10, nameIndex := 36, descriptorIndex := 37, attributes := #[] }, { accessFlags := 10, nameIndex := 15, descriptorIndex := 16, attributes := #[] }, { accessFlags := 10, nameIndex := 46, descriptorIndex := 16, attributes := #[] }] 49 2 #[] #[])
  fields := #[]
  methods := #[k1m0, k1m1, k1m2, k1m3, k1m4, k1m5]
  instanceTypes := #[]
  staticTypes := #[]
  resolved := Array.replicate 56 none
  statics := none }

def pool2 : Array CpInfo := pool [(1, .class_ 2), (0, u "com/example/rxrelay/rxrelay/protocol/gm/Sm2Field"), (1, .class_ 6), (1, u "java/lang/Object"), (0, u "<init>"), (0, u "()V"), (2, u "ONE"), (0, u "[J"), (11, u "MONTGOMERY_SQUARE"), (3, u "([J[J[J)V"), (6, u "PLAIN_ONE"), (5, u "Ljava/math/BigInteger;"), (10, u "add"), (7, .long 18446744073709551615), (1, .methodref 1 63), (0, .nameAndType 64 65), (0, u "reduceOnce"), (0, u "(JJJJJ[J)V"), (0, .long 4503599627370495), (1, .fieldref 1 69), (0, .nameAndType 70 12), (0, u "P_LIMBS"), (36, u "subtract"), (2, u "P"), (6, u "LIMBS"), (0, u "I"), (2, u "LIMB_BITS"), (1, u "MASK"), (0, u "J")] 14

def k2m0 : Method := { name := "<init>", desc := "()V", sig := { parameters := [], returnType := none }, accessFlags := 2, code := none }
def k2c1 : Code := { maxStack := 12, maxLocals := 3, code := prog_33_method_9_code, exceptionTable := #[], attributes := #[] }
def k2m1 : Method := { name := "add", desc := "([J[J[J)V", sig := { parameters := [(.array .long), (.array .long), (.array .long)], returnType := none }, accessFlags := 8, code := some k2c1 }
def k2c2 : Code := { maxStack := 6, maxLocals := 15, code := prog_33_method_10_code, exceptionTable := #[], attributes := #[] }
def k2m2 : Method := { name := "subtract", desc := "([J[J[J)V", sig := { parameters := [(.array .long), (.array .long), (.array .long)], returnType := none }, accessFlags := 8, code := some k2c2 }
def k2c3 : Code := { maxStack := 10, maxLocals := 23, code := prog_33_method_17_code, exceptionTable := #[], attributes := #[] }
def k2m3 : Method := { name := "reduceOnce", desc := "(JJJJJ[J)V", sig := { parameters := [.long, .long, .long, .long, .long, (.array .long)], returnType := none }, accessFlags := 10, code := some k2c3 }
/-- com/example/rxrelay/rxrelay/protocol/gm/Sm2Field -/
def k2 : Class := { plain "com/example/rxrelay/rxrelay/protocol/gm/Sm2Field" (some 0) with
  accessFlags := 48
  interfaces := #[]
  cf := some (fileOf pool2 1 #[] #[{ accessFlags := 2, nameIndex := 7, descriptorIndex := 8, attributes := #[] }, { accessFlags := 8, nameIndex := 52, descriptorIndex := 28, attributes := #[] }, { accessFlags := 8, nameIndex := 107, descriptorIndex := 28, attributes := #[] }, { accessFlags := 10, nameIndex := 64, descriptorIndex := 65, attributes := #[] }] 48 4 #[] #[{ accessFlags := 24, nameIndex := 117, descriptorIndex := 118, attributes := #[] }, { accessFlags := 26, nameIndex := 121, descriptorIndex := 118, attributes := #[] }, { accessFlags := 26, nameIndex := 123, descriptorIndex := 124, attributes := #[] }, { accessFlags := 24, nameIndex := 110, descriptorIndex := 41, attributes := #[] }, { accessFlags := 26, nameIndex := 70, descriptorIndex := 12, attributes := #[] }, { accessFlags := 26, nameIndex := 24, descriptorIndex := 12, attributes := #[] }, { accessFlags := 26, nameIndex := 35, descriptorIndex := 12, attributes := #[] }, { accessFlags := 26, nameIndex := 11, descriptorIndex := 12, attributes := #[] }])
  fields := #[{ name := "LIMBS", type := .int, accessFlags := 24, slot := 0, constantValue := 0 }, { name := "LIMB_BITS", type := .int, accessFlags := 26, slot := 1, constantValue := 0 }, { name := "MASK", type := .long, accessFlags := 26, slot := 2, constantValue := 0 }, { name := "P", type := (.object "java/math/BigInteger"), accessFlags := 24, slot := 3, constantValue := 0 }, { name := "P_LIMBS", type := (.array .long), accessFlags := 26, slot := 4, constantValue := 0 }, { name := "MONTGOMERY_SQUARE", type := (.array .long), accessFlags := 26, slot := 5, constantValue := 0 }, { name := "PLAIN_ONE", type := (.array .long), accessFlags := 26, slot := 6, constantValue := 0 }, { name := "ONE", type := (.array .long), accessFlags := 26, slot := 7, constantValue := 0 }]
  methods := #[k2m0, k2m1, k2m2, k2m3]
  instanceTypes := #[]
  staticTypes := #[.int, .int, .long, (.object "java/math/BigInteger"), (.array .long), (.array .long), (.array .long), (.array .long)]
  resolved := Array.replicate 139 none
  statics := some 0 }

def pool3 : Array CpInfo := pool [(1, u "java/lang/Cloneable"), (0, .class_ 1), (0, u "java/lang/Object"), (0, .class_ 3)] 3

/-- java/lang/Cloneable -/
def k3 : Class := { plain "java/lang/Cloneable" (some 0) with
  accessFlags := 1537
  interfaces := #[]
  cf := some (fileOf pool3 2 #[] #[] 1537 4 #[] #[])
  fields := #[]
  methods := #[]
  instanceTypes := #[]
  staticTypes := #[]
  resolved := Array.replicate 8 none
  statics := none }

def pool4 : Array CpInfo := pool [(1, u "java/io/Serializable"), (0, .class_ 1), (0, u "java/lang/Object"), (0, .class_ 3)] 3

/-- java/io/Serializable -/
def k4 : Class := { plain "java/io/Serializable" (some 0) with
  accessFlags := 1537
  interfaces := #[]
  cf := some (fileOf pool4 2 #[] #[] 1537 4 #[] #[])
  fields := #[]
  methods := #[]
  instanceTypes := #[]
  staticTypes := #[]
  resolved := Array.replicate 8 none
  statics := none }

/-- the primitive byte -/
def k5 : Class := { plain "byte" none with kind := .primitive 'B', accessFlags := 0x411 }
/-- [B -/
def k6 : Class := { plain "[B" (some 0) with kind := .array 5 .byte, interfaces := #[3, 4], accessFlags := 1041 }

/-- the primitive int -/
def k7 : Class := { plain "int" none with kind := .primitive 'I', accessFlags := 0x411 }
/-- [I -/
def k8 : Class := { plain "[I" (some 0) with kind := .array 7 .int, interfaces := #[3, 4], accessFlags := 1041 }

/-- the primitive long -/
def k9 : Class := { plain "long" none with kind := .primitive 'J', accessFlags := 0x411 }
/-- [J -/
def k10 : Class := { plain "[J" (some 0) with kind := .array 9 .long, interfaces := #[3, 4], accessFlags := 1041 }

def heap : Heap := #[{ cls := 2, slots := #[.int 0, .int 0, .long 0, .null, .ref 1, .null, .null, .null], vm := .statics 2 },
  { cls := 10, slots := #[.long 4503599627370495, .long 4486007441330175, .long 4503599627370495, .long 4503599627370495, .long 281474976645119], vm := .none }]
def classes : Array Class := #[k0, k1, k2, k3, k4, k5, k6, k7, k8, k9, k10]
def interned : List (Array UInt16 × Addr) := []
def slotsUsed : Nat := 13
def theMethod : MethodId := ⟨1, 1⟩
def args0 : Array Value := #[.long 5, .long 6, .long 7, .long 8, .long 9, .long 10]
def aboutOver (below : List Frame) : State where
  vm := { classes := classes, interned := interned.toArray }
  heap := heap
  slotsUsed := slotsUsed
  threads := #[{ frames := .invoking theMethod args0 :: below }]
def below0 : List Frame := [.native { method := ⟨0, 0⟩, args := #[] }]
def about1 : State := aboutOver below0
def p0 : Program := .bare "" "" ""
def e0 : Env := launch0.env 0 0 0
theorem w_frames : about1.frames = Frame.invoking theMethod args0 :: below0 := rfl
set_option maxRecDepth 65536 in
theorem w_args : argsFit about1.vm theMethod args0 = true := by decide +kernel
set_option maxRecDepth 65536 in
theorem w_heap : heapFits about1 = true := by decide +kernel
set_option maxRecDepth 65536 in
theorem w_runnable : about1.curStatus? = some .runnable := by decide +kernel
set_option maxRecDepth 65536 in
theorem w_alone : about1.alone = true := by decide +kernel
set_option maxRecDepth 65536 in
theorem w_named : about1.methodNamed? x = some theMethod := by decide +kernel
set_option maxRecDepth 65536 in
theorem w_hears : about1.hears theMethod below0 = true := by decide +kernel
set_option maxRecDepth 65536 in
theorem w_ripe : about1.ripe theMethod args0 below0 = true := by decide +kernel
theorem w_running : about1.status = .running := rfl
set_option maxRecDepth 65536 in
theorem w_room : about1.hasRoom e0.platform room_1 = true :=
  launch0.hasRoom_least _ room_1 (by decide +kernel) (by decide +kernel) (by decide +kernel) (by decide +kernel) (by decide +kernel) (by decide +kernel)
theorem allAtoms_all (ts : List Jvm.Cond) (a : Array Jvm.Value) (st : Jvm.State) : (allAtoms ts).before a st = ts.all (fun c => c.before a st) := by
  induction ts with
  | nil => rfl
  | cons c t ih =>
    show (Jvm.Cond.and c (allAtoms t)).before a st = _
    rw [Jvm.Cond.before_and, ih, List.all_cons]
def words1 : List Jvm.Cond := Jvm.Cond.code x code maxLocals ret :: tables_1
/-- a 'code' word, met by the world's own term for the bytes: nothing is compared byte by byte -/
theorem code_word {y : MethodName} {bytes : ByteArray} {mx : Nat} {rt : Option FieldType} {a : Array Value} {s : State} {m : MethodId} {meth : Method} {c : Code} (h1 : s.methodNamed? y = some m) (h2 : s.vm.method? m = some meth) (h3 : meth.code = some c) (h4 : c.code = bytes)
    (h5 : (c.maxLocals == mx && c.exceptionTable.isEmpty && decide (c.maxStack ≤ mostOperands) && decide (meth.sig.returnType = rt) && !meth.locks && decide (parseMethodDescriptor y.desc = some meth.sig)) = true) : (Jvm.Cond.code y bytes mx rt).before a s = true := by
  simp only [Bool.and_eq_true, beq_iff_eq, Bool.not_eq_true', decide_eq_true_eq] at h5
  obtain ⟨⟨⟨⟨⟨g1, g2⟩, g3⟩, g4⟩, g5⟩, g6⟩ := h5
  simp [Cond.before, Cond.holds, Cond.value, h1, h2, h3, h4, g1, g2, g3, g4, g5, g6]
def isCode : Jvm.Cond → Bool
  | .code _ _ _ _ => true
  | _ => false
theorem all_split {L : List Jvm.Cond} {P : Jvm.Cond → Bool} (h1 : L.all (fun c => isCode c || P c) = true) (h2 : ∀ c ∈ L.filter isCode, P c = true) : L.all P = true := by
  refine List.all_eq_true.mpr fun c hc => ?_
  have h := List.all_eq_true.mp h1 c hc
  rcases Bool.eq_false_or_eq_true (isCode c) with hi | hi
  · exact h2 c (List.mem_filter.mpr ⟨hc, hi⟩)
  · simpa [hi] using h
set_option maxRecDepth 65536 in
theorem w_c0 : (Jvm.Cond.code x code maxLocals ret).before args0 about1 = true := code_word (m := ⟨1, 1⟩) (meth := k1m1) (c := k1c1) (by decide +kernel) rfl rfl rfl (by decide +kernel)
set_option maxRecDepth 65536 in
theorem w_c1 : (Jvm.Cond.code ({ cls := "com/example/rxrelay/rxrelay/protocol/gm/Sm2FieldSubtractPinLaw", name := "build", desc := "(JJJ)[J" } : Jvm.MethodName) method_3_code (12 : Nat) (Option.some (Jvm.ClassFile.FieldType.array Jvm.ClassFile.FieldType.long))).before args0 about1 = true := code_word (m := ⟨1, 2⟩) (meth := k1m2) (c := k1c2) (by decide +kernel) rfl rfl rfl (by decide +kernel)
set_option maxRecDepth 65536 in
theorem w_c2 : (Jvm.Cond.code ({ cls := "com/example/rxrelay/rxrelay/protocol/gm/Sm2FieldSubtractPinLaw", name := "pick", desc := "(IJJJ)J" } : Jvm.MethodName) method_4_code (7 : Nat) (Option.some Jvm.ClassFile.FieldType.long)).before args0 about1 = true := code_word (m := ⟨1, 3⟩) (meth := k1m3) (c := k1c3) (by decide +kernel) rfl rfl rfl (by decide +kernel)
set_option maxRecDepth 65536 in
theorem w_c3 : (Jvm.Cond.code ({ cls := "com/example/rxrelay/rxrelay/protocol/gm/Sm2FieldSubtractPinLaw", name := "canonical", desc := "([J)Z" } : Jvm.MethodName) method_5_code (3 : Nat) (Option.some Jvm.ClassFile.FieldType.boolean)).before args0 about1 = true := code_word (m := ⟨1, 4⟩) (meth := k1m4) (c := k1c4) (by decide +kernel) rfl rfl rfl (by decide +kernel)
set_option maxRecDepth 65536 in
theorem w_c4 : (Jvm.Cond.code ({ cls := "com/example/rxrelay/rxrelay/protocol/gm/Sm2FieldSubtractPinLaw", name := "belowP", desc := "([J)Z" } : Jvm.MethodName) method_6_code (7 : Nat) (Option.some Jvm.ClassFile.FieldType.boolean)).before args0 about1 = true := code_word (m := ⟨1, 5⟩) (meth := k1m5) (c := k1c5) (by decide +kernel) rfl rfl rfl (by decide +kernel)
set_option maxRecDepth 65536 in
theorem w_c5 : (Jvm.Cond.code ({ cls := "com/example/rxrelay/rxrelay/protocol/gm/Sm2Field", name := "subtract", desc := "([J[J[J)V" } : Jvm.MethodName) prog_33_method_10_code (15 : Nat) (Option.none : Option Jvm.ClassFile.FieldType)).before args0 about1 = true := code_word (m := ⟨2, 2⟩) (meth := k2m2) (c := k2c2) (by decide +kernel) rfl rfl rfl (by decide +kernel)
set_option maxRecDepth 65536 in
theorem w_c6 : (Jvm.Cond.code ({ cls := "com/example/rxrelay/rxrelay/protocol/gm/Sm2Field", name := "add", desc := "([J[J[J)V" } : Jvm.MethodName) prog_33_method_9_code (3 : Nat) (Option.none : Option Jvm.ClassFile.FieldType)).before args0 about1 = true := code_word (m := ⟨2, 1⟩) (meth := k2m1) (c := k2c1) (by decide +kernel) rfl rfl rfl (by decide +kernel)
set_option maxRecDepth 65536 in
theorem w_c7 : (Jvm.Cond.code ({ cls := "com/example/rxrelay/rxrelay/protocol/gm/Sm2Field", name := "reduceOnce", desc := "(JJJJJ[J)V" } : Jvm.MethodName) prog_33_method_17_code (23 : Nat) (Option.none : Option Jvm.ClassFile.FieldType)).before args0 about1 = true := code_word (m := ⟨2, 3⟩) (meth := k2m3) (c := k2c3) (by decide +kernel) rfl rfl rfl (by decide +kernel)
def codes1 : List Jvm.Cond := [Jvm.Cond.code x code maxLocals ret, Jvm.Cond.code ({ cls := "com/example/rxrelay/rxrelay/protocol/gm/Sm2FieldSubtractPinLaw", name := "build", desc := "(JJJ)[J" } : Jvm.MethodName) method_3_code (12 : Nat) (Option.some (Jvm.ClassFile.FieldType.array Jvm.ClassFile.FieldType.long)), Jvm.Cond.code ({ cls := "com/example/rxrelay/rxrelay/protocol/gm/Sm2FieldSubtractPinLaw", name := "pick", desc := "(IJJJ)J" } : Jvm.MethodName) method_4_code (7 : Nat) (Option.some Jvm.ClassFile.FieldType.long), Jvm.Cond.code ({ cls := "com/example/rxrelay/rxrelay/protocol/gm/Sm2FieldSubtractPinLaw", name := "canonical", desc := "([J)Z" } : Jvm.MethodName) method_5_code (3 : Nat) (Option.some Jvm.ClassFile.FieldType.boolean), Jvm.Cond.code ({ cls := "com/example/rxrelay/rxrelay/protocol/gm/Sm2FieldSubtractPinLaw", name := "belowP", desc := "([J)Z" } : Jvm.MethodName) method_6_code (7 : Nat) (Option.some Jvm.ClassFile.FieldType.boolean), Jvm.Cond.code ({ cls := "com/example/rxrelay/rxrelay/protocol/gm/Sm2Field", name := "subtract", desc := "([J[J[J)V" } : Jvm.MethodName) prog_33_method_10_code (15 : Nat) (Option.none : Option Jvm.ClassFile.FieldType), Jvm.Cond.code ({ cls := "com/example/rxrelay/rxrelay/protocol/gm/Sm2Field", name := "add", desc := "([J[J[J)V" } : Jvm.MethodName) prog_33_method_9_code (3 : Nat) (Option.none : Option Jvm.ClassFile.FieldType), Jvm.Cond.code ({ cls := "com/example/rxrelay/rxrelay/protocol/gm/Sm2Field", name := "reduceOnce", desc := "(JJJJJ[J)V" } : Jvm.MethodName) prog_33_method_17_code (23 : Nat) (Option.none : Option Jvm.ClassFile.FieldType)]
set_option maxRecDepth 65536 in
theorem codes_eq : words1.filter isCode = codes1 := rfl
theorem w_codes : ∀ c ∈ words1.filter isCode, c.before args0 about1 = true := by
  rw [codes_eq]
  intro c hc
  simp only [codes1, List.mem_cons, List.not_mem_nil, or_false] at hc
  rcases hc with rfl | rfl | rfl | rfl | rfl | rfl | rfl | rfl
  · exact w_c0
  · exact w_c1
  · exact w_c2
  · exact w_c3
  · exact w_c4
  · exact w_c5
  · exact w_c6
  · exact w_c7
set_option maxRecDepth 65536 in
theorem w_t1 : (words1.take 24).all (fun c => isCode c || c.before args0 about1) = true := by decide +kernel
set_option maxRecDepth 65536 in
theorem w_t2 : (words1.drop 24).all (fun c => isCode c || c.before args0 about1) = true := by decide +kernel
theorem w_tables : (allAtoms (Jvm.Cond.code x code maxLocals ret :: tables_1)).before args0 about1 = true := by
  rw [allAtoms_all]
  show words1.all (fun c => c.before args0 about1) = true
  refine all_split ?_ w_codes
  rw [← List.take_append_drop 24 words1, List.all_append, w_t1, w_t2]
  rfl
set_option maxRecDepth 65536 in
theorem w_case : (Jvm.Cond.and given_1 narrow_1).before args0 about1 = true := by decide +kernel
theorem w_applies : (headSpec (Jvm.Cond.code x code maxLocals ret :: tables_1) room_1).applies x e0.platform about1 = true :=
  (Spec.applies_iff w_frames).mpr ⟨w_running, w_runnable, w_alone, w_named, w_hears, w_ripe, w_room, w_tables⟩
theorem atStart : AtStart classFile x code maxLocals ret World_1 tables_1 room_1 Calls_1 rest_1 Pre_1 launch0 p0 e0 about1 theMethod args0 below0 :=
  ⟨lists_1, trivial, launch0.admits_env _ _ _, launch0.least_env, fairChoices_fair.cas, fairChoices_fair.clock, w_frames, w_args, w_heap, w_applies, trivial, trivial, w_case⟩
end start1
theorem witness_1 : WitnessClaimed_1 := ⟨start1.p0, start1.e0, start1.about1, start1.theMethod, start1.args0, start1.below0, start1.atStart⟩
end Jvm.Pilot.@@N@@
