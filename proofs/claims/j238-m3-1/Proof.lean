import JvmDerived
import JvmDerived.Pilot.@@N@@Statement
import JvmDerived.Pilot.@@N@@Code
set_option linter.unusedVariables false
set_option linter.unusedSimpArgs false
@@BLOCK:NumsL.lean.txt@@
namespace Jvm.RoadKit
open Sem ClassFile Op Lib Jvm.Stand Jvm.Free Jvm.LawKit
section New
variable {p : Program} {l : Launch} {e : Env} {R : Room} {s : State} {m : MethodId} {args : Array Value} {below : List Frame} {meth : Method} {c : Code} {T : State} {locs : List Loc} {cells slots : Nat}
theorem retI (X : Stand p l e R s m args below meth c T locs cells slots) (hx : p.tables.exec = Jvm.exec) {pc : Nat} {Ls : Array Slot} {z : Int32} {rest : List Value} (hret : meth.sig.returnType = some .int) (hd : decode c.code pc = .ok (.ireturn, 1)) {fs : List Frame}
    (hl : ∀ (f : JFrame) (acts : List Action), f.method = m → f.locked = none → f.entered = [] → (doReturn e (T.setTop f) acts (some (.int z))).1 = T.setFrames fs) : Steps p.tables e below (T.setTop (mkF m pc Ls (.int z :: rest))) (T.setFrames fs) := by
  have hm' : T.vm.method? m = some meth := X.method'
  have hn : narrow .int (.int z) = .int z := rfl
  show Steps p.tables e below (T.setTop { method := m, pc := pc, locals := Ls, stack := _ :: rest, locked := none }) _
  jvm_step X.here [X.here.top, hx, hd, hm', hret, hn]
  first | (intro acts; rw [hl _ acts rfl rfl rfl]) | rw [hl _ _ rfl rfl rfl]
  exact Steps.refl _
end New
end Jvm.RoadKit
namespace Jvm.Pilot.@@N@@
open Jvm Jvm.ClassFile Sem Op Lib Jvm.Free Jvm.Stand Jvm.LawKit Jvm.RoadKit Bundle Jvm.Pilot.@@N@@.Jvm.D
/-! own: Java's shifts and remainders, written short -/
def own_shl (x y : Int32) : Int32 := x <<< (y &&& 31)
def own_shr (x y : Int32) : Int32 := x >>> (y &&& 31)
def own_ushr (x y : Int32) : Int32 := (x.toUInt32 >>> (y &&& 31).toUInt32).toInt32
def own_shlL (x : Int64) (y : Int32) : Int64 := x <<< (y &&& 0x3f).toInt64
def own_shrL (x : Int64) (y : Int32) : Int64 := x >>> (y &&& 0x3f).toInt64
def own_ushrL (x : Int64) (y : Int32) : Int64 := (x.toUInt64 >>> (y &&& 0x3f).toInt64.toUInt64).toInt64
def own_rem (x y : Int32) : Int32 := x - (x / y) * y
def own_remL (x y : Int64) : Int64 := x - (x / y) * y
theorem own_rem_nn {x y : Int32} (hx : 0 ≤ x.toInt) (hy : 0 < y.toInt) : (own_rem x y).toInt = x.toInt % y.toInt := by
  have hd : (x / y).toInt = x.toInt / y.toInt := by
    rw [Jvm.Kit.i32_div (by omega), Int.tdiv_eq_ediv_of_nonneg hx]
  have b1 := Int.emod_add_mul_ediv x.toInt y.toInt
  have b2 := Int.emod_nonneg x.toInt (by omega : y.toInt ≠ 0)
  have b3 := Int.emod_lt_of_pos x.toInt hy
  have b4 : 0 ≤ x.toInt / y.toInt := Int.ediv_nonneg hx (by omega)
  have hX := Int32.toInt_lt x
  have b5 : 0 ≤ y.toInt * (x.toInt / y.toInt) := Int.mul_nonneg (by omega) b4
  have hm : ((x / y) * y).toInt = y.toInt * (x.toInt / y.toInt) := by
    rw [Jvm.Kit.i32_mul (by rw [hd, Int.mul_comm]; omega) (by rw [hd, Int.mul_comm]; omega), hd, Int.mul_comm]
  unfold own_rem
  rw [Jvm.Kit.i32_sub (by rw [hm]; omega) (by rw [hm]; omega), hm]; omega
/-! own: a run from a frame to what 'Post' says -/
section OwnRun
variable {p : Program} {l : Launch} {e : Env} {R : Room} {s : State} {m : MethodId} {args : Array Value} {below : List Frame} {meth : Method} {c : Code} {T T' : State} {locs : List Loc} {cells slots : Nat} {g g' : JFrame} {Post : State → Prop} {n0 : Nat} {P : Heap → Prop} {C S : Nat} {Z : State} {h : Heap} {a : Addr} {k : ClassId} {n j : Int32} {vs : List Value} {d v : Value} {E : State → Outcome → State → List Loc → Nat → Nat → Prop}
def own_Run (p : Program) (e : Env) (below : List Frame) (T : State) (g : JFrame) (Post : State → Prop) : Prop := ∃ t, Steps p.tables e below (T.setTop g) t ∧ Post t
theorem own_step (st : ∀ t, Steps p.tables e below (T'.setTop g') t → Steps p.tables e below (T.setTop g) t) (h : own_Run p e below T' g' Post) : own_Run p e below T g Post := h.imp fun t k => ⟨st t k.1, k.2⟩
theorem own_tr (st : Steps p.tables e below (T.setTop g) (T'.setTop g')) (h : own_Run p e below T' g' Post) : own_Run p e below T g Post := h.imp fun t k => ⟨st.trans k.1, k.2⟩
theorem own_here (h : Post (T.setTop g)) : own_Run p e below T g Post := ⟨_, Steps.refl _, h⟩
theorem own_entry {Q : State → Prop} (q : g = g') (h : own_Run p e below T g' Q) : own_Run p e below T g Q := q ▸ h
def own_Q (n0 : Nat) (P : Heap → Prop) (w : Option Value) : Option Value → Heap → List Loc → Prop := fun v h L => v = w ∧ Fr n0 L ∧ P h
def own_Ret (E : State → Outcome → State → List Loc → Nat → Nat → Prop) (U : State) (below : List Frame) (C S : Nat) (Q : Option Value → Heap → List Loc → Prop) : State → Prop := fun t => t.status = .running ∧ ∃ o, Ended t below o ∧ ∃ v L, o = .returned v ∧ Q v t.heap L ∧ E U o t L C S
theorem own_fin {Q : Option Value → Heap → List Loc → Prop} (h : own_Run p e below T g (own_Ret E s below C S Q)) : ∃ s₂ o, Steps p.tables e below (T.setTop g) s₂ ∧ s₂.status = .running ∧ Ended s₂ below o ∧ ∃ v L, o = .returned v ∧ Q v s₂.heap L ∧ E s o s₂ L C S := by
  obtain ⟨t, st, hr, o, he, r⟩ := h; exact ⟨t, o, st, hr, he, r⟩
theorem own_vi {x y : Int32} (q : x = y) (h : own_Run p e below T g (own_Ret E s below C S (own_Q n0 P (some (.int y))))) : own_Run p e below T g (own_Ret E s below C S (own_Q n0 P (some (.int x)))) := q ▸ h
theorem own_vj {x y : Int64} (q : x = y) (h : own_Run p e below T g (own_Ret E s below C S (own_Q n0 P (some (.long y))))) : own_Run p e below T g (own_Ret E s below C S (own_Q n0 P (some (.long x)))) := q ▸ h
theorem own_leave {w : Option Value} (X : Stand p l e R s m args below meth c T locs cells slots) (hv : meth.sig.returnType = none → w = none) (hlk : meth.locks = false) (hC : cells ≤ C) (hS : slots ≤ S) (N : Fr n0 locs) (hP : P T.heap)
    (st : ∀ fs, (∀ (f : JFrame) (acts : List Action), f.method = m → f.locked = none → f.entered = [] → (doReturn e (T.setTop f) acts w).1 = T.setFrames fs) → Steps p.tables e below (T.setTop g) (T.setFrames fs)) : own_Run p e below T g (own_Ret FrameEnd s below C S (own_Q n0 P w)) := by
  obtain ⟨fs, hr, hrun, hended, hW, hsame⟩ := X.leave (v := w) hv hlk
  exact ⟨_, st fs hr, hrun, _, hended, _, _, rfl, ⟨rfl, N, hP⟩, ⟨_, rfl⟩, hW, hsame.mono hC hS⟩
theorem own_retZ (X : Stand p l e R s m args below meth c T locs cells slots) (hx : p.tables.exec = Jvm.exec) (hlk : meth.locks = false) {pc : Nat} {Ls : Array Slot} {z : Int32} {rest : List Value} (hret : meth.sig.returnType = some .boolean) (hd : decode c.code pc = .ok (.ireturn, 1)) (hC : cells ≤ C) (hS : slots ≤ S) (N : Fr n0 locs) (hP : P T.heap) :
    own_Run p e below T (mkF m pc Ls (.int z :: rest)) (own_Ret FrameEnd s below C S (own_Q n0 P (some (.int (nar .boolean z))))) :=
  own_leave X (fun q => by rw [hret] at q; cases q) hlk hC hS N hP fun fs hr => retN X hx (t := .boolean) hret (by simp) hd hr
theorem own_retI (X : Stand p l e R s m args below meth c T locs cells slots) (hx : p.tables.exec = Jvm.exec) (hlk : meth.locks = false) {pc : Nat} {Ls : Array Slot} {z : Int32} {rest : List Value} (hret : meth.sig.returnType = some .int) (hd : decode c.code pc = .ok (.ireturn, 1)) (hC : cells ≤ C) (hS : slots ≤ S) (N : Fr n0 locs) (hP : P T.heap) :
    own_Run p e below T (mkF m pc Ls (.int z :: rest)) (own_Ret FrameEnd s below C S (own_Q n0 P (some (.int z)))) :=
  own_leave X (fun q => by rw [hret] at q; cases q) hlk hC hS N hP fun fs hr => retI X hx hret hd hr
theorem own_retJ (X : Stand p l e R s m args below meth c T locs cells slots) (hx : p.tables.exec = Jvm.exec) (hlk : meth.locks = false) {pc : Nat} {Ls : Array Slot} {z : Int64} (hret : meth.sig.returnType = some .long) (hd : decode c.code pc = .ok (.lreturn, 1)) (hC : cells ≤ C) (hS : slots ≤ S) (N : Fr n0 locs) (hP : P T.heap) :
    own_Run p e below T (mkF m pc Ls [.long z]) (own_Ret FrameEnd s below C S (own_Q n0 P (some (.long z)))) :=
  own_leave X (fun q => by rw [hret] at q; cases q) hlk hC hS N hP fun fs hr => X.lreturnOut hx hret hd hr
theorem own_retD (X : Stand p l e R s m args below meth c T locs cells slots) (hx : p.tables.exec = Jvm.exec) (hlk : meth.locks = false) {pc : Nat} {Ls : Array Slot} {z : UInt64} {rest : List Value} (hret : meth.sig.returnType = some .double) (hd : decode c.code pc = .ok (.dreturn, 1)) (hC : cells ≤ C) (hS : slots ≤ S) (N : Fr n0 locs) (hP : P T.heap) :
    own_Run p e below T (mkF m pc Ls (.double z :: rest)) (own_Ret FrameEnd s below C S (own_Q n0 P (some (.double z)))) :=
  own_leave X (fun q => by rw [hret] at q; cases q) hlk hC hS N hP fun fs hr => retOut X hx (i := .dreturn) hret rfl (Or.inr (Or.inr (Or.inl ⟨rfl, rfl, z, rfl⟩))) hd hr
theorem own_retV (X : Stand p l e R s m args below meth c T locs cells slots) (hx : p.tables.exec = Jvm.exec) (hlk : meth.locks = false) {pc : Nat} {Ls : Array Slot} (hret : meth.sig.returnType = none) (hd : decode c.code pc = .ok (.return_, 1)) (hC : cells ≤ C) (hS : slots ≤ S) (N : Fr n0 locs) (hP : P T.heap) :
    own_Run p e below T (mkF m pc Ls []) (own_Ret FrameEnd s below C S (own_Q n0 P none)) :=
  own_leave X (fun _ => rfl) hlk hC hS N hP fun fs hr => X.returnOut hx hret hd hr
theorem own_retA (X : Stand p l e R s m args below meth c T locs cells slots) (hx : p.tables.exec = Jvm.exec) (hlk : meth.locks = false) {pc : Nat} {Ls : Array Slot} {w : Value} {t : FieldType} (hret : meth.sig.returnType = some t) (ht : t.isReference = true) (hw : w.isRef = true) (hd : decode c.code pc = .ok (.areturn, 1)) (hC : cells ≤ C) (hS : slots ≤ S) (N : Fr n0 locs) (hP : P T.heap) :
    own_Run p e below T (mkF m pc Ls [w]) (own_Ret FrameEnd s below C S (own_Q n0 P (some w))) :=
  own_leave X (fun q => by rw [hret] at q; cases q) hlk hC hS N hP fun fs hr => X.areturnOut hx hw hret ht hd hr
/-! own: the same where the walk may have loaded a String constant (the tables may hold a new pair) -/
theorem own_mixW {U t : State} {o : Outcome} {L : List Loc} {k n k' n' : Nat} (h : ReturnedEndW U o t L k n) (hk : k ≤ k') (hn : n ≤ n') : ReturnedEndW U o t L k' n' := ⟨h.1, h.2.1, h.2.2.1, h.2.2.2.mono hk hn⟩
theorem own_leaveW {vm₁ : Vm} {n : Nat} {w : Option Value} (X : Stand p l e R (s.setVm vm₁) m args below meth c T locs cells slots) (hS : s.Since vm₁ n) (hn : n ≤ T.heap.size) (hv : meth.sig.returnType = none → w = none) (hlk : meth.locks = false) (hC : cells ≤ C) (hSl : slots ≤ S) (N : Fr n0 locs) (hP : P T.heap)
    (st : ∀ fs, (∀ (f : JFrame) (acts : List Action), f.method = m → f.locked = none → f.entered = [] → (doReturn e (T.setTop f) acts w).1 = T.setFrames fs) → Steps p.tables e below (T.setTop g) (T.setFrames fs)) : own_Run p e below T g (own_Ret ReturnedEndW s below C S (own_Q n0 P w)) := by
  obtain ⟨fs, hr, hrun, hended, hW⟩ := X.leaveW hS hn (v := w) hv hlk
  exact ⟨_, st fs hr, hrun, _, hended, _, _, rfl, ⟨rfl, N, hP⟩, own_mixW hW hC hSl⟩
theorem own_retZW {vm₁ : Vm} {n : Nat} (X : Stand p l e R (s.setVm vm₁) m args below meth c T locs cells slots) (hx : p.tables.exec = Jvm.exec) (hlk : meth.locks = false) {pc : Nat} {Ls : Array Slot} {z : Int32} {rest : List Value} (hret : meth.sig.returnType = some .boolean) (hd : decode c.code pc = .ok (.ireturn, 1)) (hC : cells ≤ C) (hSl : slots ≤ S) (N : Fr n0 locs) (hP : P T.heap) (hS : s.Since vm₁ n) (hn : n ≤ T.heap.size) :
    own_Run p e below T (mkF m pc Ls (.int z :: rest)) (own_Ret ReturnedEndW s below C S (own_Q n0 P (some (.int (nar .boolean z))))) :=
  own_leaveW X hS hn (fun q => by rw [hret] at q; cases q) hlk hC hSl N hP fun fs hr => retN X hx (t := .boolean) hret (by simp) hd hr
theorem own_retVW {vm₁ : Vm} {n : Nat} (X : Stand p l e R (s.setVm vm₁) m args below meth c T locs cells slots) (hx : p.tables.exec = Jvm.exec) (hlk : meth.locks = false) {pc : Nat} {Ls : Array Slot} (hret : meth.sig.returnType = none) (hd : decode c.code pc = .ok (.return_, 1)) (hC : cells ≤ C) (hSl : slots ≤ S) (N : Fr n0 locs) (hP : P T.heap) (hS : s.Since vm₁ n) (hn : n ≤ T.heap.size) :
    own_Run p e below T (mkF m pc Ls []) (own_Ret ReturnedEndW s below C S (own_Q n0 P none)) :=
  own_leaveW X hS hn (fun _ => rfl) hlk hC hSl N hP fun fs hr => X.returnOut hx hret hd hr
/-- no static's home -/
def own_Pl (h : Heap) (a : Addr) : Prop := ∃ c : Cell, h[a]? = some c ∧ c.vm.isStatics = false
theorem own_plV {ty : FieldType} (F : Arv Z h a k ty n vs d) : own_Pl h a := by obtain ⟨c, A, -⟩ := F; exact ⟨c, A.1, A.plain⟩
theorem own_plE {Cn : String} (F : Exa Z h a Cn) : own_Pl h a := by obtain ⟨c, kk, h1, -, -, h4, -⟩ := F; exact ⟨c, h1, h4⟩
theorem own_keepS {h' : Heap} {ws : List Addr} {Cn fn dn : String} (F : Sta Z h Cn fn dn v) (K : Keep h h' ws) (A : ∀ a ∈ ws, own_Pl h a) : Sta Z h' Cn fn dn v := by
  obtain ⟨cf, i, kk, f, st, cell, h1, h2, h3, h4, h5, h6, h7⟩ := F
  refine ⟨cf, i, kk, f, st, cell, h1, h2, h3, h4, K.2.1 st cell h5 (fun hm => ?_), h6, h7⟩
  obtain ⟨c, q1, q2⟩ := A st hm
  cases h5.symm.trans q1; rw [q2] at h6; cases h6
/-! own: an array's component, by its Arv -/
theorem own_ldI (X : Stand p l e R s m args below meth c T locs cells slots) (hx : p.tables.exec = Jvm.exec) (hZ : Z.Warmed39 s.vm) (eT : T.heap = h) (F : Arv Z h a k .int n vs d) (q : ¬ j < 0 ∧ j < n) (u : vs.getD j.toNatClampNeg d = v) (hg : g.method = m) {rest : List Value} (hs : g.stack = .int j :: .ref a :: rest) (hd : decode c.code g.pc = .ok (.iaload, 1)) :
    ∀ t, Steps p.tables e below (T.setTop { g with pc := g.pc + 1, stack := v :: rest }) t → Steps p.tables e below (T.setTop g) t := by
  obtain ⟨cl, Ar, -, Sz, -, Hs, -⟩ := F
  exact fun t kt => X.iaload hx (by rw [eT]; exact Ar.1) (State.isArrayOf_alike hZ.alike Ar.2.1) Ar.2.2 (inb_of Sz q) (Hs.at (inb_of Sz q) u) hg hs hd t kt
theorem own_ldJ (X : Stand p l e R s m args below meth c T locs cells slots) (hx : p.tables.exec = Jvm.exec) (hZ : Z.Warmed39 s.vm) (eT : T.heap = h) (F : Arv Z h a k .long n vs d) (q : ¬ j < 0 ∧ j < n) (u : vs.getD j.toNatClampNeg d = v) (hg : g.method = m) {rest : List Value} (hs : g.stack = .int j :: .ref a :: rest) (hd : decode c.code g.pc = .ok (.laload, 1)) :
    ∀ t, Steps p.tables e below (T.setTop { g with pc := g.pc + 1, stack := v :: rest }) t → Steps p.tables e below (T.setTop g) t := by
  obtain ⟨cl, Ar, -, Sz, -, Hs, -⟩ := F
  exact fun t kt => X.laload hx (by rw [eT]; exact Ar.1) (State.isArrayOf_alike hZ.alike Ar.2.1) Ar.2.2 (inb_of Sz q) (Hs.at (inb_of Sz q) u) hg hs hd t kt
theorem own_ldB (X : Stand p l e R s m args below meth c T locs cells slots) (hx : p.tables.exec = Jvm.exec) (hZ : Z.Warmed39 s.vm) (eT : T.heap = h) (F : Arv Z h a k .byte n vs d) (q : ¬ j < 0 ∧ j < n) (u : vs.getD j.toNatClampNeg d = v) (hg : g.method = m) {rest : List Value} (hs : g.stack = .int j :: .ref a :: rest) (hd : decode c.code g.pc = .ok (.baload, 1)) :
    ∀ t, Steps p.tables e below (T.setTop { g with pc := g.pc + 1, stack := v :: rest }) t → Steps p.tables e below (T.setTop g) t := by
  obtain ⟨cl, Ar, -, Sz, -, Hs, -⟩ := F
  exact fun t kt => X.baloadBytes hx (by rw [eT]; exact Ar.1) (State.isArrayOf_alike hZ.alike Ar.2.1) Ar.2.2 (inb_of Sz q) (Hs.at (inb_of Sz q) u) hg hs hd t kt
theorem own_len (X : Stand p l e R s m args below meth c T locs cells slots) (hx : p.tables.exec = Jvm.exec) (hZ : Z.Warmed39 s.vm) (eT : T.heap = h) {ty : FieldType} (F : Arv Z h a k ty n vs d) (hg : g.method = m) {rest : List Value} (hs : g.stack = .ref a :: rest) (hd : decode c.code g.pc = .ok (.arraylength, 1)) :
    ∀ t, Steps p.tables e below (T.setTop { g with pc := g.pc + 1, stack := .int n :: rest }) t → Steps p.tables e below (T.setTop g) t := by
  obtain ⟨cl, Ar, -, Sz, Ng, -, -⟩ := F
  intro t kt
  refine X.arraylength hx (by rw [eT]; exact Ar.1) (State.isArrayOf_alike hZ.alike Ar.2.1) hg hs hd t ?_
  rw [len_of Sz Ng]; exact kt
theorem own_stI (X : Stand p l e R s m args below meth c T locs cells slots) (hx : p.tables.exec = Jvm.exec) (hZ : Z.Warmed39 s.vm) (eT : T.heap = h) (F : Arv Z h a k .int n vs d) (N : Fr n0 locs) (ge : n0 ≤ a) {x : Int32} (q : ¬ j < 0 ∧ j < n) (i : Nat) (hi : j.toNatClampNeg = i) (hl : i < vs.length) (hg : g.method = m) {rest : List Value} (hs : g.stack = .int x :: .int j :: .ref a :: rest) (hd : decode c.code g.pc = .ok (.iastore, 1)) :
    ∃ T' h' L, Stand p l e R s m args below meth c T' L cells slots ∧ T'.heap = h' ∧ Fr n0 L ∧ Wr h h' a j.toNatClampNeg (.int x) ∧ Arv Z h' a k .int n (vs.set i (.int x)) d ∧ ∀ t, Steps p.tables e below (T'.setTop { g with pc := g.pc + 1, stack := rest }) t → Steps p.tables e below (T.setTop g) t := by
  obtain ⟨cl, Ar, q1, Sz, Ng, Hs, Gs⟩ := F
  obtain ⟨T', h', X', e', W, st⟩ := stI X hx hZ eT Ar (j := j) (x := x) (inb_of Sz q) hg hs hd
  exact ⟨T', h', _, X', e', Fr.snoc X' N ge, W, Arv.set Ar q1 Sz Ng Hs Gs rfl W i hi hl, st⟩
theorem own_stJ (X : Stand p l e R s m args below meth c T locs cells slots) (hx : p.tables.exec = Jvm.exec) (hZ : Z.Warmed39 s.vm) (eT : T.heap = h) (F : Arv Z h a k .long n vs d) (N : Fr n0 locs) (ge : n0 ≤ a) {x : Int64} (q : ¬ j < 0 ∧ j < n) (i : Nat) (hi : j.toNatClampNeg = i) (hl : i < vs.length) (hg : g.method = m) {rest : List Value} (hs : g.stack = .long x :: .int j :: .ref a :: rest) (hd : decode c.code g.pc = .ok (.lastore, 1)) :
    ∃ T' h' L, Stand p l e R s m args below meth c T' L cells slots ∧ T'.heap = h' ∧ Fr n0 L ∧ Wr h h' a j.toNatClampNeg (.long x) ∧ Arv Z h' a k .long n (vs.set i (.long x)) d ∧ ∀ t, Steps p.tables e below (T'.setTop { g with pc := g.pc + 1, stack := rest }) t → Steps p.tables e below (T.setTop g) t := by
  obtain ⟨cl, Ar, q1, Sz, Ng, Hs, Gs⟩ := F
  obtain ⟨T', h', X', e', W, st⟩ := stJ X hx hZ eT Ar (j := j) (x := x) (inb_of Sz q) hg hs hd
  exact ⟨T', h', _, X', e', Fr.snoc X' N ge, W, Arv.set Ar q1 Sz Ng Hs Gs rfl W i hi hl, st⟩
theorem own_stB (X : Stand p l e R s m args below meth c T locs cells slots) (hx : p.tables.exec = Jvm.exec) (hZ : Z.Warmed39 s.vm) (eT : T.heap = h) (F : Arv Z h a k .byte n vs d) (N : Fr n0 locs) (ge : n0 ≤ a) {x : Int32} (q : ¬ j < 0 ∧ j < n) (i : Nat) (hi : j.toNatClampNeg = i) (hl : i < vs.length) (hg : g.method = m) {rest : List Value} (hs : g.stack = .int x :: .int j :: .ref a :: rest) (hd : decode c.code g.pc = .ok (.bastore, 1)) :
    ∃ T' h' L, Stand p l e R s m args below meth c T' L cells slots ∧ T'.heap = h' ∧ Fr n0 L ∧ Wr h h' a j.toNatClampNeg (.int (nar .byte x)) ∧ Arv Z h' a k .byte n (vs.set i (.int (nar .byte x))) d ∧ ∀ t, Steps p.tables e below (T'.setTop { g with pc := g.pc + 1, stack := rest }) t → Steps p.tables e below (T.setTop g) t := by
  obtain ⟨cl, Ar, q1, Sz, Ng, Hs, Gs⟩ := F
  obtain ⟨T', h', X', e', W, st⟩ := stB X hx hZ eT Ar (j := j) (x := x) (inb_of Sz q) hg hs hd
  exact ⟨T', h', _, X', e', Fr.snoc X' N ge, W, Arv.set Ar q1 Sz Ng Hs Gs (fits_nar_byte _) W i hi hl, st⟩
theorem own_ldR {Cn : String} (X : Stand p l e R s m args below meth c T locs cells slots) (hx : p.tables.exec = Jvm.exec) (hZ : Z.Warmed39 s.vm) (eT : T.heap = h) (F : Arv Z h a k (.object Cn) n vs d) (q : ¬ j < 0 ∧ j < n) (u : vs.getD j.toNatClampNeg d = v) (hg : g.method = m) {rest : List Value} (hs : g.stack = .int j :: .ref a :: rest) (hd : decode c.code g.pc = .ok (.aaload, 1)) :
    ∀ t, Steps p.tables e below (T.setTop { g with pc := g.pc + 1, stack := v :: rest }) t → Steps p.tables e below (T.setTop g) t := by
  obtain ⟨cl, Ar, -, Sz, -, Hs, -⟩ := F
  exact fun t kt => X.aaload hx (by rw [eT]; exact Ar.1) (State.isArrayOf_alike hZ.alike Ar.2.1) rfl Ar.2.2 (inb_of Sz q) (Hs.at (inb_of Sz q) u) hg hs hd t kt
theorem own_stR {Cn : String} {y : Addr} (X : Stand p l e R s m args below meth c T locs cells slots) (hx : p.tables.exec = Jvm.exec) (hZ : Z.Warmed39 s.vm) (eT : T.heap = h) (F : Arv Z h a k (.object Cn) n vs d) (O : Ovr Z k Cn) (I : Ins Z h y Cn true) (N : Fr n0 locs) (ge : n0 ≤ a) (q : ¬ j < 0 ∧ j < n) (i : Nat) (hi : j.toNatClampNeg = i) (hl : i < vs.length) (hg : g.method = m) {rest : List Value} (hs : g.stack = .ref y :: .int j :: .ref a :: rest) (hd : decode c.code g.pc = .ok (.aastore, 1)) :
    ∃ T' h' L, Stand p l e R s m args below meth c T' L cells slots ∧ T'.heap = h' ∧ Fr n0 L ∧ Wr h h' a j.toNatClampNeg (.ref y) ∧ Arv Z h' a k (.object Cn) n (vs.set i (.ref y)) d ∧ ∀ t, Steps p.tables e below (T'.setTop { g with pc := g.pc + 1, stack := rest }) t → Steps p.tables e below (T.setTop g) t := by
  obtain ⟨cl, Ar, q1, Sz, Ng, Hs, Gs⟩ := F
  obtain ⟨T', h', X', e', W, st⟩ := stR X hx hZ eT Ar (j := j) (v := .ref y) (inb_of Sz q) rfl (Sto.ofV Ar q1 O I) hg hs hd
  exact ⟨T', h', _, X', e', Fr.snoc X' N ge, W, Arv.set Ar q1 Sz Ng Hs Gs rfl W i hi hl, st⟩
end OwnRun
theorem own_pn0 : plainName "com/example/rxrelay/rxrelay/protocol/gm/Sm2FieldZeroMaskPinLaw" = true := by first | (simp [plainName, overriddenIn]; done) | decide +kernel
theorem own_d1_0 : decode method_2_code 0 = .ok (.ldc2_w 7, 3) := by decide +kernel
theorem own_d1_3 : decode method_2_code 3 = .ok (.lstore 4, 2) := by decide +kernel
theorem own_d1_5 : decode method_2_code 5 = .ok (.iload_n 0, 1) := by decide +kernel
theorem own_d1_6 : decode method_2_code 6 = .ok (.iload_n 1, 1) := by decide +kernel
theorem own_d1_7 : decode method_2_code 7 = .ok (.ishr, 1) := by decide +kernel
theorem own_d1_8 : decode method_2_code 8 = .ok (.iconst 1, 1) := by decide +kernel
theorem own_d1_9 : decode method_2_code 9 = .ok (.iand, 1) := by decide +kernel
theorem own_d1_10 : decode method_2_code 10 = .ok (.ifCond .eq 8, 3) := by decide +kernel
theorem own_d1_13 : decode method_2_code 13 = .ok (.lload_n 2, 1) := by decide +kernel
theorem own_d1_14 : decode method_2_code 14 = .ok (.lload 4, 2) := by decide +kernel
theorem own_d1_16 : decode method_2_code 16 = .ok (.land, 1) := by decide +kernel
theorem own_d1_17 : decode method_2_code 17 = .ok (.lreturn, 1) := by decide +kernel
theorem own_d1_18 : decode method_2_code 18 = .ok (.lconst 0, 1) := by decide +kernel
theorem own_d1_19 : decode method_2_code 19 = .ok (.lreturn, 1) := by decide +kernel
def own_r1 (p0 : Int32) (p1 : Int32) (q2 : Int64) : Int64 := (if ((own_shr p0 p1) &&& (1 : Int32)) = (0 : Int32) then (0 : Int64) else (q2 &&& (4503599627370495 : Int64)))
theorem own_ef1 (m : MethodId) (p0 : Int32) (p1 : Int32) (q2 : Int64) : entryFrame m #[(.int p0), (.int p1), (.long q2)] 6 = (mkF m 0 #[.val (.int p0), .val (.int p1), .val (.long q2), .second, .unset, .unset] []) := by first | (simp [entryFrame, mkF, argsToLocals, Value.category]; done) | rfl
set_option maxRecDepth 65536 in
set_option maxHeartbeats 40000000 in
theorem rm1 (l : Launch) (Z : State) (av0 : Array Value) (hw : ∀ d ∈ tables_1, d.before av0 Z = true) (ws : List Jvm.Cond) (p0 : Int32) (p1 : Int32) (q2 : Int64) (h0 : Heap) (n0 : Nat) (Z0 : n0 ≤ h0.size) :
    MetFree l (⟨"com/example/rxrelay/rxrelay/protocol/gm/Sm2FieldZeroMaskPinLaw", "limb", "(IIJ)J"⟩ : MethodName) (head1 (Jvm.Cond.code (⟨"com/example/rxrelay/rxrelay/protocol/gm/Sm2FieldZeroMaskPinLaw", "limb", "(IIJ)J"⟩ : MethodName) method_2_code 6 (some .long) :: ws) ({ frames := 0, cells := 0, slots := 0, locals := 0 } : Room)) (fun a U => a = #[(.int p0), (.int p1), (.long q2)] ∧ Z.Warmed39 U.vm ∧ U.heap = h0) (fun _ _ _ _ _ => True) (fun _ U o U' => ∃ v L, o = .returned v ∧ own_Q n0 (fun h => h = h0) (some (.long (own_r1 p0 p1 q2))) v U'.heap L ∧ FrameEnd U o U' L ({ frames := 0, cells := 0, slots := 0, locals := 0 } : Room).cells ({ frames := 0, cells := 0, slots := 0, locals := 0 } : Room).slots) := by
  refine MetFree.of_bodySF (plainFor_of_name own_pn0) hisR ?_
  intro p e s m args below meth c s₁ Bd hml0 hP hK
  obtain ⟨rfl, hZ, hh⟩ := hP
  have hx := Bd.exec
  have hby := Bd.bytes
  have hml : c.maxLocals = 6 := hml0
  have hown : s.vm.findClass "com/example/rxrelay/rxrelay/protocol/gm/Sm2FieldZeroMaskPinLaw" = some m.cls := findClass_of_methodNamed Bd.named
  have hnm := (name_of_methodNamed Bd.named Bd.method).1
  have hret := Bd.returns
  have hlk : meth.locks = false := BodyLoose.notSynchronized Bd
  have X0 : Stand p l e ({ frames := 0, cells := 0, slots := 0, locals := 0 } : Room) s m #[(.int p0), (.int p1), (.long q2)] below meth c s₁ [] 0 0 := Stand.of_body Bd
  have e0 : s₁.heap = h0 := by rw [← hh, Bd.state]; rfl
  have N0 := Fr.nil n0
  clear Bd hh hK
  refine own_fin ?_
  refine own_entry (own_ef1 m p0 p1 q2) ?_
  show own_Run p e below s₁ _ (own_Ret _ s below _ _ (own_Q n0 _ (some (.long (if ((own_shr p0 p1) &&& (1 : Int32)) = (0 : Int32) then (0 : Int64) else (q2 &&& (4503599627370495 : Int64)))))))
  show own_Run p e below s₁ (mkF m 0 #[.val (.int p0), .val (.int p1), .val (.long q2), .second, .unset, .unset] []) _
  refine own_step (fun t k => X0.ldc2Long hx hown (mvT hZ (hw _ (List.mem_of_getElem? (i := 4) rfl))) (g := (mkF m 0 #[.val (.int p0), .val (.int p1), .val (.long q2), .second, .unset, .unset] [])) rfl (hb hby own_d1_0) t k) ?_
  show own_Run p e below s₁ (mkF m 3 #[.val (.int p0), .val (.int p1), .val (.long q2), .second, .unset, .unset] [(.long (4503599627370495 : Int64))]) _
  refine own_step (fun t k => XS.lstore X0.here hx rfl (hb hby own_d1_3) rfl (l' := #[.val (.int p0), .val (.int p1), .val (.long q2), .second, .val (.long (4503599627370495 : Int64)), .second]) rfl k) ?_
  show own_Run p e below s₁ (mkF m 5 #[.val (.int p0), .val (.int p1), .val (.long q2), .second, .val (.long (4503599627370495 : Int64)), .second] []) _
  refine own_step (fun t k => XS.iloadN X0.here hx rfl (hb hby own_d1_5) rfl  k) ?_
  show own_Run p e below s₁ (mkF m 6 #[.val (.int p0), .val (.int p1), .val (.long q2), .second, .val (.long (4503599627370495 : Int64)), .second] [(.int p0)]) _
  refine own_step (fun t k => XS.iloadN X0.here hx rfl (hb hby own_d1_6) rfl  k) ?_
  show own_Run p e below s₁ (mkF m 7 #[.val (.int p0), .val (.int p1), .val (.long q2), .second, .val (.long (4503599627370495 : Int64)), .second] [(.int p1), (.int p0)]) _
  refine own_step (fun t k => XS.ishr X0.here hx rfl (hb hby own_d1_7) rfl k) ?_
  show own_Run p e below s₁ (mkF m 8 #[.val (.int p0), .val (.int p1), .val (.long q2), .second, .val (.long (4503599627370495 : Int64)), .second] [(.int (own_shr p0 p1))]) _
  refine own_step (fun t k => XS.iconst X0.here hx rfl (hb hby own_d1_8) k) ?_
  show own_Run p e below s₁ (mkF m 9 #[.val (.int p0), .val (.int p1), .val (.long q2), .second, .val (.long (4503599627370495 : Int64)), .second] [(.int (1 : Int32)), (.int (own_shr p0 p1))]) _
  refine own_step (fun t k => XS.iand X0.here hx rfl (hb hby own_d1_9) rfl k) ?_
  show own_Run p e below s₁ (mkF m 10 #[.val (.int p0), .val (.int p1), .val (.long q2), .second, .val (.long (4503599627370495 : Int64)), .second] [(.int ((own_shr p0 p1) &&& (1 : Int32)))]) _
  by_cases hc2 : ((own_shr p0 p1) &&& (1 : Int32)) = (0 : Int32)
  · refine own_vj (if_pos hc2) ?_
    refine own_step (fun t k => XS.ifYes X0.here hx rfl (pc0 := 10) (pc' := 18) rfl (hb hby own_d1_10) rfl ((if0 _ _).trans (teq hc2).1) (by decide) (by decide) k) ?_
    show own_Run p e below s₁ (mkF m 18 #[.val (.int p0), .val (.int p1), .val (.long q2), .second, .val (.long (4503599627370495 : Int64)), .second] []) _
    refine own_step (fun t k => XS.lconst X0.here hx rfl (hb hby own_d1_18) k) ?_
    show own_Run p e below s₁ (mkF m 19 #[.val (.int p0), .val (.int p1), .val (.long q2), .second, .val (.long (4503599627370495 : Int64)), .second] [(.long (0 : Int64))]) _
    exact own_retJ X0 hx hlk hret (hb hby own_d1_19) (by decide) (by decide) N0 e0
  · refine own_vj (if_neg hc2) ?_
    refine own_step (fun t k => XS.ifNo X0.here hx rfl (hb hby own_d1_10) rfl ((if0 _ _).trans (feq hc2).1) k) ?_
    show own_Run p e below s₁ (mkF m 13 #[.val (.int p0), .val (.int p1), .val (.long q2), .second, .val (.long (4503599627370495 : Int64)), .second] []) _
    refine own_step (fun t k => XS.lloadN X0.here hx rfl (hb hby own_d1_13) rfl  k) ?_
    show own_Run p e below s₁ (mkF m 14 #[.val (.int p0), .val (.int p1), .val (.long q2), .second, .val (.long (4503599627370495 : Int64)), .second] [(.long q2)]) _
    refine own_step (fun t k => XS.lload X0.here hx rfl (hb hby own_d1_14) rfl  k) ?_
    show own_Run p e below s₁ (mkF m 16 #[.val (.int p0), .val (.int p1), .val (.long q2), .second, .val (.long (4503599627370495 : Int64)), .second] [(.long (4503599627370495 : Int64)), (.long q2)]) _
    refine own_step (fun t k => XS.land X0.here hx rfl (hb hby own_d1_16) rfl k) ?_
    show own_Run p e below s₁ (mkF m 17 #[.val (.int p0), .val (.int p1), .val (.long q2), .second, .val (.long (4503599627370495 : Int64)), .second] [(.long (q2 &&& (4503599627370495 : Int64)))]) _
    exact own_retJ X0 hx hlk hret (hb hby own_d1_17) (by decide) (by decide) N0 e0
theorem own_pn1 : plainName "com/example/rxrelay/rxrelay/protocol/gm/Sm2Field" = true := by first | (simp [plainName, overriddenIn]; done) | decide +kernel
theorem own_d2_0 : decode prog_33_method_6_code 0 = .ok (.aload_n 0, 1) := by decide +kernel
theorem own_d2_1 : decode prog_33_method_6_code 1 = .ok (.iconst 0, 1) := by decide +kernel
theorem own_d2_2 : decode prog_33_method_6_code 2 = .ok (.laload, 1) := by decide +kernel
theorem own_d2_3 : decode prog_33_method_6_code 3 = .ok (.aload_n 0, 1) := by decide +kernel
theorem own_d2_4 : decode prog_33_method_6_code 4 = .ok (.iconst 1, 1) := by decide +kernel
theorem own_d2_5 : decode prog_33_method_6_code 5 = .ok (.laload, 1) := by decide +kernel
theorem own_d2_6 : decode prog_33_method_6_code 6 = .ok (.lor, 1) := by decide +kernel
theorem own_d2_7 : decode prog_33_method_6_code 7 = .ok (.aload_n 0, 1) := by decide +kernel
theorem own_d2_8 : decode prog_33_method_6_code 8 = .ok (.iconst 2, 1) := by decide +kernel
theorem own_d2_9 : decode prog_33_method_6_code 9 = .ok (.laload, 1) := by decide +kernel
theorem own_d2_10 : decode prog_33_method_6_code 10 = .ok (.lor, 1) := by decide +kernel
theorem own_d2_11 : decode prog_33_method_6_code 11 = .ok (.aload_n 0, 1) := by decide +kernel
theorem own_d2_12 : decode prog_33_method_6_code 12 = .ok (.iconst 3, 1) := by decide +kernel
theorem own_d2_13 : decode prog_33_method_6_code 13 = .ok (.laload, 1) := by decide +kernel
theorem own_d2_14 : decode prog_33_method_6_code 14 = .ok (.lor, 1) := by decide +kernel
theorem own_d2_15 : decode prog_33_method_6_code 15 = .ok (.aload_n 0, 1) := by decide +kernel
theorem own_d2_16 : decode prog_33_method_6_code 16 = .ok (.iconst 4, 1) := by decide +kernel
theorem own_d2_17 : decode prog_33_method_6_code 17 = .ok (.laload, 1) := by decide +kernel
theorem own_d2_18 : decode prog_33_method_6_code 18 = .ok (.lor, 1) := by decide +kernel
theorem own_d2_19 : decode prog_33_method_6_code 19 = .ok (.lstore_n 1, 1) := by decide +kernel
theorem own_d2_20 : decode prog_33_method_6_code 20 = .ok (.lload_n 1, 1) := by decide +kernel
theorem own_d2_21 : decode prog_33_method_6_code 21 = .ok (.lconst 1, 1) := by decide +kernel
theorem own_d2_22 : decode prog_33_method_6_code 22 = .ok (.lsub, 1) := by decide +kernel
theorem own_d2_23 : decode prog_33_method_6_code 23 = .ok (.bipush 63, 2) := by decide +kernel
theorem own_d2_25 : decode prog_33_method_6_code 25 = .ok (.lshr, 1) := by decide +kernel
theorem own_d2_26 : decode prog_33_method_6_code 26 = .ok (.lreturn, 1) := by decide +kernel
def own_f2_19 (v0 : Int64) (v1 : Int64) (v2 : Int64) (v3 : Int64) (v4 : Int64) : Int64 := ((((v0 ||| v1) ||| v2) ||| v3) ||| v4)
def own_r2 (v0 : Int64) (v1 : Int64) (v2 : Int64) (v3 : Int64) (v4 : Int64) : Int64 := (own_shrL ((own_f2_19 v0 v1 v2 v3 v4) - (1 : Int64)) (63 : Int32))
theorem own_ef2 (m : MethodId) (a0 : Addr) : entryFrame m #[(.ref a0)] 3 = (mkF m 0 #[.val (.ref a0), .unset, .unset] []) := by first | (simp [entryFrame, mkF, argsToLocals, Value.category]; done) | rfl
set_option maxRecDepth 65536 in
set_option maxHeartbeats 40000000 in
theorem rm2 (l : Launch) (Z : State) (av0 : Array Value) (hw : ∀ d ∈ tables_1, d.before av0 Z = true) (ws : List Jvm.Cond) (a0 : Addr) (k0 : ClassId) (v0 : Int64) (v1 : Int64) (v2 : Int64) (v3 : Int64) (v4 : Int64) (h0 : Heap) (n0 : Nat) (Z0 : n0 ≤ h0.size) (V0 : Arv Z h0 a0 k0 .long (5 : Int32) [(.long v0), (.long v1), (.long v2), (.long v3), (.long v4)] (.long (0 : Int64))) :
    MetFree l (⟨"com/example/rxrelay/rxrelay/protocol/gm/Sm2Field", "zeroMask", "([J)J"⟩ : MethodName) (head1 (Jvm.Cond.code (⟨"com/example/rxrelay/rxrelay/protocol/gm/Sm2Field", "zeroMask", "([J)J"⟩ : MethodName) prog_33_method_6_code 3 (some .long) :: ws) ({ frames := 0, cells := 0, slots := 0, locals := 0 } : Room)) (fun a U => a = #[(.ref a0)] ∧ Z.Warmed39 U.vm ∧ U.heap = h0) (fun _ _ _ _ _ => True) (fun _ U o U' => ∃ v L, o = .returned v ∧ own_Q n0 (fun h => h = h0) (some (.long (own_r2 v0 v1 v2 v3 v4))) v U'.heap L ∧ FrameEnd U o U' L ({ frames := 0, cells := 0, slots := 0, locals := 0 } : Room).cells ({ frames := 0, cells := 0, slots := 0, locals := 0 } : Room).slots) := by
  refine MetFree.of_bodySF (plainFor_of_name own_pn1) hisR ?_
  intro p e s m args below meth c s₁ Bd hml0 hP hK
  obtain ⟨rfl, hZ, hh⟩ := hP
  have hx := Bd.exec
  have hby := Bd.bytes
  have hml : c.maxLocals = 3 := hml0
  have hown : s.vm.findClass "com/example/rxrelay/rxrelay/protocol/gm/Sm2Field" = some m.cls := findClass_of_methodNamed Bd.named
  have hnm := (name_of_methodNamed Bd.named Bd.method).1
  have hret := Bd.returns
  have hlk : meth.locks = false := BodyLoose.notSynchronized Bd
  have X0 : Stand p l e ({ frames := 0, cells := 0, slots := 0, locals := 0 } : Room) s m #[(.ref a0)] below meth c s₁ [] 0 0 := Stand.of_body Bd
  have e0 : s₁.heap = h0 := by rw [← hh, Bd.state]; rfl
  have N0 := Fr.nil n0
  clear Bd hh hK
  refine own_fin ?_
  refine own_entry (own_ef2 m a0) ?_
  show own_Run p e below s₁ _ (own_Ret _ s below _ _ (own_Q n0 _ (some (.long (own_shrL ((own_f2_19 v0 v1 v2 v3 v4) - (1 : Int64)) (63 : Int32))))))
  show own_Run p e below s₁ (mkF m 0 #[.val (.ref a0), .unset, .unset] []) _
  refine own_step (fun t k => XS.aloadN X0.here hx rfl (hb hby own_d2_0) rfl rfl k) ?_
  show own_Run p e below s₁ (mkF m 1 #[.val (.ref a0), .unset, .unset] [(.ref a0)]) _
  refine own_step (fun t k => XS.iconst X0.here hx rfl (hb hby own_d2_1) k) ?_
  show own_Run p e below s₁ (mkF m 2 #[.val (.ref a0), .unset, .unset] [(.int (0 : Int32)), (.ref a0)]) _
  refine own_step (own_ldJ X0 hx hZ e0 V0 (j := (0 : Int32)) (v := (.long v0)) ⟨by decide, by decide⟩ rfl (g := (mkF m 2 #[.val (.ref a0), .unset, .unset] [(.int (0 : Int32)), (.ref a0)])) rfl rfl (hb hby own_d2_2)) ?_
  show own_Run p e below s₁ (mkF m 3 #[.val (.ref a0), .unset, .unset] [(.long v0)]) _
  refine own_step (fun t k => XS.aloadN X0.here hx rfl (hb hby own_d2_3) rfl rfl k) ?_
  show own_Run p e below s₁ (mkF m 4 #[.val (.ref a0), .unset, .unset] [(.ref a0), (.long v0)]) _
  refine own_step (fun t k => XS.iconst X0.here hx rfl (hb hby own_d2_4) k) ?_
  show own_Run p e below s₁ (mkF m 5 #[.val (.ref a0), .unset, .unset] [(.int (1 : Int32)), (.ref a0), (.long v0)]) _
  refine own_step (own_ldJ X0 hx hZ e0 V0 (j := (1 : Int32)) (v := (.long v1)) ⟨by decide, by decide⟩ rfl (g := (mkF m 5 #[.val (.ref a0), .unset, .unset] [(.int (1 : Int32)), (.ref a0), (.long v0)])) rfl rfl (hb hby own_d2_5)) ?_
  show own_Run p e below s₁ (mkF m 6 #[.val (.ref a0), .unset, .unset] [(.long v1), (.long v0)]) _
  refine own_step (fun t k => XS.lor X0.here hx rfl (hb hby own_d2_6) rfl k) ?_
  show own_Run p e below s₁ (mkF m 7 #[.val (.ref a0), .unset, .unset] [(.long (v0 ||| v1))]) _
  refine own_step (fun t k => XS.aloadN X0.here hx rfl (hb hby own_d2_7) rfl rfl k) ?_
  show own_Run p e below s₁ (mkF m 8 #[.val (.ref a0), .unset, .unset] [(.ref a0), (.long (v0 ||| v1))]) _
  refine own_step (fun t k => XS.iconst X0.here hx rfl (hb hby own_d2_8) k) ?_
  show own_Run p e below s₁ (mkF m 9 #[.val (.ref a0), .unset, .unset] [(.int (2 : Int32)), (.ref a0), (.long (v0 ||| v1))]) _
  refine own_step (own_ldJ X0 hx hZ e0 V0 (j := (2 : Int32)) (v := (.long v2)) ⟨by decide, by decide⟩ rfl (g := (mkF m 9 #[.val (.ref a0), .unset, .unset] [(.int (2 : Int32)), (.ref a0), (.long (v0 ||| v1))])) rfl rfl (hb hby own_d2_9)) ?_
  show own_Run p e below s₁ (mkF m 10 #[.val (.ref a0), .unset, .unset] [(.long v2), (.long (v0 ||| v1))]) _
  refine own_step (fun t k => XS.lor X0.here hx rfl (hb hby own_d2_10) rfl k) ?_
  show own_Run p e below s₁ (mkF m 11 #[.val (.ref a0), .unset, .unset] [(.long ((v0 ||| v1) ||| v2))]) _
  refine own_step (fun t k => XS.aloadN X0.here hx rfl (hb hby own_d2_11) rfl rfl k) ?_
  show own_Run p e below s₁ (mkF m 12 #[.val (.ref a0), .unset, .unset] [(.ref a0), (.long ((v0 ||| v1) ||| v2))]) _
  refine own_step (fun t k => XS.iconst X0.here hx rfl (hb hby own_d2_12) k) ?_
  show own_Run p e below s₁ (mkF m 13 #[.val (.ref a0), .unset, .unset] [(.int (3 : Int32)), (.ref a0), (.long ((v0 ||| v1) ||| v2))]) _
  refine own_step (own_ldJ X0 hx hZ e0 V0 (j := (3 : Int32)) (v := (.long v3)) ⟨by decide, by decide⟩ rfl (g := (mkF m 13 #[.val (.ref a0), .unset, .unset] [(.int (3 : Int32)), (.ref a0), (.long ((v0 ||| v1) ||| v2))])) rfl rfl (hb hby own_d2_13)) ?_
  show own_Run p e below s₁ (mkF m 14 #[.val (.ref a0), .unset, .unset] [(.long v3), (.long ((v0 ||| v1) ||| v2))]) _
  refine own_step (fun t k => XS.lor X0.here hx rfl (hb hby own_d2_14) rfl k) ?_
  show own_Run p e below s₁ (mkF m 15 #[.val (.ref a0), .unset, .unset] [(.long (((v0 ||| v1) ||| v2) ||| v3))]) _
  refine own_step (fun t k => XS.aloadN X0.here hx rfl (hb hby own_d2_15) rfl rfl k) ?_
  show own_Run p e below s₁ (mkF m 16 #[.val (.ref a0), .unset, .unset] [(.ref a0), (.long (((v0 ||| v1) ||| v2) ||| v3))]) _
  refine own_step (fun t k => XS.iconst X0.here hx rfl (hb hby own_d2_16) k) ?_
  show own_Run p e below s₁ (mkF m 17 #[.val (.ref a0), .unset, .unset] [(.int (4 : Int32)), (.ref a0), (.long (((v0 ||| v1) ||| v2) ||| v3))]) _
  refine own_step (own_ldJ X0 hx hZ e0 V0 (j := (4 : Int32)) (v := (.long v4)) ⟨by decide, by decide⟩ rfl (g := (mkF m 17 #[.val (.ref a0), .unset, .unset] [(.int (4 : Int32)), (.ref a0), (.long (((v0 ||| v1) ||| v2) ||| v3))])) rfl rfl (hb hby own_d2_17)) ?_
  show own_Run p e below s₁ (mkF m 18 #[.val (.ref a0), .unset, .unset] [(.long v4), (.long (((v0 ||| v1) ||| v2) ||| v3))]) _
  refine own_step (fun t k => XS.lor X0.here hx rfl (hb hby own_d2_18) rfl k) ?_
  show own_Run p e below s₁ (mkF m 19 #[.val (.ref a0), .unset, .unset] [(.long ((((v0 ||| v1) ||| v2) ||| v3) ||| v4))]) _
  refine own_step (fun t k => XS.lstoreN X0.here hx rfl (hb hby own_d2_19) rfl (l' := #[.val (.ref a0), .val (.long (own_f2_19 v0 v1 v2 v3 v4)), .second]) rfl k) ?_
  show own_Run p e below s₁ (mkF m 20 #[.val (.ref a0), .val (.long (own_f2_19 v0 v1 v2 v3 v4)), .second] []) _
  refine own_step (fun t k => XS.lloadN X0.here hx rfl (hb hby own_d2_20) rfl  k) ?_
  show own_Run p e below s₁ (mkF m 21 #[.val (.ref a0), .val (.long (own_f2_19 v0 v1 v2 v3 v4)), .second] [(.long (own_f2_19 v0 v1 v2 v3 v4))]) _
  refine own_step (fun t k => XS.lconst X0.here hx rfl (hb hby own_d2_21) k) ?_
  show own_Run p e below s₁ (mkF m 22 #[.val (.ref a0), .val (.long (own_f2_19 v0 v1 v2 v3 v4)), .second] [(.long (1 : Int64)), (.long (own_f2_19 v0 v1 v2 v3 v4))]) _
  refine own_step (fun t k => XS.lsub X0.here hx rfl (hb hby own_d2_22) rfl k) ?_
  show own_Run p e below s₁ (mkF m 23 #[.val (.ref a0), .val (.long (own_f2_19 v0 v1 v2 v3 v4)), .second] [(.long ((own_f2_19 v0 v1 v2 v3 v4) - (1 : Int64)))]) _
  refine own_step (fun t k => XS.bipush X0.here hx rfl (hb hby own_d2_23) k) ?_
  show own_Run p e below s₁ (mkF m 25 #[.val (.ref a0), .val (.long (own_f2_19 v0 v1 v2 v3 v4)), .second] [(.int (63 : Int32)), (.long ((own_f2_19 v0 v1 v2 v3 v4) - (1 : Int64)))]) _
  refine own_step (fun t k => XS.lshr X0.here hx rfl (hb hby own_d2_25) rfl k) ?_
  show own_Run p e below s₁ (mkF m 26 #[.val (.ref a0), .val (.long (own_f2_19 v0 v1 v2 v3 v4)), .second] [(.long (own_shrL ((own_f2_19 v0 v1 v2 v3 v4) - (1 : Int64)) (63 : Int32)))]) _
  exact own_retJ X0 hx hlk hret (hb hby own_d2_26) (by decide) (by decide) N0 e0
theorem own_pd40 : parseMethodDescriptor "(IIJ)J" = some ⟨[.int, .int, .long], some .long⟩ := by decide +kernel
theorem own_pd41 : parseMethodDescriptor "([J)J" = some ⟨[(.array .long)], some .long⟩ := by decide +kernel
def own_f0_6 (p0 : Int32) (q1 : Int64) : Int64 := (own_r1 p0 (0 : Int32) q1)
def own_f0_14 (p0 : Int32) (q2 : Int64) : Int64 := (own_r1 p0 (1 : Int32) q2)
def own_f0_23 (p0 : Int32) (q3 : Int64) : Int64 := (own_r1 p0 (2 : Int32) q3)
def own_f0_32 (p0 : Int32) (q4 : Int64) : Int64 := (own_r1 p0 (3 : Int32) q4)
def own_f0_41 (p0 : Int32) (q5 : Int64) : Int64 := (own_r1 p0 (4 : Int32) q5)
def own_f0_83 (p0 : Int32) (q1 : Int64) (q2 : Int64) (q3 : Int64) (q4 : Int64) (q5 : Int64) : Int64 := (own_r2 (own_f0_6 p0 q1) (own_f0_14 p0 q2) (own_f0_23 p0 q3) (own_f0_32 p0 q4) (own_f0_41 p0 q5))
def own_f0_j131_L24 (p0 : Int32) (q1 : Int64) (q2 : Int64) (q3 : Int64) (q4 : Int64) (q5 : Int64) : Int64 := (if (lcmpW (own_f0_6 p0 q1) (0 : Int64)) = (0 : Int32) then (if (lcmpW (own_f0_14 p0 q2) (0 : Int64)) = (0 : Int32) then (if (lcmpW (own_f0_23 p0 q3) (0 : Int64)) = (0 : Int32) then (if (lcmpW (own_f0_32 p0 q4) (0 : Int64)) = (0 : Int32) then (if (lcmpW (own_f0_41 p0 q5) (0 : Int64)) = (0 : Int32) then (-1 : Int64) else (0 : Int64)) else (0 : Int64)) else (0 : Int64)) else (0 : Int64)) else (0 : Int64))
def own_f0_j186_S0 (p0 : Int32) (q1 : Int64) (q2 : Int64) (q3 : Int64) (q4 : Int64) (q5 : Int64) : Int32 := (if (lcmpW (own_f0_6 p0 q1) (own_f0_6 p0 q1)) = (0 : Int32) then (if (lcmpW (own_f0_14 p0 q2) (own_f0_14 p0 q2)) = (0 : Int32) then (if (lcmpW (own_f0_23 p0 q3) (own_f0_23 p0 q3)) = (0 : Int32) then (if (lcmpW (own_f0_32 p0 q4) (own_f0_32 p0 q4)) = (0 : Int32) then (if (lcmpW (own_f0_41 p0 q5) (own_f0_41 p0 q5)) = (0 : Int32) then (1 : Int32) else (0 : Int32)) else (0 : Int32)) else (0 : Int32)) else (0 : Int32)) else (0 : Int32))
def own_f0_186 (p0 : Int32) (q1 : Int64) (q2 : Int64) (q3 : Int64) (q4 : Int64) (q5 : Int64) : Int32 := (own_f0_j186_S0 p0 q1 q2 q3 q4 q5)
def own_f0_j206_S0 (p0 : Int32) (q1 : Int64) (q2 : Int64) (q3 : Int64) (q4 : Int64) (q5 : Int64) : Int32 := (if (lcmpW (own_f0_83 p0 q1 q2 q3 q4 q5) (own_f0_j131_L24 p0 q1 q2 q3 q4 q5)) = (0 : Int32) then (if (own_f0_186 p0 q1 q2 q3 q4 q5) = (0 : Int32) then (0 : Int32) else (1 : Int32)) else (0 : Int32))
def own_r0 (p0 : Int32) (q1 : Int64) (q2 : Int64) (q3 : Int64) (q4 : Int64) (q5 : Int64) : Int32 := (nar .boolean (own_f0_j206_S0 p0 q1 q2 q3 q4 q5))
theorem own_ef0 (m : MethodId) (p0 : Int32) (q1 : Int64) (q2 : Int64) (q3 : Int64) (q4 : Int64) (q5 : Int64) : entryFrame m #[(.int p0), (.long q1), (.long q2), (.long q3), (.long q4), (.long q5)] maxLocals = (mkF m 0 #[.val (.int p0), .val (.long q1), .second, .val (.long q2), .second, .val (.long q3), .second, .val (.long q4), .second, .val (.long q5), .second, .unset, .unset, .unset, .unset, .unset, .unset, .unset, .unset, .unset, .unset, .unset, .unset, .unset, .unset, .unset, .unset] []) := by first | (simp [entryFrame, mkF, argsToLocals, Value.category, maxLocals]; done) | rfl
set_option maxRecDepth 65536 in
set_option maxHeartbeats 40000000 in
theorem rm0 (l : Launch) (Z : State) (av0 : Array Value) (hw : ∀ d ∈ tables_1, d.before av0 Z = true) (ws : List Jvm.Cond) (p0 : Int32) (q1 : Int64) (q2 : Int64) (q3 : Int64) (q4 : Int64) (q5 : Int64) (h0 : Heap) (n0 : Nat) (Z0 : n0 ≤ h0.size) :
    MetFree l x (head1 (Jvm.Cond.code x code maxLocals ret :: ws) room_1) (fun a U => a = #[(.int p0), (.long q1), (.long q2), (.long q3), (.long q4), (.long q5)] ∧ Z.Warmed39 U.vm ∧ U.heap = h0) (fun _ _ _ _ _ => True) (fun _ U o U' => ∃ v L, o = .returned v ∧ own_Q n0 (fun _ => True) (some (.int (own_r0 p0 q1 q2 q3 q4 q5))) v U'.heap L ∧ FrameEnd U o U' L room_1.cells room_1.slots) := by
  refine MetFree.of_bodySF (plainFor_of_name own_pn0) hisR ?_
  intro p e s m args below meth c s₁ Bd hml0 hP hK
  obtain ⟨rfl, hZ, hh⟩ := hP
  have hx := Bd.exec
  have hby := Bd.bytes
  have hml : c.maxLocals = 27 := hml0
  have hown : s.vm.findClass "com/example/rxrelay/rxrelay/protocol/gm/Sm2FieldZeroMaskPinLaw" = some m.cls := findClass_of_methodNamed Bd.named
  have hnm := (name_of_methodNamed Bd.named Bd.method).1
  have hret := Bd.returns
  have hlk : meth.locks = false := BodyLoose.notSynchronized Bd
  have X0 : Stand p l e room_1 s m #[(.int p0), (.long q1), (.long q2), (.long q3), (.long q4), (.long q5)] below meth c s₁ [] 0 0 := Stand.of_body Bd
  have e0 : s₁.heap = h0 := by rw [← hh, Bd.state]; rfl
  have N0 := Fr.nil n0
  clear Bd hh hK
  refine own_fin ?_
  refine own_entry (own_ef0 m p0 q1 q2 q3 q4 q5) ?_
  show own_Run p e below s₁ _ (own_Ret _ s below _ _ (own_Q n0 _ (some (.int (nar .boolean (own_f0_j206_S0 p0 q1 q2 q3 q4 q5))))))
  show own_Run p e below s₁ (mkF m 0 #[.val (.int p0), .val (.long q1), .second, .val (.long q2), .second, .val (.long q3), .second, .val (.long q4), .second, .val (.long q5), .second, .unset, .unset, .unset, .unset, .unset, .unset, .unset, .unset, .unset, .unset, .unset, .unset, .unset, .unset, .unset, .unset] []) _
  refine own_step (fun t k => XS.iloadN X0.here hx rfl (hb hby at_0) rfl  k) ?_
  show own_Run p e below s₁ (mkF m 1 #[.val (.int p0), .val (.long q1), .second, .val (.long q2), .second, .val (.long q3), .second, .val (.long q4), .second, .val (.long q5), .second, .unset, .unset, .unset, .unset, .unset, .unset, .unset, .unset, .unset, .unset, .unset, .unset, .unset, .unset, .unset, .unset] [(.int p0)]) _
  refine own_step (fun t k => XS.iconst X0.here hx rfl (hb hby at_1) k) ?_
  show own_Run p e below s₁ (mkF m 2 #[.val (.int p0), .val (.long q1), .second, .val (.long q2), .second, .val (.long q3), .second, .val (.long q4), .second, .val (.long q5), .second, .unset, .unset, .unset, .unset, .unset, .unset, .unset, .unset, .unset, .unset, .unset, .unset, .unset, .unset, .unset, .unset] [(.int (0 : Int32)), (.int p0)]) _
  refine own_step (fun t k => XS.lloadN X0.here hx rfl (hb hby at_2) rfl  k) ?_
  show own_Run p e below s₁ (mkF m 3 #[.val (.int p0), .val (.long q1), .second, .val (.long q2), .second, .val (.long q3), .second, .val (.long q4), .second, .val (.long q5), .second, .unset, .unset, .unset, .unset, .unset, .unset, .unset, .unset, .unset, .unset, .unset, .unset, .unset, .unset, .unset, .unset] [(.long q1), (.int (0 : Int32)), (.int p0)]) _
  obtain ⟨_, _, ⟨T28, L28, kq28, nq28⟩, -, X28, ⟨Lc28, hQ28, lq28, yq28, zq28⟩, st28⟩ := Jvm.LawKit.callS X0 hx (y := (⟨"com/example/rxrelay/rxrelay/protocol/gm/Sm2FieldZeroMaskPinLaw", "limb", "(IIJ)J"⟩ : MethodName)) hown (mvT hZ (hw _ (List.mem_of_getElem? (i := 0) rfl))) (mvT hZ (hw _ (List.mem_of_getElem? (i := 1) rfl))) (mvT hZ (hw _ (List.mem_of_getElem? (i := 2) rfl))) (mvT hZ (hw _ (List.mem_of_getElem? (i := 3) rfl))) (by decide) (backOf (W := 0) (rm1 l Z av0 hw [] p0 (0 : Int32) q1 h0 n0 Z0 ) hZ (hw _ (List.mem_of_getElem? (i := 3) rfl)) (hw _ (List.mem_of_getElem? (i := 2) rfl)) (by decide) (by decide)) (g := (mkF m 3 #[.val (.int p0), .val (.long q1), .second, .val (.long q2), .second, .val (.long q3), .second, .val (.long q4), .second, .val (.long q5), .second, .unset, .unset, .unset, .unset, .unset, .unset, .unset, .unset, .unset, .unset, .unset, .unset, .unset, .unset, .unset, .unset] [(.long q1), (.int (0 : Int32)), (.int p0)])) rfl (by rw [hml]; rfl) (argsL := [(.int p0), (.int (0 : Int32)), (.long q1)]) (rest := []) (lenOf own_pd40 rfl) rfl (by show 2 * 0 + _ ≤ _; exact Nat.le_of_eq rfl) (hb hby at_3) (fun _ _ => ⟨rfl, e0, (by decide : 0 + 0 ≤ _), (by decide : 0 + 0 ≤ _)⟩)
  dsimp only [Pt.U, Pt.locs, Pt.cells, Pt.slots] at X28 lq28 yq28 zq28 st28 hQ28
  subst lq28 yq28 zq28
  obtain ⟨rfl, N28q, e28⟩ := hQ28
  have N28 := Fr.app N0 N28q
  refine own_step st28 ?_
  show own_Run p e below T28 (mkF m 6 #[.val (.int p0), .val (.long q1), .second, .val (.long q2), .second, .val (.long q3), .second, .val (.long q4), .second, .val (.long q5), .second, .unset, .unset, .unset, .unset, .unset, .unset, .unset, .unset, .unset, .unset, .unset, .unset, .unset, .unset, .unset, .unset] [(.long (own_r1 p0 (0 : Int32) q1))]) _
  refine own_step (fun t k => XS.lstore X28.here hx rfl (hb hby at_6) rfl (l' := #[.val (.int p0), .val (.long q1), .second, .val (.long q2), .second, .val (.long q3), .second, .val (.long q4), .second, .val (.long q5), .second, .val (.long (own_f0_6 p0 q1)), .second, .unset, .unset, .unset, .unset, .unset, .unset, .unset, .unset, .unset, .unset, .unset, .unset, .unset, .unset]) rfl k) ?_
  show own_Run p e below T28 (mkF m 8 #[.val (.int p0), .val (.long q1), .second, .val (.long q2), .second, .val (.long q3), .second, .val (.long q4), .second, .val (.long q5), .second, .val (.long (own_f0_6 p0 q1)), .second, .unset, .unset, .unset, .unset, .unset, .unset, .unset, .unset, .unset, .unset, .unset, .unset, .unset, .unset] []) _
  refine own_step (fun t k => XS.iloadN X28.here hx rfl (hb hby at_8) rfl  k) ?_
  show own_Run p e below T28 (mkF m 9 #[.val (.int p0), .val (.long q1), .second, .val (.long q2), .second, .val (.long q3), .second, .val (.long q4), .second, .val (.long q5), .second, .val (.long (own_f0_6 p0 q1)), .second, .unset, .unset, .unset, .unset, .unset, .unset, .unset, .unset, .unset, .unset, .unset, .unset, .unset, .unset] [(.int p0)]) _
  refine own_step (fun t k => XS.iconst X28.here hx rfl (hb hby at_9) k) ?_
  show own_Run p e below T28 (mkF m 10 #[.val (.int p0), .val (.long q1), .second, .val (.long q2), .second, .val (.long q3), .second, .val (.long q4), .second, .val (.long q5), .second, .val (.long (own_f0_6 p0 q1)), .second, .unset, .unset, .unset, .unset, .unset, .unset, .unset, .unset, .unset, .unset, .unset, .unset, .unset, .unset] [(.int (1 : Int32)), (.int p0)]) _
  refine own_step (fun t k => XS.lloadN X28.here hx rfl (hb hby at_10) rfl  k) ?_
  show own_Run p e below T28 (mkF m 11 #[.val (.int p0), .val (.long q1), .second, .val (.long q2), .second, .val (.long q3), .second, .val (.long q4), .second, .val (.long q5), .second, .val (.long (own_f0_6 p0 q1)), .second, .unset, .unset, .unset, .unset, .unset, .unset, .unset, .unset, .unset, .unset, .unset, .unset, .unset, .unset] [(.long q2), (.int (1 : Int32)), (.int p0)]) _
  obtain ⟨_, _, ⟨T29, L29, kq29, nq29⟩, -, X29, ⟨Lc29, hQ29, lq29, yq29, zq29⟩, st29⟩ := Jvm.LawKit.callS X28 hx (y := (⟨"com/example/rxrelay/rxrelay/protocol/gm/Sm2FieldZeroMaskPinLaw", "limb", "(IIJ)J"⟩ : MethodName)) hown (mvT hZ (hw _ (List.mem_of_getElem? (i := 0) rfl))) (mvT hZ (hw _ (List.mem_of_getElem? (i := 1) rfl))) (mvT hZ (hw _ (List.mem_of_getElem? (i := 2) rfl))) (mvT hZ (hw _ (List.mem_of_getElem? (i := 3) rfl))) (by decide) (backOf (W := 0) (rm1 l Z av0 hw [] p0 (1 : Int32) q2 h0 n0 Z0 ) hZ (hw _ (List.mem_of_getElem? (i := 3) rfl)) (hw _ (List.mem_of_getElem? (i := 2) rfl)) (by decide) (by decide)) (g := (mkF m 11 #[.val (.int p0), .val (.long q1), .second, .val (.long q2), .second, .val (.long q3), .second, .val (.long q4), .second, .val (.long q5), .second, .val (.long (own_f0_6 p0 q1)), .second, .unset, .unset, .unset, .unset, .unset, .unset, .unset, .unset, .unset, .unset, .unset, .unset, .unset, .unset] [(.long q2), (.int (1 : Int32)), (.int p0)])) rfl (by rw [hml]; rfl) (argsL := [(.int p0), (.int (1 : Int32)), (.long q2)]) (rest := []) (lenOf own_pd40 rfl) rfl (by show 2 * 0 + _ ≤ _; exact Nat.le_of_eq rfl) (hb hby at_11) (fun _ _ => ⟨rfl, e28, (by decide : 0 + 0 ≤ _), (by decide : 0 + 0 ≤ _)⟩)
  dsimp only [Pt.U, Pt.locs, Pt.cells, Pt.slots] at X29 lq29 yq29 zq29 st29 hQ29
  subst lq29 yq29 zq29
  obtain ⟨rfl, N29q, e29⟩ := hQ29
  have N29 := Fr.app N28 N29q
  refine own_step st29 ?_
  show own_Run p e below T29 (mkF m 14 #[.val (.int p0), .val (.long q1), .second, .val (.long q2), .second, .val (.long q3), .second, .val (.long q4), .second, .val (.long q5), .second, .val (.long (own_f0_6 p0 q1)), .second, .unset, .unset, .unset, .unset, .unset, .unset, .unset, .unset, .unset, .unset, .unset, .unset, .unset, .unset] [(.long (own_r1 p0 (1 : Int32) q2))]) _
  refine own_step (fun t k => XS.lstore X29.here hx rfl (hb hby at_14) rfl (l' := #[.val (.int p0), .val (.long q1), .second, .val (.long q2), .second, .val (.long q3), .second, .val (.long q4), .second, .val (.long q5), .second, .val (.long (own_f0_6 p0 q1)), .second, .val (.long (own_f0_14 p0 q2)), .second, .unset, .unset, .unset, .unset, .unset, .unset, .unset, .unset, .unset, .unset, .unset, .unset]) rfl k) ?_
  show own_Run p e below T29 (mkF m 16 #[.val (.int p0), .val (.long q1), .second, .val (.long q2), .second, .val (.long q3), .second, .val (.long q4), .second, .val (.long q5), .second, .val (.long (own_f0_6 p0 q1)), .second, .val (.long (own_f0_14 p0 q2)), .second, .unset, .unset, .unset, .unset, .unset, .unset, .unset, .unset, .unset, .unset, .unset, .unset] []) _
  refine own_step (fun t k => XS.iloadN X29.here hx rfl (hb hby at_16) rfl  k) ?_
  show own_Run p e below T29 (mkF m 17 #[.val (.int p0), .val (.long q1), .second, .val (.long q2), .second, .val (.long q3), .second, .val (.long q4), .second, .val (.long q5), .second, .val (.long (own_f0_6 p0 q1)), .second, .val (.long (own_f0_14 p0 q2)), .second, .unset, .unset, .unset, .unset, .unset, .unset, .unset, .unset, .unset, .unset, .unset, .unset] [(.int p0)]) _
  refine own_step (fun t k => XS.iconst X29.here hx rfl (hb hby at_17) k) ?_
  show own_Run p e below T29 (mkF m 18 #[.val (.int p0), .val (.long q1), .second, .val (.long q2), .second, .val (.long q3), .second, .val (.long q4), .second, .val (.long q5), .second, .val (.long (own_f0_6 p0 q1)), .second, .val (.long (own_f0_14 p0 q2)), .second, .unset, .unset, .unset, .unset, .unset, .unset, .unset, .unset, .unset, .unset, .unset, .unset] [(.int (2 : Int32)), (.int p0)]) _
  refine own_step (fun t k => XS.lload X29.here hx rfl (hb hby at_18) rfl  k) ?_
  show own_Run p e below T29 (mkF m 20 #[.val (.int p0), .val (.long q1), .second, .val (.long q2), .second, .val (.long q3), .second, .val (.long q4), .second, .val (.long q5), .second, .val (.long (own_f0_6 p0 q1)), .second, .val (.long (own_f0_14 p0 q2)), .second, .unset, .unset, .unset, .unset, .unset, .unset, .unset, .unset, .unset, .unset, .unset, .unset] [(.long q3), (.int (2 : Int32)), (.int p0)]) _
  obtain ⟨_, _, ⟨T30, L30, kq30, nq30⟩, -, X30, ⟨Lc30, hQ30, lq30, yq30, zq30⟩, st30⟩ := Jvm.LawKit.callS X29 hx (y := (⟨"com/example/rxrelay/rxrelay/protocol/gm/Sm2FieldZeroMaskPinLaw", "limb", "(IIJ)J"⟩ : MethodName)) hown (mvT hZ (hw _ (List.mem_of_getElem? (i := 0) rfl))) (mvT hZ (hw _ (List.mem_of_getElem? (i := 1) rfl))) (mvT hZ (hw _ (List.mem_of_getElem? (i := 2) rfl))) (mvT hZ (hw _ (List.mem_of_getElem? (i := 3) rfl))) (by decide) (backOf (W := 0) (rm1 l Z av0 hw [] p0 (2 : Int32) q3 h0 n0 Z0 ) hZ (hw _ (List.mem_of_getElem? (i := 3) rfl)) (hw _ (List.mem_of_getElem? (i := 2) rfl)) (by decide) (by decide)) (g := (mkF m 20 #[.val (.int p0), .val (.long q1), .second, .val (.long q2), .second, .val (.long q3), .second, .val (.long q4), .second, .val (.long q5), .second, .val (.long (own_f0_6 p0 q1)), .second, .val (.long (own_f0_14 p0 q2)), .second, .unset, .unset, .unset, .unset, .unset, .unset, .unset, .unset, .unset, .unset, .unset, .unset] [(.long q3), (.int (2 : Int32)), (.int p0)])) rfl (by rw [hml]; rfl) (argsL := [(.int p0), (.int (2 : Int32)), (.long q3)]) (rest := []) (lenOf own_pd40 rfl) rfl (by show 2 * 0 + _ ≤ _; exact Nat.le_of_eq rfl) (hb hby at_20) (fun _ _ => ⟨rfl, e29, (by decide : 0 + 0 ≤ _), (by decide : 0 + 0 ≤ _)⟩)
  dsimp only [Pt.U, Pt.locs, Pt.cells, Pt.slots] at X30 lq30 yq30 zq30 st30 hQ30
  subst lq30 yq30 zq30
  obtain ⟨rfl, N30q, e30⟩ := hQ30
  have N30 := Fr.app N29 N30q
  refine own_step st30 ?_
  show own_Run p e below T30 (mkF m 23 #[.val (.int p0), .val (.long q1), .second, .val (.long q2), .second, .val (.long q3), .second, .val (.long q4), .second, .val (.long q5), .second, .val (.long (own_f0_6 p0 q1)), .second, .val (.long (own_f0_14 p0 q2)), .second, .unset, .unset, .unset, .unset, .unset, .unset, .unset, .unset, .unset, .unset, .unset, .unset] [(.long (own_r1 p0 (2 : Int32) q3))]) _
  refine own_step (fun t k => XS.lstore X30.here hx rfl (hb hby at_23) rfl (l' := #[.val (.int p0), .val (.long q1), .second, .val (.long q2), .second, .val (.long q3), .second, .val (.long q4), .second, .val (.long q5), .second, .val (.long (own_f0_6 p0 q1)), .second, .val (.long (own_f0_14 p0 q2)), .second, .val (.long (own_f0_23 p0 q3)), .second, .unset, .unset, .unset, .unset, .unset, .unset, .unset, .unset, .unset, .unset]) rfl k) ?_
  show own_Run p e below T30 (mkF m 25 #[.val (.int p0), .val (.long q1), .second, .val (.long q2), .second, .val (.long q3), .second, .val (.long q4), .second, .val (.long q5), .second, .val (.long (own_f0_6 p0 q1)), .second, .val (.long (own_f0_14 p0 q2)), .second, .val (.long (own_f0_23 p0 q3)), .second, .unset, .unset, .unset, .unset, .unset, .unset, .unset, .unset, .unset, .unset] []) _
  refine own_step (fun t k => XS.iloadN X30.here hx rfl (hb hby at_25) rfl  k) ?_
  show own_Run p e below T30 (mkF m 26 #[.val (.int p0), .val (.long q1), .second, .val (.long q2), .second, .val (.long q3), .second, .val (.long q4), .second, .val (.long q5), .second, .val (.long (own_f0_6 p0 q1)), .second, .val (.long (own_f0_14 p0 q2)), .second, .val (.long (own_f0_23 p0 q3)), .second, .unset, .unset, .unset, .unset, .unset, .unset, .unset, .unset, .unset, .unset] [(.int p0)]) _
  refine own_step (fun t k => XS.iconst X30.here hx rfl (hb hby at_26) k) ?_
  show own_Run p e below T30 (mkF m 27 #[.val (.int p0), .val (.long q1), .second, .val (.long q2), .second, .val (.long q3), .second, .val (.long q4), .second, .val (.long q5), .second, .val (.long (own_f0_6 p0 q1)), .second, .val (.long (own_f0_14 p0 q2)), .second, .val (.long (own_f0_23 p0 q3)), .second, .unset, .unset, .unset, .unset, .unset, .unset, .unset, .unset, .unset, .unset] [(.int (3 : Int32)), (.int p0)]) _
  refine own_step (fun t k => XS.lload X30.here hx rfl (hb hby at_27) rfl  k) ?_
  show own_Run p e below T30 (mkF m 29 #[.val (.int p0), .val (.long q1), .second, .val (.long q2), .second, .val (.long q3), .second, .val (.long q4), .second, .val (.long q5), .second, .val (.long (own_f0_6 p0 q1)), .second, .val (.long (own_f0_14 p0 q2)), .second, .val (.long (own_f0_23 p0 q3)), .second, .unset, .unset, .unset, .unset, .unset, .unset, .unset, .unset, .unset, .unset] [(.long q4), (.int (3 : Int32)), (.int p0)]) _
  obtain ⟨_, _, ⟨T31, L31, kq31, nq31⟩, -, X31, ⟨Lc31, hQ31, lq31, yq31, zq31⟩, st31⟩ := Jvm.LawKit.callS X30 hx (y := (⟨"com/example/rxrelay/rxrelay/protocol/gm/Sm2FieldZeroMaskPinLaw", "limb", "(IIJ)J"⟩ : MethodName)) hown (mvT hZ (hw _ (List.mem_of_getElem? (i := 0) rfl))) (mvT hZ (hw _ (List.mem_of_getElem? (i := 1) rfl))) (mvT hZ (hw _ (List.mem_of_getElem? (i := 2) rfl))) (mvT hZ (hw _ (List.mem_of_getElem? (i := 3) rfl))) (by decide) (backOf (W := 0) (rm1 l Z av0 hw [] p0 (3 : Int32) q4 h0 n0 Z0 ) hZ (hw _ (List.mem_of_getElem? (i := 3) rfl)) (hw _ (List.mem_of_getElem? (i := 2) rfl)) (by decide) (by decide)) (g := (mkF m 29 #[.val (.int p0), .val (.long q1), .second, .val (.long q2), .second, .val (.long q3), .second, .val (.long q4), .second, .val (.long q5), .second, .val (.long (own_f0_6 p0 q1)), .second, .val (.long (own_f0_14 p0 q2)), .second, .val (.long (own_f0_23 p0 q3)), .second, .unset, .unset, .unset, .unset, .unset, .unset, .unset, .unset, .unset, .unset] [(.long q4), (.int (3 : Int32)), (.int p0)])) rfl (by rw [hml]; rfl) (argsL := [(.int p0), (.int (3 : Int32)), (.long q4)]) (rest := []) (lenOf own_pd40 rfl) rfl (by show 2 * 0 + _ ≤ _; exact Nat.le_of_eq rfl) (hb hby at_29) (fun _ _ => ⟨rfl, e30, (by decide : 0 + 0 ≤ _), (by decide : 0 + 0 ≤ _)⟩)
  dsimp only [Pt.U, Pt.locs, Pt.cells, Pt.slots] at X31 lq31 yq31 zq31 st31 hQ31
  subst lq31 yq31 zq31
  obtain ⟨rfl, N31q, e31⟩ := hQ31
  have N31 := Fr.app N30 N31q
  refine own_step st31 ?_
  show own_Run p e below T31 (mkF m 32 #[.val (.int p0), .val (.long q1), .second, .val (.long q2), .second, .val (.long q3), .second, .val (.long q4), .second, .val (.long q5), .second, .val (.long (own_f0_6 p0 q1)), .second, .val (.long (own_f0_14 p0 q2)), .second, .val (.long (own_f0_23 p0 q3)), .second, .unset, .unset, .unset, .unset, .unset, .unset, .unset, .unset, .unset, .unset] [(.long (own_r1 p0 (3 : Int32) q4))]) _
  refine own_step (fun t k => XS.lstore X31.here hx rfl (hb hby at_32) rfl (l' := #[.val (.int p0), .val (.long q1), .second, .val (.long q2), .second, .val (.long q3), .second, .val (.long q4), .second, .val (.long q5), .second, .val (.long (own_f0_6 p0 q1)), .second, .val (.long (own_f0_14 p0 q2)), .second, .val (.long (own_f0_23 p0 q3)), .second, .val (.long (own_f0_32 p0 q4)), .second, .unset, .unset, .unset, .unset, .unset, .unset, .unset, .unset]) rfl k) ?_
  show own_Run p e below T31 (mkF m 34 #[.val (.int p0), .val (.long q1), .second, .val (.long q2), .second, .val (.long q3), .second, .val (.long q4), .second, .val (.long q5), .second, .val (.long (own_f0_6 p0 q1)), .second, .val (.long (own_f0_14 p0 q2)), .second, .val (.long (own_f0_23 p0 q3)), .second, .val (.long (own_f0_32 p0 q4)), .second, .unset, .unset, .unset, .unset, .unset, .unset, .unset, .unset] []) _
  refine own_step (fun t k => XS.iloadN X31.here hx rfl (hb hby at_34) rfl  k) ?_
  show own_Run p e below T31 (mkF m 35 #[.val (.int p0), .val (.long q1), .second, .val (.long q2), .second, .val (.long q3), .second, .val (.long q4), .second, .val (.long q5), .second, .val (.long (own_f0_6 p0 q1)), .second, .val (.long (own_f0_14 p0 q2)), .second, .val (.long (own_f0_23 p0 q3)), .second, .val (.long (own_f0_32 p0 q4)), .second, .unset, .unset, .unset, .unset, .unset, .unset, .unset, .unset] [(.int p0)]) _
  refine own_step (fun t k => XS.iconst X31.here hx rfl (hb hby at_35) k) ?_
  show own_Run p e below T31 (mkF m 36 #[.val (.int p0), .val (.long q1), .second, .val (.long q2), .second, .val (.long q3), .second, .val (.long q4), .second, .val (.long q5), .second, .val (.long (own_f0_6 p0 q1)), .second, .val (.long (own_f0_14 p0 q2)), .second, .val (.long (own_f0_23 p0 q3)), .second, .val (.long (own_f0_32 p0 q4)), .second, .unset, .unset, .unset, .unset, .unset, .unset, .unset, .unset] [(.int (4 : Int32)), (.int p0)]) _
  refine own_step (fun t k => XS.lload X31.here hx rfl (hb hby at_36) rfl  k) ?_
  show own_Run p e below T31 (mkF m 38 #[.val (.int p0), .val (.long q1), .second, .val (.long q2), .second, .val (.long q3), .second, .val (.long q4), .second, .val (.long q5), .second, .val (.long (own_f0_6 p0 q1)), .second, .val (.long (own_f0_14 p0 q2)), .second, .val (.long (own_f0_23 p0 q3)), .second, .val (.long (own_f0_32 p0 q4)), .second, .unset, .unset, .unset, .unset, .unset, .unset, .unset, .unset] [(.long q5), (.int (4 : Int32)), (.int p0)]) _
  obtain ⟨_, _, ⟨T32, L32, kq32, nq32⟩, -, X32, ⟨Lc32, hQ32, lq32, yq32, zq32⟩, st32⟩ := Jvm.LawKit.callS X31 hx (y := (⟨"com/example/rxrelay/rxrelay/protocol/gm/Sm2FieldZeroMaskPinLaw", "limb", "(IIJ)J"⟩ : MethodName)) hown (mvT hZ (hw _ (List.mem_of_getElem? (i := 0) rfl))) (mvT hZ (hw _ (List.mem_of_getElem? (i := 1) rfl))) (mvT hZ (hw _ (List.mem_of_getElem? (i := 2) rfl))) (mvT hZ (hw _ (List.mem_of_getElem? (i := 3) rfl))) (by decide) (backOf (W := 0) (rm1 l Z av0 hw [] p0 (4 : Int32) q5 h0 n0 Z0 ) hZ (hw _ (List.mem_of_getElem? (i := 3) rfl)) (hw _ (List.mem_of_getElem? (i := 2) rfl)) (by decide) (by decide)) (g := (mkF m 38 #[.val (.int p0), .val (.long q1), .second, .val (.long q2), .second, .val (.long q3), .second, .val (.long q4), .second, .val (.long q5), .second, .val (.long (own_f0_6 p0 q1)), .second, .val (.long (own_f0_14 p0 q2)), .second, .val (.long (own_f0_23 p0 q3)), .second, .val (.long (own_f0_32 p0 q4)), .second, .unset, .unset, .unset, .unset, .unset, .unset, .unset, .unset] [(.long q5), (.int (4 : Int32)), (.int p0)])) rfl (by rw [hml]; rfl) (argsL := [(.int p0), (.int (4 : Int32)), (.long q5)]) (rest := []) (lenOf own_pd40 rfl) rfl (by show 2 * 0 + _ ≤ _; exact Nat.le_of_eq rfl) (hb hby at_38) (fun _ _ => ⟨rfl, e31, (by decide : 0 + 0 ≤ _), (by decide : 0 + 0 ≤ _)⟩)
  dsimp only [Pt.U, Pt.locs, Pt.cells, Pt.slots] at X32 lq32 yq32 zq32 st32 hQ32
  subst lq32 yq32 zq32
  obtain ⟨rfl, N32q, e32⟩ := hQ32
  have N32 := Fr.app N31 N32q
  refine own_step st32 ?_
  show own_Run p e below T32 (mkF m 41 #[.val (.int p0), .val (.long q1), .second, .val (.long q2), .second, .val (.long q3), .second, .val (.long q4), .second, .val (.long q5), .second, .val (.long (own_f0_6 p0 q1)), .second, .val (.long (own_f0_14 p0 q2)), .second, .val (.long (own_f0_23 p0 q3)), .second, .val (.long (own_f0_32 p0 q4)), .second, .unset, .unset, .unset, .unset, .unset, .unset, .unset, .unset] [(.long (own_r1 p0 (4 : Int32) q5))]) _
  refine own_step (fun t k => XS.lstore X32.here hx rfl (hb hby at_41) rfl (l' := #[.val (.int p0), .val (.long q1), .second, .val (.long q2), .second, .val (.long q3), .second, .val (.long q4), .second, .val (.long q5), .second, .val (.long (own_f0_6 p0 q1)), .second, .val (.long (own_f0_14 p0 q2)), .second, .val (.long (own_f0_23 p0 q3)), .second, .val (.long (own_f0_32 p0 q4)), .second, .val (.long (own_f0_41 p0 q5)), .second, .unset, .unset, .unset, .unset, .unset, .unset]) rfl k) ?_
  show own_Run p e below T32 (mkF m 43 #[.val (.int p0), .val (.long q1), .second, .val (.long q2), .second, .val (.long q3), .second, .val (.long q4), .second, .val (.long q5), .second, .val (.long (own_f0_6 p0 q1)), .second, .val (.long (own_f0_14 p0 q2)), .second, .val (.long (own_f0_23 p0 q3)), .second, .val (.long (own_f0_32 p0 q4)), .second, .val (.long (own_f0_41 p0 q5)), .second, .unset, .unset, .unset, .unset, .unset, .unset] []) _
  refine own_step (fun t k => XS.iconst X32.here hx rfl (hb hby at_43) k) ?_
  show own_Run p e below T32 (mkF m 44 #[.val (.int p0), .val (.long q1), .second, .val (.long q2), .second, .val (.long q3), .second, .val (.long q4), .second, .val (.long q5), .second, .val (.long (own_f0_6 p0 q1)), .second, .val (.long (own_f0_14 p0 q2)), .second, .val (.long (own_f0_23 p0 q3)), .second, .val (.long (own_f0_32 p0 q4)), .second, .val (.long (own_f0_41 p0 q5)), .second, .unset, .unset, .unset, .unset, .unset, .unset] [(.int (5 : Int32))]) _
  obtain ⟨T33, h33, k33, X33, e33, E33, A33, st33⟩ := newP X32 hx hZ (hw _ (List.mem_of_getElem? (i := 5) rfl)) e32 (g := (mkF m 44 #[.val (.int p0), .val (.long q1), .second, .val (.long q2), .second, .val (.long q3), .second, .val (.long q4), .second, .val (.long q5), .second, .val (.long (own_f0_6 p0 q1)), .second, .val (.long (own_f0_14 p0 q2)), .second, .val (.long (own_f0_23 p0 q3)), .second, .val (.long (own_f0_32 p0 q4)), .second, .val (.long (own_f0_41 p0 q5)), .second, .unset, .unset, .unset, .unset, .unset, .unset] [(.int (5 : Int32))])) rfl (hb hby at_44) rfl (by decide) (cap := 5) (by decide) (by decide) (by decide) (by decide)
  obtain ⟨b33, g33⟩ : ∃ z, z = h0.size := ⟨_, rfl⟩
  rw [← g33] at A33 st33
  have geb33 : n0 ≤ b33 := Nat.le_trans Z0 (Nat.le_of_eq g33.symm)
  have Zn33 : n0 ≤ h33.size := Nat.le_trans Z0 E33.1
  have V33 : Arv Z h33 b33 k33 .long (5 : Int32) [(.long (0 : Int64)), (.long (0 : Int64)), (.long (0 : Int64)), (.long (0 : Int64)), (.long (0 : Int64))] (.long (0 : Int64)) := (Arv.new A33 (by decide)).pad (pad_rep [] (.long (0 : Int64)) 5)
  refine own_step st33 ?_
  show own_Run p e below T33 (mkF m 46 #[.val (.int p0), .val (.long q1), .second, .val (.long q2), .second, .val (.long q3), .second, .val (.long q4), .second, .val (.long q5), .second, .val (.long (own_f0_6 p0 q1)), .second, .val (.long (own_f0_14 p0 q2)), .second, .val (.long (own_f0_23 p0 q3)), .second, .val (.long (own_f0_32 p0 q4)), .second, .val (.long (own_f0_41 p0 q5)), .second, .unset, .unset, .unset, .unset, .unset, .unset] [(.ref b33)]) _
  refine own_step (fun t k => XS.astore X33.here hx rfl (hb hby at_46) rfl rfl (l' := #[.val (.int p0), .val (.long q1), .second, .val (.long q2), .second, .val (.long q3), .second, .val (.long q4), .second, .val (.long q5), .second, .val (.long (own_f0_6 p0 q1)), .second, .val (.long (own_f0_14 p0 q2)), .second, .val (.long (own_f0_23 p0 q3)), .second, .val (.long (own_f0_32 p0 q4)), .second, .val (.long (own_f0_41 p0 q5)), .second, .val (.ref b33), .unset, .unset, .unset, .unset, .unset]) rfl k) ?_
  show own_Run p e below T33 (mkF m 48 #[.val (.int p0), .val (.long q1), .second, .val (.long q2), .second, .val (.long q3), .second, .val (.long q4), .second, .val (.long q5), .second, .val (.long (own_f0_6 p0 q1)), .second, .val (.long (own_f0_14 p0 q2)), .second, .val (.long (own_f0_23 p0 q3)), .second, .val (.long (own_f0_32 p0 q4)), .second, .val (.long (own_f0_41 p0 q5)), .second, .val (.ref b33), .unset, .unset, .unset, .unset, .unset] []) _
  refine own_step (fun t k => XS.aload X33.here hx rfl (hb hby at_48) rfl rfl k) ?_
  show own_Run p e below T33 (mkF m 50 #[.val (.int p0), .val (.long q1), .second, .val (.long q2), .second, .val (.long q3), .second, .val (.long q4), .second, .val (.long q5), .second, .val (.long (own_f0_6 p0 q1)), .second, .val (.long (own_f0_14 p0 q2)), .second, .val (.long (own_f0_23 p0 q3)), .second, .val (.long (own_f0_32 p0 q4)), .second, .val (.long (own_f0_41 p0 q5)), .second, .val (.ref b33), .unset, .unset, .unset, .unset, .unset] [(.ref b33)]) _
  refine own_step (fun t k => XS.iconst X33.here hx rfl (hb hby at_50) k) ?_
  show own_Run p e below T33 (mkF m 51 #[.val (.int p0), .val (.long q1), .second, .val (.long q2), .second, .val (.long q3), .second, .val (.long q4), .second, .val (.long q5), .second, .val (.long (own_f0_6 p0 q1)), .second, .val (.long (own_f0_14 p0 q2)), .second, .val (.long (own_f0_23 p0 q3)), .second, .val (.long (own_f0_32 p0 q4)), .second, .val (.long (own_f0_41 p0 q5)), .second, .val (.ref b33), .unset, .unset, .unset, .unset, .unset] [(.int (0 : Int32)), (.ref b33)]) _
  refine own_step (fun t k => XS.lload X33.here hx rfl (hb hby at_51) rfl  k) ?_
  show own_Run p e below T33 (mkF m 53 #[.val (.int p0), .val (.long q1), .second, .val (.long q2), .second, .val (.long q3), .second, .val (.long q4), .second, .val (.long q5), .second, .val (.long (own_f0_6 p0 q1)), .second, .val (.long (own_f0_14 p0 q2)), .second, .val (.long (own_f0_23 p0 q3)), .second, .val (.long (own_f0_32 p0 q4)), .second, .val (.long (own_f0_41 p0 q5)), .second, .val (.ref b33), .unset, .unset, .unset, .unset, .unset] [(.long (own_f0_6 p0 q1)), (.int (0 : Int32)), (.ref b33)]) _
  obtain ⟨T34, h34, L34, X34, e34, N34, W34, V34, st34⟩ := own_stJ X33 hx hZ e33 V33 N32 geb33 (j := (0 : Int32)) ⟨by decide, by decide⟩ 0 rfl (Nat.le_of_ble_eq_true rfl) (g := (mkF m 53 #[.val (.int p0), .val (.long q1), .second, .val (.long q2), .second, .val (.long q3), .second, .val (.long q4), .second, .val (.long q5), .second, .val (.long (own_f0_6 p0 q1)), .second, .val (.long (own_f0_14 p0 q2)), .second, .val (.long (own_f0_23 p0 q3)), .second, .val (.long (own_f0_32 p0 q4)), .second, .val (.long (own_f0_41 p0 q5)), .second, .val (.ref b33), .unset, .unset, .unset, .unset, .unset] [(.long (own_f0_6 p0 q1)), (.int (0 : Int32)), (.ref b33)])) rfl rfl (hb hby at_53)
  have V34x : Arv Z h34 b33 k33 .long (5 : Int32) [(.long (own_f0_6 p0 q1)), (.long (0 : Int64)), (.long (0 : Int64)), (.long (0 : Int64)), (.long (0 : Int64))] (.long (0 : Int64)) := V34
  have Zn34 : n0 ≤ h34.size := Nat.le_trans Zn33 (Keep.of_wr W34).1
  refine own_step st34 ?_
  show own_Run p e below T34 (mkF m 54 #[.val (.int p0), .val (.long q1), .second, .val (.long q2), .second, .val (.long q3), .second, .val (.long q4), .second, .val (.long q5), .second, .val (.long (own_f0_6 p0 q1)), .second, .val (.long (own_f0_14 p0 q2)), .second, .val (.long (own_f0_23 p0 q3)), .second, .val (.long (own_f0_32 p0 q4)), .second, .val (.long (own_f0_41 p0 q5)), .second, .val (.ref b33), .unset, .unset, .unset, .unset, .unset] []) _
  refine own_step (fun t k => XS.aload X34.here hx rfl (hb hby at_54) rfl rfl k) ?_
  show own_Run p e below T34 (mkF m 56 #[.val (.int p0), .val (.long q1), .second, .val (.long q2), .second, .val (.long q3), .second, .val (.long q4), .second, .val (.long q5), .second, .val (.long (own_f0_6 p0 q1)), .second, .val (.long (own_f0_14 p0 q2)), .second, .val (.long (own_f0_23 p0 q3)), .second, .val (.long (own_f0_32 p0 q4)), .second, .val (.long (own_f0_41 p0 q5)), .second, .val (.ref b33), .unset, .unset, .unset, .unset, .unset] [(.ref b33)]) _
  refine own_step (fun t k => XS.iconst X34.here hx rfl (hb hby at_56) k) ?_
  show own_Run p e below T34 (mkF m 57 #[.val (.int p0), .val (.long q1), .second, .val (.long q2), .second, .val (.long q3), .second, .val (.long q4), .second, .val (.long q5), .second, .val (.long (own_f0_6 p0 q1)), .second, .val (.long (own_f0_14 p0 q2)), .second, .val (.long (own_f0_23 p0 q3)), .second, .val (.long (own_f0_32 p0 q4)), .second, .val (.long (own_f0_41 p0 q5)), .second, .val (.ref b33), .unset, .unset, .unset, .unset, .unset] [(.int (1 : Int32)), (.ref b33)]) _
  refine own_step (fun t k => XS.lload X34.here hx rfl (hb hby at_57) rfl  k) ?_
  show own_Run p e below T34 (mkF m 59 #[.val (.int p0), .val (.long q1), .second, .val (.long q2), .second, .val (.long q3), .second, .val (.long q4), .second, .val (.long q5), .second, .val (.long (own_f0_6 p0 q1)), .second, .val (.long (own_f0_14 p0 q2)), .second, .val (.long (own_f0_23 p0 q3)), .second, .val (.long (own_f0_32 p0 q4)), .second, .val (.long (own_f0_41 p0 q5)), .second, .val (.ref b33), .unset, .unset, .unset, .unset, .unset] [(.long (own_f0_14 p0 q2)), (.int (1 : Int32)), (.ref b33)]) _
  obtain ⟨T35, h35, L35, X35, e35, N35, W35, V35, st35⟩ := own_stJ X34 hx hZ e34 V34x N34 geb33 (j := (1 : Int32)) ⟨by decide, by decide⟩ 1 rfl (Nat.le_of_ble_eq_true rfl) (g := (mkF m 59 #[.val (.int p0), .val (.long q1), .second, .val (.long q2), .second, .val (.long q3), .second, .val (.long q4), .second, .val (.long q5), .second, .val (.long (own_f0_6 p0 q1)), .second, .val (.long (own_f0_14 p0 q2)), .second, .val (.long (own_f0_23 p0 q3)), .second, .val (.long (own_f0_32 p0 q4)), .second, .val (.long (own_f0_41 p0 q5)), .second, .val (.ref b33), .unset, .unset, .unset, .unset, .unset] [(.long (own_f0_14 p0 q2)), (.int (1 : Int32)), (.ref b33)])) rfl rfl (hb hby at_59)
  have V35x : Arv Z h35 b33 k33 .long (5 : Int32) [(.long (own_f0_6 p0 q1)), (.long (own_f0_14 p0 q2)), (.long (0 : Int64)), (.long (0 : Int64)), (.long (0 : Int64))] (.long (0 : Int64)) := V35
  have Zn35 : n0 ≤ h35.size := Nat.le_trans Zn34 (Keep.of_wr W35).1
  refine own_step st35 ?_
  show own_Run p e below T35 (mkF m 60 #[.val (.int p0), .val (.long q1), .second, .val (.long q2), .second, .val (.long q3), .second, .val (.long q4), .second, .val (.long q5), .second, .val (.long (own_f0_6 p0 q1)), .second, .val (.long (own_f0_14 p0 q2)), .second, .val (.long (own_f0_23 p0 q3)), .second, .val (.long (own_f0_32 p0 q4)), .second, .val (.long (own_f0_41 p0 q5)), .second, .val (.ref b33), .unset, .unset, .unset, .unset, .unset] []) _
  refine own_step (fun t k => XS.aload X35.here hx rfl (hb hby at_60) rfl rfl k) ?_
  show own_Run p e below T35 (mkF m 62 #[.val (.int p0), .val (.long q1), .second, .val (.long q2), .second, .val (.long q3), .second, .val (.long q4), .second, .val (.long q5), .second, .val (.long (own_f0_6 p0 q1)), .second, .val (.long (own_f0_14 p0 q2)), .second, .val (.long (own_f0_23 p0 q3)), .second, .val (.long (own_f0_32 p0 q4)), .second, .val (.long (own_f0_41 p0 q5)), .second, .val (.ref b33), .unset, .unset, .unset, .unset, .unset] [(.ref b33)]) _
  refine own_step (fun t k => XS.iconst X35.here hx rfl (hb hby at_62) k) ?_
  show own_Run p e below T35 (mkF m 63 #[.val (.int p0), .val (.long q1), .second, .val (.long q2), .second, .val (.long q3), .second, .val (.long q4), .second, .val (.long q5), .second, .val (.long (own_f0_6 p0 q1)), .second, .val (.long (own_f0_14 p0 q2)), .second, .val (.long (own_f0_23 p0 q3)), .second, .val (.long (own_f0_32 p0 q4)), .second, .val (.long (own_f0_41 p0 q5)), .second, .val (.ref b33), .unset, .unset, .unset, .unset, .unset] [(.int (2 : Int32)), (.ref b33)]) _
  refine own_step (fun t k => XS.lload X35.here hx rfl (hb hby at_63) rfl  k) ?_
  show own_Run p e below T35 (mkF m 65 #[.val (.int p0), .val (.long q1), .second, .val (.long q2), .second, .val (.long q3), .second, .val (.long q4), .second, .val (.long q5), .second, .val (.long (own_f0_6 p0 q1)), .second, .val (.long (own_f0_14 p0 q2)), .second, .val (.long (own_f0_23 p0 q3)), .second, .val (.long (own_f0_32 p0 q4)), .second, .val (.long (own_f0_41 p0 q5)), .second, .val (.ref b33), .unset, .unset, .unset, .unset, .unset] [(.long (own_f0_23 p0 q3)), (.int (2 : Int32)), (.ref b33)]) _
  obtain ⟨T36, h36, L36, X36, e36, N36, W36, V36, st36⟩ := own_stJ X35 hx hZ e35 V35x N35 geb33 (j := (2 : Int32)) ⟨by decide, by decide⟩ 2 rfl (Nat.le_of_ble_eq_true rfl) (g := (mkF m 65 #[.val (.int p0), .val (.long q1), .second, .val (.long q2), .second, .val (.long q3), .second, .val (.long q4), .second, .val (.long q5), .second, .val (.long (own_f0_6 p0 q1)), .second, .val (.long (own_f0_14 p0 q2)), .second, .val (.long (own_f0_23 p0 q3)), .second, .val (.long (own_f0_32 p0 q4)), .second, .val (.long (own_f0_41 p0 q5)), .second, .val (.ref b33), .unset, .unset, .unset, .unset, .unset] [(.long (own_f0_23 p0 q3)), (.int (2 : Int32)), (.ref b33)])) rfl rfl (hb hby at_65)
  have V36x : Arv Z h36 b33 k33 .long (5 : Int32) [(.long (own_f0_6 p0 q1)), (.long (own_f0_14 p0 q2)), (.long (own_f0_23 p0 q3)), (.long (0 : Int64)), (.long (0 : Int64))] (.long (0 : Int64)) := V36
  have Zn36 : n0 ≤ h36.size := Nat.le_trans Zn35 (Keep.of_wr W36).1
  refine own_step st36 ?_
  show own_Run p e below T36 (mkF m 66 #[.val (.int p0), .val (.long q1), .second, .val (.long q2), .second, .val (.long q3), .second, .val (.long q4), .second, .val (.long q5), .second, .val (.long (own_f0_6 p0 q1)), .second, .val (.long (own_f0_14 p0 q2)), .second, .val (.long (own_f0_23 p0 q3)), .second, .val (.long (own_f0_32 p0 q4)), .second, .val (.long (own_f0_41 p0 q5)), .second, .val (.ref b33), .unset, .unset, .unset, .unset, .unset] []) _
  refine own_step (fun t k => XS.aload X36.here hx rfl (hb hby at_66) rfl rfl k) ?_
  show own_Run p e below T36 (mkF m 68 #[.val (.int p0), .val (.long q1), .second, .val (.long q2), .second, .val (.long q3), .second, .val (.long q4), .second, .val (.long q5), .second, .val (.long (own_f0_6 p0 q1)), .second, .val (.long (own_f0_14 p0 q2)), .second, .val (.long (own_f0_23 p0 q3)), .second, .val (.long (own_f0_32 p0 q4)), .second, .val (.long (own_f0_41 p0 q5)), .second, .val (.ref b33), .unset, .unset, .unset, .unset, .unset] [(.ref b33)]) _
  refine own_step (fun t k => XS.iconst X36.here hx rfl (hb hby at_68) k) ?_
  show own_Run p e below T36 (mkF m 69 #[.val (.int p0), .val (.long q1), .second, .val (.long q2), .second, .val (.long q3), .second, .val (.long q4), .second, .val (.long q5), .second, .val (.long (own_f0_6 p0 q1)), .second, .val (.long (own_f0_14 p0 q2)), .second, .val (.long (own_f0_23 p0 q3)), .second, .val (.long (own_f0_32 p0 q4)), .second, .val (.long (own_f0_41 p0 q5)), .second, .val (.ref b33), .unset, .unset, .unset, .unset, .unset] [(.int (3 : Int32)), (.ref b33)]) _
  refine own_step (fun t k => XS.lload X36.here hx rfl (hb hby at_69) rfl  k) ?_
  show own_Run p e below T36 (mkF m 71 #[.val (.int p0), .val (.long q1), .second, .val (.long q2), .second, .val (.long q3), .second, .val (.long q4), .second, .val (.long q5), .second, .val (.long (own_f0_6 p0 q1)), .second, .val (.long (own_f0_14 p0 q2)), .second, .val (.long (own_f0_23 p0 q3)), .second, .val (.long (own_f0_32 p0 q4)), .second, .val (.long (own_f0_41 p0 q5)), .second, .val (.ref b33), .unset, .unset, .unset, .unset, .unset] [(.long (own_f0_32 p0 q4)), (.int (3 : Int32)), (.ref b33)]) _
  obtain ⟨T37, h37, L37, X37, e37, N37, W37, V37, st37⟩ := own_stJ X36 hx hZ e36 V36x N36 geb33 (j := (3 : Int32)) ⟨by decide, by decide⟩ 3 rfl (Nat.le_of_ble_eq_true rfl) (g := (mkF m 71 #[.val (.int p0), .val (.long q1), .second, .val (.long q2), .second, .val (.long q3), .second, .val (.long q4), .second, .val (.long q5), .second, .val (.long (own_f0_6 p0 q1)), .second, .val (.long (own_f0_14 p0 q2)), .second, .val (.long (own_f0_23 p0 q3)), .second, .val (.long (own_f0_32 p0 q4)), .second, .val (.long (own_f0_41 p0 q5)), .second, .val (.ref b33), .unset, .unset, .unset, .unset, .unset] [(.long (own_f0_32 p0 q4)), (.int (3 : Int32)), (.ref b33)])) rfl rfl (hb hby at_71)
  have V37x : Arv Z h37 b33 k33 .long (5 : Int32) [(.long (own_f0_6 p0 q1)), (.long (own_f0_14 p0 q2)), (.long (own_f0_23 p0 q3)), (.long (own_f0_32 p0 q4)), (.long (0 : Int64))] (.long (0 : Int64)) := V37
  have Zn37 : n0 ≤ h37.size := Nat.le_trans Zn36 (Keep.of_wr W37).1
  refine own_step st37 ?_
  show own_Run p e below T37 (mkF m 72 #[.val (.int p0), .val (.long q1), .second, .val (.long q2), .second, .val (.long q3), .second, .val (.long q4), .second, .val (.long q5), .second, .val (.long (own_f0_6 p0 q1)), .second, .val (.long (own_f0_14 p0 q2)), .second, .val (.long (own_f0_23 p0 q3)), .second, .val (.long (own_f0_32 p0 q4)), .second, .val (.long (own_f0_41 p0 q5)), .second, .val (.ref b33), .unset, .unset, .unset, .unset, .unset] []) _
  refine own_step (fun t k => XS.aload X37.here hx rfl (hb hby at_72) rfl rfl k) ?_
  show own_Run p e below T37 (mkF m 74 #[.val (.int p0), .val (.long q1), .second, .val (.long q2), .second, .val (.long q3), .second, .val (.long q4), .second, .val (.long q5), .second, .val (.long (own_f0_6 p0 q1)), .second, .val (.long (own_f0_14 p0 q2)), .second, .val (.long (own_f0_23 p0 q3)), .second, .val (.long (own_f0_32 p0 q4)), .second, .val (.long (own_f0_41 p0 q5)), .second, .val (.ref b33), .unset, .unset, .unset, .unset, .unset] [(.ref b33)]) _
  refine own_step (fun t k => XS.iconst X37.here hx rfl (hb hby at_74) k) ?_
  show own_Run p e below T37 (mkF m 75 #[.val (.int p0), .val (.long q1), .second, .val (.long q2), .second, .val (.long q3), .second, .val (.long q4), .second, .val (.long q5), .second, .val (.long (own_f0_6 p0 q1)), .second, .val (.long (own_f0_14 p0 q2)), .second, .val (.long (own_f0_23 p0 q3)), .second, .val (.long (own_f0_32 p0 q4)), .second, .val (.long (own_f0_41 p0 q5)), .second, .val (.ref b33), .unset, .unset, .unset, .unset, .unset] [(.int (4 : Int32)), (.ref b33)]) _
  refine own_step (fun t k => XS.lload X37.here hx rfl (hb hby at_75) rfl  k) ?_
  show own_Run p e below T37 (mkF m 77 #[.val (.int p0), .val (.long q1), .second, .val (.long q2), .second, .val (.long q3), .second, .val (.long q4), .second, .val (.long q5), .second, .val (.long (own_f0_6 p0 q1)), .second, .val (.long (own_f0_14 p0 q2)), .second, .val (.long (own_f0_23 p0 q3)), .second, .val (.long (own_f0_32 p0 q4)), .second, .val (.long (own_f0_41 p0 q5)), .second, .val (.ref b33), .unset, .unset, .unset, .unset, .unset] [(.long (own_f0_41 p0 q5)), (.int (4 : Int32)), (.ref b33)]) _
  obtain ⟨T38, h38, L38, X38, e38, N38, W38, V38, st38⟩ := own_stJ X37 hx hZ e37 V37x N37 geb33 (j := (4 : Int32)) ⟨by decide, by decide⟩ 4 rfl (Nat.le_of_ble_eq_true rfl) (g := (mkF m 77 #[.val (.int p0), .val (.long q1), .second, .val (.long q2), .second, .val (.long q3), .second, .val (.long q4), .second, .val (.long q5), .second, .val (.long (own_f0_6 p0 q1)), .second, .val (.long (own_f0_14 p0 q2)), .second, .val (.long (own_f0_23 p0 q3)), .second, .val (.long (own_f0_32 p0 q4)), .second, .val (.long (own_f0_41 p0 q5)), .second, .val (.ref b33), .unset, .unset, .unset, .unset, .unset] [(.long (own_f0_41 p0 q5)), (.int (4 : Int32)), (.ref b33)])) rfl rfl (hb hby at_77)
  have V38x : Arv Z h38 b33 k33 .long (5 : Int32) [(.long (own_f0_6 p0 q1)), (.long (own_f0_14 p0 q2)), (.long (own_f0_23 p0 q3)), (.long (own_f0_32 p0 q4)), (.long (own_f0_41 p0 q5))] (.long (0 : Int64)) := V38
  have Zn38 : n0 ≤ h38.size := Nat.le_trans Zn37 (Keep.of_wr W38).1
  refine own_step st38 ?_
  show own_Run p e below T38 (mkF m 78 #[.val (.int p0), .val (.long q1), .second, .val (.long q2), .second, .val (.long q3), .second, .val (.long q4), .second, .val (.long q5), .second, .val (.long (own_f0_6 p0 q1)), .second, .val (.long (own_f0_14 p0 q2)), .second, .val (.long (own_f0_23 p0 q3)), .second, .val (.long (own_f0_32 p0 q4)), .second, .val (.long (own_f0_41 p0 q5)), .second, .val (.ref b33), .unset, .unset, .unset, .unset, .unset] []) _
  refine own_step (fun t k => XS.aload X38.here hx rfl (hb hby at_78) rfl rfl k) ?_
  show own_Run p e below T38 (mkF m 80 #[.val (.int p0), .val (.long q1), .second, .val (.long q2), .second, .val (.long q3), .second, .val (.long q4), .second, .val (.long q5), .second, .val (.long (own_f0_6 p0 q1)), .second, .val (.long (own_f0_14 p0 q2)), .second, .val (.long (own_f0_23 p0 q3)), .second, .val (.long (own_f0_32 p0 q4)), .second, .val (.long (own_f0_41 p0 q5)), .second, .val (.ref b33), .unset, .unset, .unset, .unset, .unset] [(.ref b33)]) _
  obtain ⟨_, _, ⟨T39, L39, kq39, nq39⟩, -, X39, ⟨Lc39, hQ39, lq39, yq39, zq39⟩, st39⟩ := Jvm.LawKit.callS X38 hx (y := (⟨"com/example/rxrelay/rxrelay/protocol/gm/Sm2Field", "zeroMask", "([J)J"⟩ : MethodName)) hown (mvT hZ (hw _ (List.mem_of_getElem? (i := 6) rfl))) (mvT hZ (hw _ (List.mem_of_getElem? (i := 7) rfl))) (mvT hZ (hw _ (List.mem_of_getElem? (i := 8) rfl))) (mvT hZ (hw _ (List.mem_of_getElem? (i := 9) rfl))) (by decide) (backOf (W := 0) (rm2 l Z av0 hw [] b33 k33 (own_f0_6 p0 q1) (own_f0_14 p0 q2) (own_f0_23 p0 q3) (own_f0_32 p0 q4) (own_f0_41 p0 q5) h38 n0 Zn38 V38x) hZ (hw _ (List.mem_of_getElem? (i := 9) rfl)) (hw _ (List.mem_of_getElem? (i := 8) rfl)) (by decide) (by decide)) (g := (mkF m 80 #[.val (.int p0), .val (.long q1), .second, .val (.long q2), .second, .val (.long q3), .second, .val (.long q4), .second, .val (.long q5), .second, .val (.long (own_f0_6 p0 q1)), .second, .val (.long (own_f0_14 p0 q2)), .second, .val (.long (own_f0_23 p0 q3)), .second, .val (.long (own_f0_32 p0 q4)), .second, .val (.long (own_f0_41 p0 q5)), .second, .val (.ref b33), .unset, .unset, .unset, .unset, .unset] [(.ref b33)])) rfl (by rw [hml]; rfl) (argsL := [(.ref b33)]) (rest := []) (lenOf own_pd41 rfl) rfl (by show 2 * 0 + _ ≤ _; exact Nat.le_of_eq rfl) (hb hby at_80) (fun _ _ => ⟨rfl, e38, (by decide : 1 + 0 ≤ _), (by decide : 5 + 0 ≤ _)⟩)
  dsimp only [Pt.U, Pt.locs, Pt.cells, Pt.slots] at X39 lq39 yq39 zq39 st39 hQ39
  subst lq39 yq39 zq39
  obtain ⟨rfl, N39q, e39⟩ := hQ39
  have N39 := Fr.app N38 N39q
  refine own_step st39 ?_
  show own_Run p e below T39 (mkF m 83 #[.val (.int p0), .val (.long q1), .second, .val (.long q2), .second, .val (.long q3), .second, .val (.long q4), .second, .val (.long q5), .second, .val (.long (own_f0_6 p0 q1)), .second, .val (.long (own_f0_14 p0 q2)), .second, .val (.long (own_f0_23 p0 q3)), .second, .val (.long (own_f0_32 p0 q4)), .second, .val (.long (own_f0_41 p0 q5)), .second, .val (.ref b33), .unset, .unset, .unset, .unset, .unset] [(.long (own_r2 (own_f0_6 p0 q1) (own_f0_14 p0 q2) (own_f0_23 p0 q3) (own_f0_32 p0 q4) (own_f0_41 p0 q5)))]) _
  refine own_step (fun t k => XS.lstore X39.here hx rfl (hb hby at_83) rfl (l' := #[.val (.int p0), .val (.long q1), .second, .val (.long q2), .second, .val (.long q3), .second, .val (.long q4), .second, .val (.long q5), .second, .val (.long (own_f0_6 p0 q1)), .second, .val (.long (own_f0_14 p0 q2)), .second, .val (.long (own_f0_23 p0 q3)), .second, .val (.long (own_f0_32 p0 q4)), .second, .val (.long (own_f0_41 p0 q5)), .second, .val (.ref b33), .val (.long (own_f0_83 p0 q1 q2 q3 q4 q5)), .second, .unset, .unset, .unset]) rfl k) ?_
  show own_Run p e below T39 (mkF m 85 #[.val (.int p0), .val (.long q1), .second, .val (.long q2), .second, .val (.long q3), .second, .val (.long q4), .second, .val (.long q5), .second, .val (.long (own_f0_6 p0 q1)), .second, .val (.long (own_f0_14 p0 q2)), .second, .val (.long (own_f0_23 p0 q3)), .second, .val (.long (own_f0_32 p0 q4)), .second, .val (.long (own_f0_41 p0 q5)), .second, .val (.ref b33), .val (.long (own_f0_83 p0 q1 q2 q3 q4 q5)), .second, .unset, .unset, .unset] []) _
  refine own_step (fun t k => XS.lload X39.here hx rfl (hb hby at_85) rfl  k) ?_
  show own_Run p e below T39 (mkF m 87 #[.val (.int p0), .val (.long q1), .second, .val (.long q2), .second, .val (.long q3), .second, .val (.long q4), .second, .val (.long q5), .second, .val (.long (own_f0_6 p0 q1)), .second, .val (.long (own_f0_14 p0 q2)), .second, .val (.long (own_f0_23 p0 q3)), .second, .val (.long (own_f0_32 p0 q4)), .second, .val (.long (own_f0_41 p0 q5)), .second, .val (.ref b33), .val (.long (own_f0_83 p0 q1 q2 q3 q4 q5)), .second, .unset, .unset, .unset] [(.long (own_f0_6 p0 q1))]) _
  refine own_step (fun t k => XS.lconst X39.here hx rfl (hb hby at_87) k) ?_
  show own_Run p e below T39 (mkF m 88 #[.val (.int p0), .val (.long q1), .second, .val (.long q2), .second, .val (.long q3), .second, .val (.long q4), .second, .val (.long q5), .second, .val (.long (own_f0_6 p0 q1)), .second, .val (.long (own_f0_14 p0 q2)), .second, .val (.long (own_f0_23 p0 q3)), .second, .val (.long (own_f0_32 p0 q4)), .second, .val (.long (own_f0_41 p0 q5)), .second, .val (.ref b33), .val (.long (own_f0_83 p0 q1 q2 q3 q4 q5)), .second, .unset, .unset, .unset] [(.long (0 : Int64)), (.long (own_f0_6 p0 q1))]) _
  refine own_step (fun t k => XS.lcmp X39.here hx rfl (hb hby at_88) rfl k) ?_
  show own_Run p e below T39 (mkF m 89 #[.val (.int p0), .val (.long q1), .second, .val (.long q2), .second, .val (.long q3), .second, .val (.long q4), .second, .val (.long q5), .second, .val (.long (own_f0_6 p0 q1)), .second, .val (.long (own_f0_14 p0 q2)), .second, .val (.long (own_f0_23 p0 q3)), .second, .val (.long (own_f0_32 p0 q4)), .second, .val (.long (own_f0_41 p0 q5)), .second, .val (.ref b33), .val (.long (own_f0_83 p0 q1 q2 q3 q4 q5)), .second, .unset, .unset, .unset] [(.int (lcmpW (own_f0_6 p0 q1) (0 : Int64)))]) _
  obtain ⟨_, st40, rfl⟩ : own_Run p e below T39 (mkF m 89 #[.val (.int p0), .val (.long q1), .second, .val (.long q2), .second, .val (.long q3), .second, .val (.long q4), .second, .val (.long q5), .second, .val (.long (own_f0_6 p0 q1)), .second, .val (.long (own_f0_14 p0 q2)), .second, .val (.long (own_f0_23 p0 q3)), .second, .val (.long (own_f0_32 p0 q4)), .second, .val (.long (own_f0_41 p0 q5)), .second, .val (.ref b33), .val (.long (own_f0_83 p0 q1 q2 q3 q4 q5)), .second, .unset, .unset, .unset] [(.int (lcmpW (own_f0_6 p0 q1) (0 : Int64)))]) (fun t => t = T39.setTop (mkF m 131 #[.val (.int p0), .val (.long q1), .second, .val (.long q2), .second, .val (.long q3), .second, .val (.long q4), .second, .val (.long q5), .second, .val (.long (own_f0_6 p0 q1)), .second, .val (.long (own_f0_14 p0 q2)), .second, .val (.long (own_f0_23 p0 q3)), .second, .val (.long (own_f0_32 p0 q4)), .second, .val (.long (own_f0_41 p0 q5)), .second, .val (.ref b33), .val (.long (own_f0_83 p0 q1 q2 q3 q4 q5)), .second, .val (.long (own_f0_j131_L24 p0 q1 q2 q3 q4 q5)), .second, .unset] [])) := by
    by_cases hc41 : (lcmpW (own_f0_6 p0 q1) (0 : Int64)) = (0 : Int32)
    · refine own_step (fun t k => XS.ifNo X39.here hx rfl (hb hby at_89) rfl ((if0 _ _).trans (teq hc41).2) k) ?_
      show own_Run p e below T39 (mkF m 92 #[.val (.int p0), .val (.long q1), .second, .val (.long q2), .second, .val (.long q3), .second, .val (.long q4), .second, .val (.long q5), .second, .val (.long (own_f0_6 p0 q1)), .second, .val (.long (own_f0_14 p0 q2)), .second, .val (.long (own_f0_23 p0 q3)), .second, .val (.long (own_f0_32 p0 q4)), .second, .val (.long (own_f0_41 p0 q5)), .second, .val (.ref b33), .val (.long (own_f0_83 p0 q1 q2 q3 q4 q5)), .second, .unset, .unset, .unset] []) _
      refine own_step (fun t k => XS.lload X39.here hx rfl (hb hby at_92) rfl  k) ?_
      show own_Run p e below T39 (mkF m 94 #[.val (.int p0), .val (.long q1), .second, .val (.long q2), .second, .val (.long q3), .second, .val (.long q4), .second, .val (.long q5), .second, .val (.long (own_f0_6 p0 q1)), .second, .val (.long (own_f0_14 p0 q2)), .second, .val (.long (own_f0_23 p0 q3)), .second, .val (.long (own_f0_32 p0 q4)), .second, .val (.long (own_f0_41 p0 q5)), .second, .val (.ref b33), .val (.long (own_f0_83 p0 q1 q2 q3 q4 q5)), .second, .unset, .unset, .unset] [(.long (own_f0_14 p0 q2))]) _
      refine own_step (fun t k => XS.lconst X39.here hx rfl (hb hby at_94) k) ?_
      show own_Run p e below T39 (mkF m 95 #[.val (.int p0), .val (.long q1), .second, .val (.long q2), .second, .val (.long q3), .second, .val (.long q4), .second, .val (.long q5), .second, .val (.long (own_f0_6 p0 q1)), .second, .val (.long (own_f0_14 p0 q2)), .second, .val (.long (own_f0_23 p0 q3)), .second, .val (.long (own_f0_32 p0 q4)), .second, .val (.long (own_f0_41 p0 q5)), .second, .val (.ref b33), .val (.long (own_f0_83 p0 q1 q2 q3 q4 q5)), .second, .unset, .unset, .unset] [(.long (0 : Int64)), (.long (own_f0_14 p0 q2))]) _
      refine own_step (fun t k => XS.lcmp X39.here hx rfl (hb hby at_95) rfl k) ?_
      show own_Run p e below T39 (mkF m 96 #[.val (.int p0), .val (.long q1), .second, .val (.long q2), .second, .val (.long q3), .second, .val (.long q4), .second, .val (.long q5), .second, .val (.long (own_f0_6 p0 q1)), .second, .val (.long (own_f0_14 p0 q2)), .second, .val (.long (own_f0_23 p0 q3)), .second, .val (.long (own_f0_32 p0 q4)), .second, .val (.long (own_f0_41 p0 q5)), .second, .val (.ref b33), .val (.long (own_f0_83 p0 q1 q2 q3 q4 q5)), .second, .unset, .unset, .unset] [(.int (lcmpW (own_f0_14 p0 q2) (0 : Int64)))]) _
      by_cases hc42 : (lcmpW (own_f0_14 p0 q2) (0 : Int64)) = (0 : Int32)
      · refine own_step (fun t k => XS.ifNo X39.here hx rfl (hb hby at_96) rfl ((if0 _ _).trans (teq hc42).2) k) ?_
        show own_Run p e below T39 (mkF m 99 #[.val (.int p0), .val (.long q1), .second, .val (.long q2), .second, .val (.long q3), .second, .val (.long q4), .second, .val (.long q5), .second, .val (.long (own_f0_6 p0 q1)), .second, .val (.long (own_f0_14 p0 q2)), .second, .val (.long (own_f0_23 p0 q3)), .second, .val (.long (own_f0_32 p0 q4)), .second, .val (.long (own_f0_41 p0 q5)), .second, .val (.ref b33), .val (.long (own_f0_83 p0 q1 q2 q3 q4 q5)), .second, .unset, .unset, .unset] []) _
        refine own_step (fun t k => XS.lload X39.here hx rfl (hb hby at_99) rfl  k) ?_
        show own_Run p e below T39 (mkF m 101 #[.val (.int p0), .val (.long q1), .second, .val (.long q2), .second, .val (.long q3), .second, .val (.long q4), .second, .val (.long q5), .second, .val (.long (own_f0_6 p0 q1)), .second, .val (.long (own_f0_14 p0 q2)), .second, .val (.long (own_f0_23 p0 q3)), .second, .val (.long (own_f0_32 p0 q4)), .second, .val (.long (own_f0_41 p0 q5)), .second, .val (.ref b33), .val (.long (own_f0_83 p0 q1 q2 q3 q4 q5)), .second, .unset, .unset, .unset] [(.long (own_f0_23 p0 q3))]) _
        refine own_step (fun t k => XS.lconst X39.here hx rfl (hb hby at_101) k) ?_
        show own_Run p e below T39 (mkF m 102 #[.val (.int p0), .val (.long q1), .second, .val (.long q2), .second, .val (.long q3), .second, .val (.long q4), .second, .val (.long q5), .second, .val (.long (own_f0_6 p0 q1)), .second, .val (.long (own_f0_14 p0 q2)), .second, .val (.long (own_f0_23 p0 q3)), .second, .val (.long (own_f0_32 p0 q4)), .second, .val (.long (own_f0_41 p0 q5)), .second, .val (.ref b33), .val (.long (own_f0_83 p0 q1 q2 q3 q4 q5)), .second, .unset, .unset, .unset] [(.long (0 : Int64)), (.long (own_f0_23 p0 q3))]) _
        refine own_step (fun t k => XS.lcmp X39.here hx rfl (hb hby at_102) rfl k) ?_
        show own_Run p e below T39 (mkF m 103 #[.val (.int p0), .val (.long q1), .second, .val (.long q2), .second, .val (.long q3), .second, .val (.long q4), .second, .val (.long q5), .second, .val (.long (own_f0_6 p0 q1)), .second, .val (.long (own_f0_14 p0 q2)), .second, .val (.long (own_f0_23 p0 q3)), .second, .val (.long (own_f0_32 p0 q4)), .second, .val (.long (own_f0_41 p0 q5)), .second, .val (.ref b33), .val (.long (own_f0_83 p0 q1 q2 q3 q4 q5)), .second, .unset, .unset, .unset] [(.int (lcmpW (own_f0_23 p0 q3) (0 : Int64)))]) _
        by_cases hc43 : (lcmpW (own_f0_23 p0 q3) (0 : Int64)) = (0 : Int32)
        · refine own_step (fun t k => XS.ifNo X39.here hx rfl (hb hby at_103) rfl ((if0 _ _).trans (teq hc43).2) k) ?_
          show own_Run p e below T39 (mkF m 106 #[.val (.int p0), .val (.long q1), .second, .val (.long q2), .second, .val (.long q3), .second, .val (.long q4), .second, .val (.long q5), .second, .val (.long (own_f0_6 p0 q1)), .second, .val (.long (own_f0_14 p0 q2)), .second, .val (.long (own_f0_23 p0 q3)), .second, .val (.long (own_f0_32 p0 q4)), .second, .val (.long (own_f0_41 p0 q5)), .second, .val (.ref b33), .val (.long (own_f0_83 p0 q1 q2 q3 q4 q5)), .second, .unset, .unset, .unset] []) _
          refine own_step (fun t k => XS.lload X39.here hx rfl (hb hby at_106) rfl  k) ?_
          show own_Run p e below T39 (mkF m 108 #[.val (.int p0), .val (.long q1), .second, .val (.long q2), .second, .val (.long q3), .second, .val (.long q4), .second, .val (.long q5), .second, .val (.long (own_f0_6 p0 q1)), .second, .val (.long (own_f0_14 p0 q2)), .second, .val (.long (own_f0_23 p0 q3)), .second, .val (.long (own_f0_32 p0 q4)), .second, .val (.long (own_f0_41 p0 q5)), .second, .val (.ref b33), .val (.long (own_f0_83 p0 q1 q2 q3 q4 q5)), .second, .unset, .unset, .unset] [(.long (own_f0_32 p0 q4))]) _
          refine own_step (fun t k => XS.lconst X39.here hx rfl (hb hby at_108) k) ?_
          show own_Run p e below T39 (mkF m 109 #[.val (.int p0), .val (.long q1), .second, .val (.long q2), .second, .val (.long q3), .second, .val (.long q4), .second, .val (.long q5), .second, .val (.long (own_f0_6 p0 q1)), .second, .val (.long (own_f0_14 p0 q2)), .second, .val (.long (own_f0_23 p0 q3)), .second, .val (.long (own_f0_32 p0 q4)), .second, .val (.long (own_f0_41 p0 q5)), .second, .val (.ref b33), .val (.long (own_f0_83 p0 q1 q2 q3 q4 q5)), .second, .unset, .unset, .unset] [(.long (0 : Int64)), (.long (own_f0_32 p0 q4))]) _
          refine own_step (fun t k => XS.lcmp X39.here hx rfl (hb hby at_109) rfl k) ?_
          show own_Run p e below T39 (mkF m 110 #[.val (.int p0), .val (.long q1), .second, .val (.long q2), .second, .val (.long q3), .second, .val (.long q4), .second, .val (.long q5), .second, .val (.long (own_f0_6 p0 q1)), .second, .val (.long (own_f0_14 p0 q2)), .second, .val (.long (own_f0_23 p0 q3)), .second, .val (.long (own_f0_32 p0 q4)), .second, .val (.long (own_f0_41 p0 q5)), .second, .val (.ref b33), .val (.long (own_f0_83 p0 q1 q2 q3 q4 q5)), .second, .unset, .unset, .unset] [(.int (lcmpW (own_f0_32 p0 q4) (0 : Int64)))]) _
          by_cases hc44 : (lcmpW (own_f0_32 p0 q4) (0 : Int64)) = (0 : Int32)
          · refine own_step (fun t k => XS.ifNo X39.here hx rfl (hb hby at_110) rfl ((if0 _ _).trans (teq hc44).2) k) ?_
            show own_Run p e below T39 (mkF m 113 #[.val (.int p0), .val (.long q1), .second, .val (.long q2), .second, .val (.long q3), .second, .val (.long q4), .second, .val (.long q5), .second, .val (.long (own_f0_6 p0 q1)), .second, .val (.long (own_f0_14 p0 q2)), .second, .val (.long (own_f0_23 p0 q3)), .second, .val (.long (own_f0_32 p0 q4)), .second, .val (.long (own_f0_41 p0 q5)), .second, .val (.ref b33), .val (.long (own_f0_83 p0 q1 q2 q3 q4 q5)), .second, .unset, .unset, .unset] []) _
            refine own_step (fun t k => XS.lload X39.here hx rfl (hb hby at_113) rfl  k) ?_
            show own_Run p e below T39 (mkF m 115 #[.val (.int p0), .val (.long q1), .second, .val (.long q2), .second, .val (.long q3), .second, .val (.long q4), .second, .val (.long q5), .second, .val (.long (own_f0_6 p0 q1)), .second, .val (.long (own_f0_14 p0 q2)), .second, .val (.long (own_f0_23 p0 q3)), .second, .val (.long (own_f0_32 p0 q4)), .second, .val (.long (own_f0_41 p0 q5)), .second, .val (.ref b33), .val (.long (own_f0_83 p0 q1 q2 q3 q4 q5)), .second, .unset, .unset, .unset] [(.long (own_f0_41 p0 q5))]) _
            refine own_step (fun t k => XS.lconst X39.here hx rfl (hb hby at_115) k) ?_
            show own_Run p e below T39 (mkF m 116 #[.val (.int p0), .val (.long q1), .second, .val (.long q2), .second, .val (.long q3), .second, .val (.long q4), .second, .val (.long q5), .second, .val (.long (own_f0_6 p0 q1)), .second, .val (.long (own_f0_14 p0 q2)), .second, .val (.long (own_f0_23 p0 q3)), .second, .val (.long (own_f0_32 p0 q4)), .second, .val (.long (own_f0_41 p0 q5)), .second, .val (.ref b33), .val (.long (own_f0_83 p0 q1 q2 q3 q4 q5)), .second, .unset, .unset, .unset] [(.long (0 : Int64)), (.long (own_f0_41 p0 q5))]) _
            refine own_step (fun t k => XS.lcmp X39.here hx rfl (hb hby at_116) rfl k) ?_
            show own_Run p e below T39 (mkF m 117 #[.val (.int p0), .val (.long q1), .second, .val (.long q2), .second, .val (.long q3), .second, .val (.long q4), .second, .val (.long q5), .second, .val (.long (own_f0_6 p0 q1)), .second, .val (.long (own_f0_14 p0 q2)), .second, .val (.long (own_f0_23 p0 q3)), .second, .val (.long (own_f0_32 p0 q4)), .second, .val (.long (own_f0_41 p0 q5)), .second, .val (.ref b33), .val (.long (own_f0_83 p0 q1 q2 q3 q4 q5)), .second, .unset, .unset, .unset] [(.int (lcmpW (own_f0_41 p0 q5) (0 : Int64)))]) _
            by_cases hc45 : (lcmpW (own_f0_41 p0 q5) (0 : Int64)) = (0 : Int32)
            · refine own_step (fun t k => XS.ifNo X39.here hx rfl (hb hby at_117) rfl ((if0 _ _).trans (teq hc45).2) k) ?_
              show own_Run p e below T39 (mkF m 120 #[.val (.int p0), .val (.long q1), .second, .val (.long q2), .second, .val (.long q3), .second, .val (.long q4), .second, .val (.long q5), .second, .val (.long (own_f0_6 p0 q1)), .second, .val (.long (own_f0_14 p0 q2)), .second, .val (.long (own_f0_23 p0 q3)), .second, .val (.long (own_f0_32 p0 q4)), .second, .val (.long (own_f0_41 p0 q5)), .second, .val (.ref b33), .val (.long (own_f0_83 p0 q1 q2 q3 q4 q5)), .second, .unset, .unset, .unset] []) _
              refine own_step (fun t k => X39.ldc2Long hx hown (mvT hZ (hw _ (List.mem_of_getElem? (i := 10) rfl))) (g := (mkF m 120 #[.val (.int p0), .val (.long q1), .second, .val (.long q2), .second, .val (.long q3), .second, .val (.long q4), .second, .val (.long q5), .second, .val (.long (own_f0_6 p0 q1)), .second, .val (.long (own_f0_14 p0 q2)), .second, .val (.long (own_f0_23 p0 q3)), .second, .val (.long (own_f0_32 p0 q4)), .second, .val (.long (own_f0_41 p0 q5)), .second, .val (.ref b33), .val (.long (own_f0_83 p0 q1 q2 q3 q4 q5)), .second, .unset, .unset, .unset] [])) rfl (hb hby at_120) t k) ?_
              show own_Run p e below T39 (mkF m 123 #[.val (.int p0), .val (.long q1), .second, .val (.long q2), .second, .val (.long q3), .second, .val (.long q4), .second, .val (.long q5), .second, .val (.long (own_f0_6 p0 q1)), .second, .val (.long (own_f0_14 p0 q2)), .second, .val (.long (own_f0_23 p0 q3)), .second, .val (.long (own_f0_32 p0 q4)), .second, .val (.long (own_f0_41 p0 q5)), .second, .val (.ref b33), .val (.long (own_f0_83 p0 q1 q2 q3 q4 q5)), .second, .unset, .unset, .unset] [(.long (-1 : Int64))]) _
              refine own_step (fun t k => XS.lstore X39.here hx rfl (hb hby at_123) rfl (l' := #[.val (.int p0), .val (.long q1), .second, .val (.long q2), .second, .val (.long q3), .second, .val (.long q4), .second, .val (.long q5), .second, .val (.long (own_f0_6 p0 q1)), .second, .val (.long (own_f0_14 p0 q2)), .second, .val (.long (own_f0_23 p0 q3)), .second, .val (.long (own_f0_32 p0 q4)), .second, .val (.long (own_f0_41 p0 q5)), .second, .val (.ref b33), .val (.long (own_f0_83 p0 q1 q2 q3 q4 q5)), .second, .val (.long (-1 : Int64)), .second, .unset]) rfl k) ?_
              show own_Run p e below T39 (mkF m 125 #[.val (.int p0), .val (.long q1), .second, .val (.long q2), .second, .val (.long q3), .second, .val (.long q4), .second, .val (.long q5), .second, .val (.long (own_f0_6 p0 q1)), .second, .val (.long (own_f0_14 p0 q2)), .second, .val (.long (own_f0_23 p0 q3)), .second, .val (.long (own_f0_32 p0 q4)), .second, .val (.long (own_f0_41 p0 q5)), .second, .val (.ref b33), .val (.long (own_f0_83 p0 q1 q2 q3 q4 q5)), .second, .val (.long (-1 : Int64)), .second, .unset] []) _
              refine own_step (fun t k => XS.goto X39.here hx rfl (pc0 := 125) (pc' := 131) rfl (hb hby at_125) (by decide) (by decide) k) ?_
              show own_Run p e below T39 (mkF m 131 #[.val (.int p0), .val (.long q1), .second, .val (.long q2), .second, .val (.long q3), .second, .val (.long q4), .second, .val (.long q5), .second, .val (.long (own_f0_6 p0 q1)), .second, .val (.long (own_f0_14 p0 q2)), .second, .val (.long (own_f0_23 p0 q3)), .second, .val (.long (own_f0_32 p0 q4)), .second, .val (.long (own_f0_41 p0 q5)), .second, .val (.ref b33), .val (.long (own_f0_83 p0 q1 q2 q3 q4 q5)), .second, .val (.long (-1 : Int64)), .second, .unset] []) _
              have hj0 : (own_f0_j131_L24 p0 q1 q2 q3 q4 q5) = (-1 : Int64) := ((if_pos hc41).trans ((if_pos hc42).trans ((if_pos hc43).trans ((if_pos hc44).trans (if_pos hc45)))))
              exact own_here (by rw [hj0])
            · refine own_step (fun t k => XS.ifYes X39.here hx rfl (pc0 := 117) (pc' := 128) rfl (hb hby at_117) rfl ((if0 _ _).trans (feq hc45).2) (by decide) (by decide) k) ?_
              show own_Run p e below T39 (mkF m 128 #[.val (.int p0), .val (.long q1), .second, .val (.long q2), .second, .val (.long q3), .second, .val (.long q4), .second, .val (.long q5), .second, .val (.long (own_f0_6 p0 q1)), .second, .val (.long (own_f0_14 p0 q2)), .second, .val (.long (own_f0_23 p0 q3)), .second, .val (.long (own_f0_32 p0 q4)), .second, .val (.long (own_f0_41 p0 q5)), .second, .val (.ref b33), .val (.long (own_f0_83 p0 q1 q2 q3 q4 q5)), .second, .unset, .unset, .unset] []) _
              refine own_step (fun t k => XS.lconst X39.here hx rfl (hb hby at_128) k) ?_
              show own_Run p e below T39 (mkF m 129 #[.val (.int p0), .val (.long q1), .second, .val (.long q2), .second, .val (.long q3), .second, .val (.long q4), .second, .val (.long q5), .second, .val (.long (own_f0_6 p0 q1)), .second, .val (.long (own_f0_14 p0 q2)), .second, .val (.long (own_f0_23 p0 q3)), .second, .val (.long (own_f0_32 p0 q4)), .second, .val (.long (own_f0_41 p0 q5)), .second, .val (.ref b33), .val (.long (own_f0_83 p0 q1 q2 q3 q4 q5)), .second, .unset, .unset, .unset] [(.long (0 : Int64))]) _
              refine own_step (fun t k => XS.lstore X39.here hx rfl (hb hby at_129) rfl (l' := #[.val (.int p0), .val (.long q1), .second, .val (.long q2), .second, .val (.long q3), .second, .val (.long q4), .second, .val (.long q5), .second, .val (.long (own_f0_6 p0 q1)), .second, .val (.long (own_f0_14 p0 q2)), .second, .val (.long (own_f0_23 p0 q3)), .second, .val (.long (own_f0_32 p0 q4)), .second, .val (.long (own_f0_41 p0 q5)), .second, .val (.ref b33), .val (.long (own_f0_83 p0 q1 q2 q3 q4 q5)), .second, .val (.long (0 : Int64)), .second, .unset]) rfl k) ?_
              show own_Run p e below T39 (mkF m 131 #[.val (.int p0), .val (.long q1), .second, .val (.long q2), .second, .val (.long q3), .second, .val (.long q4), .second, .val (.long q5), .second, .val (.long (own_f0_6 p0 q1)), .second, .val (.long (own_f0_14 p0 q2)), .second, .val (.long (own_f0_23 p0 q3)), .second, .val (.long (own_f0_32 p0 q4)), .second, .val (.long (own_f0_41 p0 q5)), .second, .val (.ref b33), .val (.long (own_f0_83 p0 q1 q2 q3 q4 q5)), .second, .val (.long (0 : Int64)), .second, .unset] []) _
              have hj0 : (own_f0_j131_L24 p0 q1 q2 q3 q4 q5) = (0 : Int64) := ((if_pos hc41).trans ((if_pos hc42).trans ((if_pos hc43).trans ((if_pos hc44).trans (if_neg hc45)))))
              exact own_here (by rw [hj0])
          · refine own_step (fun t k => XS.ifYes X39.here hx rfl (pc0 := 110) (pc' := 128) rfl (hb hby at_110) rfl ((if0 _ _).trans (feq hc44).2) (by decide) (by decide) k) ?_
            show own_Run p e below T39 (mkF m 128 #[.val (.int p0), .val (.long q1), .second, .val (.long q2), .second, .val (.long q3), .second, .val (.long q4), .second, .val (.long q5), .second, .val (.long (own_f0_6 p0 q1)), .second, .val (.long (own_f0_14 p0 q2)), .second, .val (.long (own_f0_23 p0 q3)), .second, .val (.long (own_f0_32 p0 q4)), .second, .val (.long (own_f0_41 p0 q5)), .second, .val (.ref b33), .val (.long (own_f0_83 p0 q1 q2 q3 q4 q5)), .second, .unset, .unset, .unset] []) _
            refine own_step (fun t k => XS.lconst X39.here hx rfl (hb hby at_128) k) ?_
            show own_Run p e below T39 (mkF m 129 #[.val (.int p0), .val (.long q1), .second, .val (.long q2), .second, .val (.long q3), .second, .val (.long q4), .second, .val (.long q5), .second, .val (.long (own_f0_6 p0 q1)), .second, .val (.long (own_f0_14 p0 q2)), .second, .val (.long (own_f0_23 p0 q3)), .second, .val (.long (own_f0_32 p0 q4)), .second, .val (.long (own_f0_41 p0 q5)), .second, .val (.ref b33), .val (.long (own_f0_83 p0 q1 q2 q3 q4 q5)), .second, .unset, .unset, .unset] [(.long (0 : Int64))]) _
            refine own_step (fun t k => XS.lstore X39.here hx rfl (hb hby at_129) rfl (l' := #[.val (.int p0), .val (.long q1), .second, .val (.long q2), .second, .val (.long q3), .second, .val (.long q4), .second, .val (.long q5), .second, .val (.long (own_f0_6 p0 q1)), .second, .val (.long (own_f0_14 p0 q2)), .second, .val (.long (own_f0_23 p0 q3)), .second, .val (.long (own_f0_32 p0 q4)), .second, .val (.long (own_f0_41 p0 q5)), .second, .val (.ref b33), .val (.long (own_f0_83 p0 q1 q2 q3 q4 q5)), .second, .val (.long (0 : Int64)), .second, .unset]) rfl k) ?_
            show own_Run p e below T39 (mkF m 131 #[.val (.int p0), .val (.long q1), .second, .val (.long q2), .second, .val (.long q3), .second, .val (.long q4), .second, .val (.long q5), .second, .val (.long (own_f0_6 p0 q1)), .second, .val (.long (own_f0_14 p0 q2)), .second, .val (.long (own_f0_23 p0 q3)), .second, .val (.long (own_f0_32 p0 q4)), .second, .val (.long (own_f0_41 p0 q5)), .second, .val (.ref b33), .val (.long (own_f0_83 p0 q1 q2 q3 q4 q5)), .second, .val (.long (0 : Int64)), .second, .unset] []) _
            have hj0 : (own_f0_j131_L24 p0 q1 q2 q3 q4 q5) = (0 : Int64) := ((if_pos hc41).trans ((if_pos hc42).trans ((if_pos hc43).trans (if_neg hc44))))
            exact own_here (by rw [hj0])
        · refine own_step (fun t k => XS.ifYes X39.here hx rfl (pc0 := 103) (pc' := 128) rfl (hb hby at_103) rfl ((if0 _ _).trans (feq hc43).2) (by decide) (by decide) k) ?_
          show own_Run p e below T39 (mkF m 128 #[.val (.int p0), .val (.long q1), .second, .val (.long q2), .second, .val (.long q3), .second, .val (.long q4), .second, .val (.long q5), .second, .val (.long (own_f0_6 p0 q1)), .second, .val (.long (own_f0_14 p0 q2)), .second, .val (.long (own_f0_23 p0 q3)), .second, .val (.long (own_f0_32 p0 q4)), .second, .val (.long (own_f0_41 p0 q5)), .second, .val (.ref b33), .val (.long (own_f0_83 p0 q1 q2 q3 q4 q5)), .second, .unset, .unset, .unset] []) _
          refine own_step (fun t k => XS.lconst X39.here hx rfl (hb hby at_128) k) ?_
          show own_Run p e below T39 (mkF m 129 #[.val (.int p0), .val (.long q1), .second, .val (.long q2), .second, .val (.long q3), .second, .val (.long q4), .second, .val (.long q5), .second, .val (.long (own_f0_6 p0 q1)), .second, .val (.long (own_f0_14 p0 q2)), .second, .val (.long (own_f0_23 p0 q3)), .second, .val (.long (own_f0_32 p0 q4)), .second, .val (.long (own_f0_41 p0 q5)), .second, .val (.ref b33), .val (.long (own_f0_83 p0 q1 q2 q3 q4 q5)), .second, .unset, .unset, .unset] [(.long (0 : Int64))]) _
          refine own_step (fun t k => XS.lstore X39.here hx rfl (hb hby at_129) rfl (l' := #[.val (.int p0), .val (.long q1), .second, .val (.long q2), .second, .val (.long q3), .second, .val (.long q4), .second, .val (.long q5), .second, .val (.long (own_f0_6 p0 q1)), .second, .val (.long (own_f0_14 p0 q2)), .second, .val (.long (own_f0_23 p0 q3)), .second, .val (.long (own_f0_32 p0 q4)), .second, .val (.long (own_f0_41 p0 q5)), .second, .val (.ref b33), .val (.long (own_f0_83 p0 q1 q2 q3 q4 q5)), .second, .val (.long (0 : Int64)), .second, .unset]) rfl k) ?_
          show own_Run p e below T39 (mkF m 131 #[.val (.int p0), .val (.long q1), .second, .val (.long q2), .second, .val (.long q3), .second, .val (.long q4), .second, .val (.long q5), .second, .val (.long (own_f0_6 p0 q1)), .second, .val (.long (own_f0_14 p0 q2)), .second, .val (.long (own_f0_23 p0 q3)), .second, .val (.long (own_f0_32 p0 q4)), .second, .val (.long (own_f0_41 p0 q5)), .second, .val (.ref b33), .val (.long (own_f0_83 p0 q1 q2 q3 q4 q5)), .second, .val (.long (0 : Int64)), .second, .unset] []) _
          have hj0 : (own_f0_j131_L24 p0 q1 q2 q3 q4 q5) = (0 : Int64) := ((if_pos hc41).trans ((if_pos hc42).trans (if_neg hc43)))
          exact own_here (by rw [hj0])
      · refine own_step (fun t k => XS.ifYes X39.here hx rfl (pc0 := 96) (pc' := 128) rfl (hb hby at_96) rfl ((if0 _ _).trans (feq hc42).2) (by decide) (by decide) k) ?_
        show own_Run p e below T39 (mkF m 128 #[.val (.int p0), .val (.long q1), .second, .val (.long q2), .second, .val (.long q3), .second, .val (.long q4), .second, .val (.long q5), .second, .val (.long (own_f0_6 p0 q1)), .second, .val (.long (own_f0_14 p0 q2)), .second, .val (.long (own_f0_23 p0 q3)), .second, .val (.long (own_f0_32 p0 q4)), .second, .val (.long (own_f0_41 p0 q5)), .second, .val (.ref b33), .val (.long (own_f0_83 p0 q1 q2 q3 q4 q5)), .second, .unset, .unset, .unset] []) _
        refine own_step (fun t k => XS.lconst X39.here hx rfl (hb hby at_128) k) ?_
        show own_Run p e below T39 (mkF m 129 #[.val (.int p0), .val (.long q1), .second, .val (.long q2), .second, .val (.long q3), .second, .val (.long q4), .second, .val (.long q5), .second, .val (.long (own_f0_6 p0 q1)), .second, .val (.long (own_f0_14 p0 q2)), .second, .val (.long (own_f0_23 p0 q3)), .second, .val (.long (own_f0_32 p0 q4)), .second, .val (.long (own_f0_41 p0 q5)), .second, .val (.ref b33), .val (.long (own_f0_83 p0 q1 q2 q3 q4 q5)), .second, .unset, .unset, .unset] [(.long (0 : Int64))]) _
        refine own_step (fun t k => XS.lstore X39.here hx rfl (hb hby at_129) rfl (l' := #[.val (.int p0), .val (.long q1), .second, .val (.long q2), .second, .val (.long q3), .second, .val (.long q4), .second, .val (.long q5), .second, .val (.long (own_f0_6 p0 q1)), .second, .val (.long (own_f0_14 p0 q2)), .second, .val (.long (own_f0_23 p0 q3)), .second, .val (.long (own_f0_32 p0 q4)), .second, .val (.long (own_f0_41 p0 q5)), .second, .val (.ref b33), .val (.long (own_f0_83 p0 q1 q2 q3 q4 q5)), .second, .val (.long (0 : Int64)), .second, .unset]) rfl k) ?_
        show own_Run p e below T39 (mkF m 131 #[.val (.int p0), .val (.long q1), .second, .val (.long q2), .second, .val (.long q3), .second, .val (.long q4), .second, .val (.long q5), .second, .val (.long (own_f0_6 p0 q1)), .second, .val (.long (own_f0_14 p0 q2)), .second, .val (.long (own_f0_23 p0 q3)), .second, .val (.long (own_f0_32 p0 q4)), .second, .val (.long (own_f0_41 p0 q5)), .second, .val (.ref b33), .val (.long (own_f0_83 p0 q1 q2 q3 q4 q5)), .second, .val (.long (0 : Int64)), .second, .unset] []) _
        have hj0 : (own_f0_j131_L24 p0 q1 q2 q3 q4 q5) = (0 : Int64) := ((if_pos hc41).trans (if_neg hc42))
        exact own_here (by rw [hj0])
    · refine own_step (fun t k => XS.ifYes X39.here hx rfl (pc0 := 89) (pc' := 128) rfl (hb hby at_89) rfl ((if0 _ _).trans (feq hc41).2) (by decide) (by decide) k) ?_
      show own_Run p e below T39 (mkF m 128 #[.val (.int p0), .val (.long q1), .second, .val (.long q2), .second, .val (.long q3), .second, .val (.long q4), .second, .val (.long q5), .second, .val (.long (own_f0_6 p0 q1)), .second, .val (.long (own_f0_14 p0 q2)), .second, .val (.long (own_f0_23 p0 q3)), .second, .val (.long (own_f0_32 p0 q4)), .second, .val (.long (own_f0_41 p0 q5)), .second, .val (.ref b33), .val (.long (own_f0_83 p0 q1 q2 q3 q4 q5)), .second, .unset, .unset, .unset] []) _
      refine own_step (fun t k => XS.lconst X39.here hx rfl (hb hby at_128) k) ?_
      show own_Run p e below T39 (mkF m 129 #[.val (.int p0), .val (.long q1), .second, .val (.long q2), .second, .val (.long q3), .second, .val (.long q4), .second, .val (.long q5), .second, .val (.long (own_f0_6 p0 q1)), .second, .val (.long (own_f0_14 p0 q2)), .second, .val (.long (own_f0_23 p0 q3)), .second, .val (.long (own_f0_32 p0 q4)), .second, .val (.long (own_f0_41 p0 q5)), .second, .val (.ref b33), .val (.long (own_f0_83 p0 q1 q2 q3 q4 q5)), .second, .unset, .unset, .unset] [(.long (0 : Int64))]) _
      refine own_step (fun t k => XS.lstore X39.here hx rfl (hb hby at_129) rfl (l' := #[.val (.int p0), .val (.long q1), .second, .val (.long q2), .second, .val (.long q3), .second, .val (.long q4), .second, .val (.long q5), .second, .val (.long (own_f0_6 p0 q1)), .second, .val (.long (own_f0_14 p0 q2)), .second, .val (.long (own_f0_23 p0 q3)), .second, .val (.long (own_f0_32 p0 q4)), .second, .val (.long (own_f0_41 p0 q5)), .second, .val (.ref b33), .val (.long (own_f0_83 p0 q1 q2 q3 q4 q5)), .second, .val (.long (0 : Int64)), .second, .unset]) rfl k) ?_
      show own_Run p e below T39 (mkF m 131 #[.val (.int p0), .val (.long q1), .second, .val (.long q2), .second, .val (.long q3), .second, .val (.long q4), .second, .val (.long q5), .second, .val (.long (own_f0_6 p0 q1)), .second, .val (.long (own_f0_14 p0 q2)), .second, .val (.long (own_f0_23 p0 q3)), .second, .val (.long (own_f0_32 p0 q4)), .second, .val (.long (own_f0_41 p0 q5)), .second, .val (.ref b33), .val (.long (own_f0_83 p0 q1 q2 q3 q4 q5)), .second, .val (.long (0 : Int64)), .second, .unset] []) _
      have hj0 : (own_f0_j131_L24 p0 q1 q2 q3 q4 q5) = (0 : Int64) := (if_neg hc41)
      exact own_here (by rw [hj0])
  refine own_tr st40 ?_
  show own_Run p e below T39 (mkF m 131 #[.val (.int p0), .val (.long q1), .second, .val (.long q2), .second, .val (.long q3), .second, .val (.long q4), .second, .val (.long q5), .second, .val (.long (own_f0_6 p0 q1)), .second, .val (.long (own_f0_14 p0 q2)), .second, .val (.long (own_f0_23 p0 q3)), .second, .val (.long (own_f0_32 p0 q4)), .second, .val (.long (own_f0_41 p0 q5)), .second, .val (.ref b33), .val (.long (own_f0_83 p0 q1 q2 q3 q4 q5)), .second, .val (.long (own_f0_j131_L24 p0 q1 q2 q3 q4 q5)), .second, .unset] []) _
  refine own_step (fun t k => XS.aload X39.here hx rfl (hb hby at_131) rfl rfl k) ?_
  show own_Run p e below T39 (mkF m 133 #[.val (.int p0), .val (.long q1), .second, .val (.long q2), .second, .val (.long q3), .second, .val (.long q4), .second, .val (.long q5), .second, .val (.long (own_f0_6 p0 q1)), .second, .val (.long (own_f0_14 p0 q2)), .second, .val (.long (own_f0_23 p0 q3)), .second, .val (.long (own_f0_32 p0 q4)), .second, .val (.long (own_f0_41 p0 q5)), .second, .val (.ref b33), .val (.long (own_f0_83 p0 q1 q2 q3 q4 q5)), .second, .val (.long (own_f0_j131_L24 p0 q1 q2 q3 q4 q5)), .second, .unset] [(.ref b33)]) _
  refine own_step (fun t k => XS.iconst X39.here hx rfl (hb hby at_133) k) ?_
  show own_Run p e below T39 (mkF m 134 #[.val (.int p0), .val (.long q1), .second, .val (.long q2), .second, .val (.long q3), .second, .val (.long q4), .second, .val (.long q5), .second, .val (.long (own_f0_6 p0 q1)), .second, .val (.long (own_f0_14 p0 q2)), .second, .val (.long (own_f0_23 p0 q3)), .second, .val (.long (own_f0_32 p0 q4)), .second, .val (.long (own_f0_41 p0 q5)), .second, .val (.ref b33), .val (.long (own_f0_83 p0 q1 q2 q3 q4 q5)), .second, .val (.long (own_f0_j131_L24 p0 q1 q2 q3 q4 q5)), .second, .unset] [(.int (0 : Int32)), (.ref b33)]) _
  refine own_step (own_ldJ X39 hx hZ e39 V38x (j := (0 : Int32)) (v := (.long (own_f0_6 p0 q1))) ⟨by decide, by decide⟩ rfl (g := (mkF m 134 #[.val (.int p0), .val (.long q1), .second, .val (.long q2), .second, .val (.long q3), .second, .val (.long q4), .second, .val (.long q5), .second, .val (.long (own_f0_6 p0 q1)), .second, .val (.long (own_f0_14 p0 q2)), .second, .val (.long (own_f0_23 p0 q3)), .second, .val (.long (own_f0_32 p0 q4)), .second, .val (.long (own_f0_41 p0 q5)), .second, .val (.ref b33), .val (.long (own_f0_83 p0 q1 q2 q3 q4 q5)), .second, .val (.long (own_f0_j131_L24 p0 q1 q2 q3 q4 q5)), .second, .unset] [(.int (0 : Int32)), (.ref b33)])) rfl rfl (hb hby at_134)) ?_
  show own_Run p e below T39 (mkF m 135 #[.val (.int p0), .val (.long q1), .second, .val (.long q2), .second, .val (.long q3), .second, .val (.long q4), .second, .val (.long q5), .second, .val (.long (own_f0_6 p0 q1)), .second, .val (.long (own_f0_14 p0 q2)), .second, .val (.long (own_f0_23 p0 q3)), .second, .val (.long (own_f0_32 p0 q4)), .second, .val (.long (own_f0_41 p0 q5)), .second, .val (.ref b33), .val (.long (own_f0_83 p0 q1 q2 q3 q4 q5)), .second, .val (.long (own_f0_j131_L24 p0 q1 q2 q3 q4 q5)), .second, .unset] [(.long (own_f0_6 p0 q1))]) _
  refine own_step (fun t k => XS.lload X39.here hx rfl (hb hby at_135) rfl  k) ?_
  show own_Run p e below T39 (mkF m 137 #[.val (.int p0), .val (.long q1), .second, .val (.long q2), .second, .val (.long q3), .second, .val (.long q4), .second, .val (.long q5), .second, .val (.long (own_f0_6 p0 q1)), .second, .val (.long (own_f0_14 p0 q2)), .second, .val (.long (own_f0_23 p0 q3)), .second, .val (.long (own_f0_32 p0 q4)), .second, .val (.long (own_f0_41 p0 q5)), .second, .val (.ref b33), .val (.long (own_f0_83 p0 q1 q2 q3 q4 q5)), .second, .val (.long (own_f0_j131_L24 p0 q1 q2 q3 q4 q5)), .second, .unset] [(.long (own_f0_6 p0 q1)), (.long (own_f0_6 p0 q1))]) _
  refine own_step (fun t k => XS.lcmp X39.here hx rfl (hb hby at_137) rfl k) ?_
  show own_Run p e below T39 (mkF m 138 #[.val (.int p0), .val (.long q1), .second, .val (.long q2), .second, .val (.long q3), .second, .val (.long q4), .second, .val (.long q5), .second, .val (.long (own_f0_6 p0 q1)), .second, .val (.long (own_f0_14 p0 q2)), .second, .val (.long (own_f0_23 p0 q3)), .second, .val (.long (own_f0_32 p0 q4)), .second, .val (.long (own_f0_41 p0 q5)), .second, .val (.ref b33), .val (.long (own_f0_83 p0 q1 q2 q3 q4 q5)), .second, .val (.long (own_f0_j131_L24 p0 q1 q2 q3 q4 q5)), .second, .unset] [(.int (lcmpW (own_f0_6 p0 q1) (own_f0_6 p0 q1)))]) _
  obtain ⟨_, st46, rfl⟩ : own_Run p e below T39 (mkF m 138 #[.val (.int p0), .val (.long q1), .second, .val (.long q2), .second, .val (.long q3), .second, .val (.long q4), .second, .val (.long q5), .second, .val (.long (own_f0_6 p0 q1)), .second, .val (.long (own_f0_14 p0 q2)), .second, .val (.long (own_f0_23 p0 q3)), .second, .val (.long (own_f0_32 p0 q4)), .second, .val (.long (own_f0_41 p0 q5)), .second, .val (.ref b33), .val (.long (own_f0_83 p0 q1 q2 q3 q4 q5)), .second, .val (.long (own_f0_j131_L24 p0 q1 q2 q3 q4 q5)), .second, .unset] [(.int (lcmpW (own_f0_6 p0 q1) (own_f0_6 p0 q1)))]) (fun t => t = T39.setTop (mkF m 186 #[.val (.int p0), .val (.long q1), .second, .val (.long q2), .second, .val (.long q3), .second, .val (.long q4), .second, .val (.long q5), .second, .val (.long (own_f0_6 p0 q1)), .second, .val (.long (own_f0_14 p0 q2)), .second, .val (.long (own_f0_23 p0 q3)), .second, .val (.long (own_f0_32 p0 q4)), .second, .val (.long (own_f0_41 p0 q5)), .second, .val (.ref b33), .val (.long (own_f0_83 p0 q1 q2 q3 q4 q5)), .second, .val (.long (own_f0_j131_L24 p0 q1 q2 q3 q4 q5)), .second, .unset] [(.int (own_f0_j186_S0 p0 q1 q2 q3 q4 q5))])) := by
    by_cases hc47 : (lcmpW (own_f0_6 p0 q1) (own_f0_6 p0 q1)) = (0 : Int32)
    · refine own_step (fun t k => XS.ifNo X39.here hx rfl (hb hby at_138) rfl ((if0 _ _).trans (teq hc47).2) k) ?_
      show own_Run p e below T39 (mkF m 141 #[.val (.int p0), .val (.long q1), .second, .val (.long q2), .second, .val (.long q3), .second, .val (.long q4), .second, .val (.long q5), .second, .val (.long (own_f0_6 p0 q1)), .second, .val (.long (own_f0_14 p0 q2)), .second, .val (.long (own_f0_23 p0 q3)), .second, .val (.long (own_f0_32 p0 q4)), .second, .val (.long (own_f0_41 p0 q5)), .second, .val (.ref b33), .val (.long (own_f0_83 p0 q1 q2 q3 q4 q5)), .second, .val (.long (own_f0_j131_L24 p0 q1 q2 q3 q4 q5)), .second, .unset] []) _
      refine own_step (fun t k => XS.aload X39.here hx rfl (hb hby at_141) rfl rfl k) ?_
      show own_Run p e below T39 (mkF m 143 #[.val (.int p0), .val (.long q1), .second, .val (.long q2), .second, .val (.long q3), .second, .val (.long q4), .second, .val (.long q5), .second, .val (.long (own_f0_6 p0 q1)), .second, .val (.long (own_f0_14 p0 q2)), .second, .val (.long (own_f0_23 p0 q3)), .second, .val (.long (own_f0_32 p0 q4)), .second, .val (.long (own_f0_41 p0 q5)), .second, .val (.ref b33), .val (.long (own_f0_83 p0 q1 q2 q3 q4 q5)), .second, .val (.long (own_f0_j131_L24 p0 q1 q2 q3 q4 q5)), .second, .unset] [(.ref b33)]) _
      refine own_step (fun t k => XS.iconst X39.here hx rfl (hb hby at_143) k) ?_
      show own_Run p e below T39 (mkF m 144 #[.val (.int p0), .val (.long q1), .second, .val (.long q2), .second, .val (.long q3), .second, .val (.long q4), .second, .val (.long q5), .second, .val (.long (own_f0_6 p0 q1)), .second, .val (.long (own_f0_14 p0 q2)), .second, .val (.long (own_f0_23 p0 q3)), .second, .val (.long (own_f0_32 p0 q4)), .second, .val (.long (own_f0_41 p0 q5)), .second, .val (.ref b33), .val (.long (own_f0_83 p0 q1 q2 q3 q4 q5)), .second, .val (.long (own_f0_j131_L24 p0 q1 q2 q3 q4 q5)), .second, .unset] [(.int (1 : Int32)), (.ref b33)]) _
      refine own_step (own_ldJ X39 hx hZ e39 V38x (j := (1 : Int32)) (v := (.long (own_f0_14 p0 q2))) ⟨by decide, by decide⟩ rfl (g := (mkF m 144 #[.val (.int p0), .val (.long q1), .second, .val (.long q2), .second, .val (.long q3), .second, .val (.long q4), .second, .val (.long q5), .second, .val (.long (own_f0_6 p0 q1)), .second, .val (.long (own_f0_14 p0 q2)), .second, .val (.long (own_f0_23 p0 q3)), .second, .val (.long (own_f0_32 p0 q4)), .second, .val (.long (own_f0_41 p0 q5)), .second, .val (.ref b33), .val (.long (own_f0_83 p0 q1 q2 q3 q4 q5)), .second, .val (.long (own_f0_j131_L24 p0 q1 q2 q3 q4 q5)), .second, .unset] [(.int (1 : Int32)), (.ref b33)])) rfl rfl (hb hby at_144)) ?_
      show own_Run p e below T39 (mkF m 145 #[.val (.int p0), .val (.long q1), .second, .val (.long q2), .second, .val (.long q3), .second, .val (.long q4), .second, .val (.long q5), .second, .val (.long (own_f0_6 p0 q1)), .second, .val (.long (own_f0_14 p0 q2)), .second, .val (.long (own_f0_23 p0 q3)), .second, .val (.long (own_f0_32 p0 q4)), .second, .val (.long (own_f0_41 p0 q5)), .second, .val (.ref b33), .val (.long (own_f0_83 p0 q1 q2 q3 q4 q5)), .second, .val (.long (own_f0_j131_L24 p0 q1 q2 q3 q4 q5)), .second, .unset] [(.long (own_f0_14 p0 q2))]) _
      refine own_step (fun t k => XS.lload X39.here hx rfl (hb hby at_145) rfl  k) ?_
      show own_Run p e below T39 (mkF m 147 #[.val (.int p0), .val (.long q1), .second, .val (.long q2), .second, .val (.long q3), .second, .val (.long q4), .second, .val (.long q5), .second, .val (.long (own_f0_6 p0 q1)), .second, .val (.long (own_f0_14 p0 q2)), .second, .val (.long (own_f0_23 p0 q3)), .second, .val (.long (own_f0_32 p0 q4)), .second, .val (.long (own_f0_41 p0 q5)), .second, .val (.ref b33), .val (.long (own_f0_83 p0 q1 q2 q3 q4 q5)), .second, .val (.long (own_f0_j131_L24 p0 q1 q2 q3 q4 q5)), .second, .unset] [(.long (own_f0_14 p0 q2)), (.long (own_f0_14 p0 q2))]) _
      refine own_step (fun t k => XS.lcmp X39.here hx rfl (hb hby at_147) rfl k) ?_
      show own_Run p e below T39 (mkF m 148 #[.val (.int p0), .val (.long q1), .second, .val (.long q2), .second, .val (.long q3), .second, .val (.long q4), .second, .val (.long q5), .second, .val (.long (own_f0_6 p0 q1)), .second, .val (.long (own_f0_14 p0 q2)), .second, .val (.long (own_f0_23 p0 q3)), .second, .val (.long (own_f0_32 p0 q4)), .second, .val (.long (own_f0_41 p0 q5)), .second, .val (.ref b33), .val (.long (own_f0_83 p0 q1 q2 q3 q4 q5)), .second, .val (.long (own_f0_j131_L24 p0 q1 q2 q3 q4 q5)), .second, .unset] [(.int (lcmpW (own_f0_14 p0 q2) (own_f0_14 p0 q2)))]) _
      by_cases hc48 : (lcmpW (own_f0_14 p0 q2) (own_f0_14 p0 q2)) = (0 : Int32)
      · refine own_step (fun t k => XS.ifNo X39.here hx rfl (hb hby at_148) rfl ((if0 _ _).trans (teq hc48).2) k) ?_
        show own_Run p e below T39 (mkF m 151 #[.val (.int p0), .val (.long q1), .second, .val (.long q2), .second, .val (.long q3), .second, .val (.long q4), .second, .val (.long q5), .second, .val (.long (own_f0_6 p0 q1)), .second, .val (.long (own_f0_14 p0 q2)), .second, .val (.long (own_f0_23 p0 q3)), .second, .val (.long (own_f0_32 p0 q4)), .second, .val (.long (own_f0_41 p0 q5)), .second, .val (.ref b33), .val (.long (own_f0_83 p0 q1 q2 q3 q4 q5)), .second, .val (.long (own_f0_j131_L24 p0 q1 q2 q3 q4 q5)), .second, .unset] []) _
        refine own_step (fun t k => XS.aload X39.here hx rfl (hb hby at_151) rfl rfl k) ?_
        show own_Run p e below T39 (mkF m 153 #[.val (.int p0), .val (.long q1), .second, .val (.long q2), .second, .val (.long q3), .second, .val (.long q4), .second, .val (.long q5), .second, .val (.long (own_f0_6 p0 q1)), .second, .val (.long (own_f0_14 p0 q2)), .second, .val (.long (own_f0_23 p0 q3)), .second, .val (.long (own_f0_32 p0 q4)), .second, .val (.long (own_f0_41 p0 q5)), .second, .val (.ref b33), .val (.long (own_f0_83 p0 q1 q2 q3 q4 q5)), .second, .val (.long (own_f0_j131_L24 p0 q1 q2 q3 q4 q5)), .second, .unset] [(.ref b33)]) _
        refine own_step (fun t k => XS.iconst X39.here hx rfl (hb hby at_153) k) ?_
        show own_Run p e below T39 (mkF m 154 #[.val (.int p0), .val (.long q1), .second, .val (.long q2), .second, .val (.long q3), .second, .val (.long q4), .second, .val (.long q5), .second, .val (.long (own_f0_6 p0 q1)), .second, .val (.long (own_f0_14 p0 q2)), .second, .val (.long (own_f0_23 p0 q3)), .second, .val (.long (own_f0_32 p0 q4)), .second, .val (.long (own_f0_41 p0 q5)), .second, .val (.ref b33), .val (.long (own_f0_83 p0 q1 q2 q3 q4 q5)), .second, .val (.long (own_f0_j131_L24 p0 q1 q2 q3 q4 q5)), .second, .unset] [(.int (2 : Int32)), (.ref b33)]) _
        refine own_step (own_ldJ X39 hx hZ e39 V38x (j := (2 : Int32)) (v := (.long (own_f0_23 p0 q3))) ⟨by decide, by decide⟩ rfl (g := (mkF m 154 #[.val (.int p0), .val (.long q1), .second, .val (.long q2), .second, .val (.long q3), .second, .val (.long q4), .second, .val (.long q5), .second, .val (.long (own_f0_6 p0 q1)), .second, .val (.long (own_f0_14 p0 q2)), .second, .val (.long (own_f0_23 p0 q3)), .second, .val (.long (own_f0_32 p0 q4)), .second, .val (.long (own_f0_41 p0 q5)), .second, .val (.ref b33), .val (.long (own_f0_83 p0 q1 q2 q3 q4 q5)), .second, .val (.long (own_f0_j131_L24 p0 q1 q2 q3 q4 q5)), .second, .unset] [(.int (2 : Int32)), (.ref b33)])) rfl rfl (hb hby at_154)) ?_
        show own_Run p e below T39 (mkF m 155 #[.val (.int p0), .val (.long q1), .second, .val (.long q2), .second, .val (.long q3), .second, .val (.long q4), .second, .val (.long q5), .second, .val (.long (own_f0_6 p0 q1)), .second, .val (.long (own_f0_14 p0 q2)), .second, .val (.long (own_f0_23 p0 q3)), .second, .val (.long (own_f0_32 p0 q4)), .second, .val (.long (own_f0_41 p0 q5)), .second, .val (.ref b33), .val (.long (own_f0_83 p0 q1 q2 q3 q4 q5)), .second, .val (.long (own_f0_j131_L24 p0 q1 q2 q3 q4 q5)), .second, .unset] [(.long (own_f0_23 p0 q3))]) _
        refine own_step (fun t k => XS.lload X39.here hx rfl (hb hby at_155) rfl  k) ?_
        show own_Run p e below T39 (mkF m 157 #[.val (.int p0), .val (.long q1), .second, .val (.long q2), .second, .val (.long q3), .second, .val (.long q4), .second, .val (.long q5), .second, .val (.long (own_f0_6 p0 q1)), .second, .val (.long (own_f0_14 p0 q2)), .second, .val (.long (own_f0_23 p0 q3)), .second, .val (.long (own_f0_32 p0 q4)), .second, .val (.long (own_f0_41 p0 q5)), .second, .val (.ref b33), .val (.long (own_f0_83 p0 q1 q2 q3 q4 q5)), .second, .val (.long (own_f0_j131_L24 p0 q1 q2 q3 q4 q5)), .second, .unset] [(.long (own_f0_23 p0 q3)), (.long (own_f0_23 p0 q3))]) _
        refine own_step (fun t k => XS.lcmp X39.here hx rfl (hb hby at_157) rfl k) ?_
        show own_Run p e below T39 (mkF m 158 #[.val (.int p0), .val (.long q1), .second, .val (.long q2), .second, .val (.long q3), .second, .val (.long q4), .second, .val (.long q5), .second, .val (.long (own_f0_6 p0 q1)), .second, .val (.long (own_f0_14 p0 q2)), .second, .val (.long (own_f0_23 p0 q3)), .second, .val (.long (own_f0_32 p0 q4)), .second, .val (.long (own_f0_41 p0 q5)), .second, .val (.ref b33), .val (.long (own_f0_83 p0 q1 q2 q3 q4 q5)), .second, .val (.long (own_f0_j131_L24 p0 q1 q2 q3 q4 q5)), .second, .unset] [(.int (lcmpW (own_f0_23 p0 q3) (own_f0_23 p0 q3)))]) _
        by_cases hc49 : (lcmpW (own_f0_23 p0 q3) (own_f0_23 p0 q3)) = (0 : Int32)
        · refine own_step (fun t k => XS.ifNo X39.here hx rfl (hb hby at_158) rfl ((if0 _ _).trans (teq hc49).2) k) ?_
          show own_Run p e below T39 (mkF m 161 #[.val (.int p0), .val (.long q1), .second, .val (.long q2), .second, .val (.long q3), .second, .val (.long q4), .second, .val (.long q5), .second, .val (.long (own_f0_6 p0 q1)), .second, .val (.long (own_f0_14 p0 q2)), .second, .val (.long (own_f0_23 p0 q3)), .second, .val (.long (own_f0_32 p0 q4)), .second, .val (.long (own_f0_41 p0 q5)), .second, .val (.ref b33), .val (.long (own_f0_83 p0 q1 q2 q3 q4 q5)), .second, .val (.long (own_f0_j131_L24 p0 q1 q2 q3 q4 q5)), .second, .unset] []) _
          refine own_step (fun t k => XS.aload X39.here hx rfl (hb hby at_161) rfl rfl k) ?_
          show own_Run p e below T39 (mkF m 163 #[.val (.int p0), .val (.long q1), .second, .val (.long q2), .second, .val (.long q3), .second, .val (.long q4), .second, .val (.long q5), .second, .val (.long (own_f0_6 p0 q1)), .second, .val (.long (own_f0_14 p0 q2)), .second, .val (.long (own_f0_23 p0 q3)), .second, .val (.long (own_f0_32 p0 q4)), .second, .val (.long (own_f0_41 p0 q5)), .second, .val (.ref b33), .val (.long (own_f0_83 p0 q1 q2 q3 q4 q5)), .second, .val (.long (own_f0_j131_L24 p0 q1 q2 q3 q4 q5)), .second, .unset] [(.ref b33)]) _
          refine own_step (fun t k => XS.iconst X39.here hx rfl (hb hby at_163) k) ?_
          show own_Run p e below T39 (mkF m 164 #[.val (.int p0), .val (.long q1), .second, .val (.long q2), .second, .val (.long q3), .second, .val (.long q4), .second, .val (.long q5), .second, .val (.long (own_f0_6 p0 q1)), .second, .val (.long (own_f0_14 p0 q2)), .second, .val (.long (own_f0_23 p0 q3)), .second, .val (.long (own_f0_32 p0 q4)), .second, .val (.long (own_f0_41 p0 q5)), .second, .val (.ref b33), .val (.long (own_f0_83 p0 q1 q2 q3 q4 q5)), .second, .val (.long (own_f0_j131_L24 p0 q1 q2 q3 q4 q5)), .second, .unset] [(.int (3 : Int32)), (.ref b33)]) _
          refine own_step (own_ldJ X39 hx hZ e39 V38x (j := (3 : Int32)) (v := (.long (own_f0_32 p0 q4))) ⟨by decide, by decide⟩ rfl (g := (mkF m 164 #[.val (.int p0), .val (.long q1), .second, .val (.long q2), .second, .val (.long q3), .second, .val (.long q4), .second, .val (.long q5), .second, .val (.long (own_f0_6 p0 q1)), .second, .val (.long (own_f0_14 p0 q2)), .second, .val (.long (own_f0_23 p0 q3)), .second, .val (.long (own_f0_32 p0 q4)), .second, .val (.long (own_f0_41 p0 q5)), .second, .val (.ref b33), .val (.long (own_f0_83 p0 q1 q2 q3 q4 q5)), .second, .val (.long (own_f0_j131_L24 p0 q1 q2 q3 q4 q5)), .second, .unset] [(.int (3 : Int32)), (.ref b33)])) rfl rfl (hb hby at_164)) ?_
          show own_Run p e below T39 (mkF m 165 #[.val (.int p0), .val (.long q1), .second, .val (.long q2), .second, .val (.long q3), .second, .val (.long q4), .second, .val (.long q5), .second, .val (.long (own_f0_6 p0 q1)), .second, .val (.long (own_f0_14 p0 q2)), .second, .val (.long (own_f0_23 p0 q3)), .second, .val (.long (own_f0_32 p0 q4)), .second, .val (.long (own_f0_41 p0 q5)), .second, .val (.ref b33), .val (.long (own_f0_83 p0 q1 q2 q3 q4 q5)), .second, .val (.long (own_f0_j131_L24 p0 q1 q2 q3 q4 q5)), .second, .unset] [(.long (own_f0_32 p0 q4))]) _
          refine own_step (fun t k => XS.lload X39.here hx rfl (hb hby at_165) rfl  k) ?_
          show own_Run p e below T39 (mkF m 167 #[.val (.int p0), .val (.long q1), .second, .val (.long q2), .second, .val (.long q3), .second, .val (.long q4), .second, .val (.long q5), .second, .val (.long (own_f0_6 p0 q1)), .second, .val (.long (own_f0_14 p0 q2)), .second, .val (.long (own_f0_23 p0 q3)), .second, .val (.long (own_f0_32 p0 q4)), .second, .val (.long (own_f0_41 p0 q5)), .second, .val (.ref b33), .val (.long (own_f0_83 p0 q1 q2 q3 q4 q5)), .second, .val (.long (own_f0_j131_L24 p0 q1 q2 q3 q4 q5)), .second, .unset] [(.long (own_f0_32 p0 q4)), (.long (own_f0_32 p0 q4))]) _
          refine own_step (fun t k => XS.lcmp X39.here hx rfl (hb hby at_167) rfl k) ?_
          show own_Run p e below T39 (mkF m 168 #[.val (.int p0), .val (.long q1), .second, .val (.long q2), .second, .val (.long q3), .second, .val (.long q4), .second, .val (.long q5), .second, .val (.long (own_f0_6 p0 q1)), .second, .val (.long (own_f0_14 p0 q2)), .second, .val (.long (own_f0_23 p0 q3)), .second, .val (.long (own_f0_32 p0 q4)), .second, .val (.long (own_f0_41 p0 q5)), .second, .val (.ref b33), .val (.long (own_f0_83 p0 q1 q2 q3 q4 q5)), .second, .val (.long (own_f0_j131_L24 p0 q1 q2 q3 q4 q5)), .second, .unset] [(.int (lcmpW (own_f0_32 p0 q4) (own_f0_32 p0 q4)))]) _
          by_cases hc50 : (lcmpW (own_f0_32 p0 q4) (own_f0_32 p0 q4)) = (0 : Int32)
          · refine own_step (fun t k => XS.ifNo X39.here hx rfl (hb hby at_168) rfl ((if0 _ _).trans (teq hc50).2) k) ?_
            show own_Run p e below T39 (mkF m 171 #[.val (.int p0), .val (.long q1), .second, .val (.long q2), .second, .val (.long q3), .second, .val (.long q4), .second, .val (.long q5), .second, .val (.long (own_f0_6 p0 q1)), .second, .val (.long (own_f0_14 p0 q2)), .second, .val (.long (own_f0_23 p0 q3)), .second, .val (.long (own_f0_32 p0 q4)), .second, .val (.long (own_f0_41 p0 q5)), .second, .val (.ref b33), .val (.long (own_f0_83 p0 q1 q2 q3 q4 q5)), .second, .val (.long (own_f0_j131_L24 p0 q1 q2 q3 q4 q5)), .second, .unset] []) _
            refine own_step (fun t k => XS.aload X39.here hx rfl (hb hby at_171) rfl rfl k) ?_
            show own_Run p e below T39 (mkF m 173 #[.val (.int p0), .val (.long q1), .second, .val (.long q2), .second, .val (.long q3), .second, .val (.long q4), .second, .val (.long q5), .second, .val (.long (own_f0_6 p0 q1)), .second, .val (.long (own_f0_14 p0 q2)), .second, .val (.long (own_f0_23 p0 q3)), .second, .val (.long (own_f0_32 p0 q4)), .second, .val (.long (own_f0_41 p0 q5)), .second, .val (.ref b33), .val (.long (own_f0_83 p0 q1 q2 q3 q4 q5)), .second, .val (.long (own_f0_j131_L24 p0 q1 q2 q3 q4 q5)), .second, .unset] [(.ref b33)]) _
            refine own_step (fun t k => XS.iconst X39.here hx rfl (hb hby at_173) k) ?_
            show own_Run p e below T39 (mkF m 174 #[.val (.int p0), .val (.long q1), .second, .val (.long q2), .second, .val (.long q3), .second, .val (.long q4), .second, .val (.long q5), .second, .val (.long (own_f0_6 p0 q1)), .second, .val (.long (own_f0_14 p0 q2)), .second, .val (.long (own_f0_23 p0 q3)), .second, .val (.long (own_f0_32 p0 q4)), .second, .val (.long (own_f0_41 p0 q5)), .second, .val (.ref b33), .val (.long (own_f0_83 p0 q1 q2 q3 q4 q5)), .second, .val (.long (own_f0_j131_L24 p0 q1 q2 q3 q4 q5)), .second, .unset] [(.int (4 : Int32)), (.ref b33)]) _
            refine own_step (own_ldJ X39 hx hZ e39 V38x (j := (4 : Int32)) (v := (.long (own_f0_41 p0 q5))) ⟨by decide, by decide⟩ rfl (g := (mkF m 174 #[.val (.int p0), .val (.long q1), .second, .val (.long q2), .second, .val (.long q3), .second, .val (.long q4), .second, .val (.long q5), .second, .val (.long (own_f0_6 p0 q1)), .second, .val (.long (own_f0_14 p0 q2)), .second, .val (.long (own_f0_23 p0 q3)), .second, .val (.long (own_f0_32 p0 q4)), .second, .val (.long (own_f0_41 p0 q5)), .second, .val (.ref b33), .val (.long (own_f0_83 p0 q1 q2 q3 q4 q5)), .second, .val (.long (own_f0_j131_L24 p0 q1 q2 q3 q4 q5)), .second, .unset] [(.int (4 : Int32)), (.ref b33)])) rfl rfl (hb hby at_174)) ?_
            show own_Run p e below T39 (mkF m 175 #[.val (.int p0), .val (.long q1), .second, .val (.long q2), .second, .val (.long q3), .second, .val (.long q4), .second, .val (.long q5), .second, .val (.long (own_f0_6 p0 q1)), .second, .val (.long (own_f0_14 p0 q2)), .second, .val (.long (own_f0_23 p0 q3)), .second, .val (.long (own_f0_32 p0 q4)), .second, .val (.long (own_f0_41 p0 q5)), .second, .val (.ref b33), .val (.long (own_f0_83 p0 q1 q2 q3 q4 q5)), .second, .val (.long (own_f0_j131_L24 p0 q1 q2 q3 q4 q5)), .second, .unset] [(.long (own_f0_41 p0 q5))]) _
            refine own_step (fun t k => XS.lload X39.here hx rfl (hb hby at_175) rfl  k) ?_
            show own_Run p e below T39 (mkF m 177 #[.val (.int p0), .val (.long q1), .second, .val (.long q2), .second, .val (.long q3), .second, .val (.long q4), .second, .val (.long q5), .second, .val (.long (own_f0_6 p0 q1)), .second, .val (.long (own_f0_14 p0 q2)), .second, .val (.long (own_f0_23 p0 q3)), .second, .val (.long (own_f0_32 p0 q4)), .second, .val (.long (own_f0_41 p0 q5)), .second, .val (.ref b33), .val (.long (own_f0_83 p0 q1 q2 q3 q4 q5)), .second, .val (.long (own_f0_j131_L24 p0 q1 q2 q3 q4 q5)), .second, .unset] [(.long (own_f0_41 p0 q5)), (.long (own_f0_41 p0 q5))]) _
            refine own_step (fun t k => XS.lcmp X39.here hx rfl (hb hby at_177) rfl k) ?_
            show own_Run p e below T39 (mkF m 178 #[.val (.int p0), .val (.long q1), .second, .val (.long q2), .second, .val (.long q3), .second, .val (.long q4), .second, .val (.long q5), .second, .val (.long (own_f0_6 p0 q1)), .second, .val (.long (own_f0_14 p0 q2)), .second, .val (.long (own_f0_23 p0 q3)), .second, .val (.long (own_f0_32 p0 q4)), .second, .val (.long (own_f0_41 p0 q5)), .second, .val (.ref b33), .val (.long (own_f0_83 p0 q1 q2 q3 q4 q5)), .second, .val (.long (own_f0_j131_L24 p0 q1 q2 q3 q4 q5)), .second, .unset] [(.int (lcmpW (own_f0_41 p0 q5) (own_f0_41 p0 q5)))]) _
            by_cases hc51 : (lcmpW (own_f0_41 p0 q5) (own_f0_41 p0 q5)) = (0 : Int32)
            · refine own_step (fun t k => XS.ifNo X39.here hx rfl (hb hby at_178) rfl ((if0 _ _).trans (teq hc51).2) k) ?_
              show own_Run p e below T39 (mkF m 181 #[.val (.int p0), .val (.long q1), .second, .val (.long q2), .second, .val (.long q3), .second, .val (.long q4), .second, .val (.long q5), .second, .val (.long (own_f0_6 p0 q1)), .second, .val (.long (own_f0_14 p0 q2)), .second, .val (.long (own_f0_23 p0 q3)), .second, .val (.long (own_f0_32 p0 q4)), .second, .val (.long (own_f0_41 p0 q5)), .second, .val (.ref b33), .val (.long (own_f0_83 p0 q1 q2 q3 q4 q5)), .second, .val (.long (own_f0_j131_L24 p0 q1 q2 q3 q4 q5)), .second, .unset] []) _
              refine own_step (fun t k => XS.iconst X39.here hx rfl (hb hby at_181) k) ?_
              show own_Run p e below T39 (mkF m 182 #[.val (.int p0), .val (.long q1), .second, .val (.long q2), .second, .val (.long q3), .second, .val (.long q4), .second, .val (.long q5), .second, .val (.long (own_f0_6 p0 q1)), .second, .val (.long (own_f0_14 p0 q2)), .second, .val (.long (own_f0_23 p0 q3)), .second, .val (.long (own_f0_32 p0 q4)), .second, .val (.long (own_f0_41 p0 q5)), .second, .val (.ref b33), .val (.long (own_f0_83 p0 q1 q2 q3 q4 q5)), .second, .val (.long (own_f0_j131_L24 p0 q1 q2 q3 q4 q5)), .second, .unset] [(.int (1 : Int32))]) _
              refine own_step (fun t k => XS.goto X39.here hx rfl (pc0 := 182) (pc' := 186) rfl (hb hby at_182) (by decide) (by decide) k) ?_
              show own_Run p e below T39 (mkF m 186 #[.val (.int p0), .val (.long q1), .second, .val (.long q2), .second, .val (.long q3), .second, .val (.long q4), .second, .val (.long q5), .second, .val (.long (own_f0_6 p0 q1)), .second, .val (.long (own_f0_14 p0 q2)), .second, .val (.long (own_f0_23 p0 q3)), .second, .val (.long (own_f0_32 p0 q4)), .second, .val (.long (own_f0_41 p0 q5)), .second, .val (.ref b33), .val (.long (own_f0_83 p0 q1 q2 q3 q4 q5)), .second, .val (.long (own_f0_j131_L24 p0 q1 q2 q3 q4 q5)), .second, .unset] [(.int (1 : Int32))]) _
              have hj0 : (own_f0_j186_S0 p0 q1 q2 q3 q4 q5) = (1 : Int32) := ((if_pos hc47).trans ((if_pos hc48).trans ((if_pos hc49).trans ((if_pos hc50).trans (if_pos hc51)))))
              exact own_here (by rw [hj0])
            · refine own_step (fun t k => XS.ifYes X39.here hx rfl (pc0 := 178) (pc' := 185) rfl (hb hby at_178) rfl ((if0 _ _).trans (feq hc51).2) (by decide) (by decide) k) ?_
              show own_Run p e below T39 (mkF m 185 #[.val (.int p0), .val (.long q1), .second, .val (.long q2), .second, .val (.long q3), .second, .val (.long q4), .second, .val (.long q5), .second, .val (.long (own_f0_6 p0 q1)), .second, .val (.long (own_f0_14 p0 q2)), .second, .val (.long (own_f0_23 p0 q3)), .second, .val (.long (own_f0_32 p0 q4)), .second, .val (.long (own_f0_41 p0 q5)), .second, .val (.ref b33), .val (.long (own_f0_83 p0 q1 q2 q3 q4 q5)), .second, .val (.long (own_f0_j131_L24 p0 q1 q2 q3 q4 q5)), .second, .unset] []) _
              refine own_step (fun t k => XS.iconst X39.here hx rfl (hb hby at_185) k) ?_
              show own_Run p e below T39 (mkF m 186 #[.val (.int p0), .val (.long q1), .second, .val (.long q2), .second, .val (.long q3), .second, .val (.long q4), .second, .val (.long q5), .second, .val (.long (own_f0_6 p0 q1)), .second, .val (.long (own_f0_14 p0 q2)), .second, .val (.long (own_f0_23 p0 q3)), .second, .val (.long (own_f0_32 p0 q4)), .second, .val (.long (own_f0_41 p0 q5)), .second, .val (.ref b33), .val (.long (own_f0_83 p0 q1 q2 q3 q4 q5)), .second, .val (.long (own_f0_j131_L24 p0 q1 q2 q3 q4 q5)), .second, .unset] [(.int (0 : Int32))]) _
              have hj0 : (own_f0_j186_S0 p0 q1 q2 q3 q4 q5) = (0 : Int32) := ((if_pos hc47).trans ((if_pos hc48).trans ((if_pos hc49).trans ((if_pos hc50).trans (if_neg hc51)))))
              exact own_here (by rw [hj0])
          · refine own_step (fun t k => XS.ifYes X39.here hx rfl (pc0 := 168) (pc' := 185) rfl (hb hby at_168) rfl ((if0 _ _).trans (feq hc50).2) (by decide) (by decide) k) ?_
            show own_Run p e below T39 (mkF m 185 #[.val (.int p0), .val (.long q1), .second, .val (.long q2), .second, .val (.long q3), .second, .val (.long q4), .second, .val (.long q5), .second, .val (.long (own_f0_6 p0 q1)), .second, .val (.long (own_f0_14 p0 q2)), .second, .val (.long (own_f0_23 p0 q3)), .second, .val (.long (own_f0_32 p0 q4)), .second, .val (.long (own_f0_41 p0 q5)), .second, .val (.ref b33), .val (.long (own_f0_83 p0 q1 q2 q3 q4 q5)), .second, .val (.long (own_f0_j131_L24 p0 q1 q2 q3 q4 q5)), .second, .unset] []) _
            refine own_step (fun t k => XS.iconst X39.here hx rfl (hb hby at_185) k) ?_
            show own_Run p e below T39 (mkF m 186 #[.val (.int p0), .val (.long q1), .second, .val (.long q2), .second, .val (.long q3), .second, .val (.long q4), .second, .val (.long q5), .second, .val (.long (own_f0_6 p0 q1)), .second, .val (.long (own_f0_14 p0 q2)), .second, .val (.long (own_f0_23 p0 q3)), .second, .val (.long (own_f0_32 p0 q4)), .second, .val (.long (own_f0_41 p0 q5)), .second, .val (.ref b33), .val (.long (own_f0_83 p0 q1 q2 q3 q4 q5)), .second, .val (.long (own_f0_j131_L24 p0 q1 q2 q3 q4 q5)), .second, .unset] [(.int (0 : Int32))]) _
            have hj0 : (own_f0_j186_S0 p0 q1 q2 q3 q4 q5) = (0 : Int32) := ((if_pos hc47).trans ((if_pos hc48).trans ((if_pos hc49).trans (if_neg hc50))))
            exact own_here (by rw [hj0])
        · refine own_step (fun t k => XS.ifYes X39.here hx rfl (pc0 := 158) (pc' := 185) rfl (hb hby at_158) rfl ((if0 _ _).trans (feq hc49).2) (by decide) (by decide) k) ?_
          show own_Run p e below T39 (mkF m 185 #[.val (.int p0), .val (.long q1), .second, .val (.long q2), .second, .val (.long q3), .second, .val (.long q4), .second, .val (.long q5), .second, .val (.long (own_f0_6 p0 q1)), .second, .val (.long (own_f0_14 p0 q2)), .second, .val (.long (own_f0_23 p0 q3)), .second, .val (.long (own_f0_32 p0 q4)), .second, .val (.long (own_f0_41 p0 q5)), .second, .val (.ref b33), .val (.long (own_f0_83 p0 q1 q2 q3 q4 q5)), .second, .val (.long (own_f0_j131_L24 p0 q1 q2 q3 q4 q5)), .second, .unset] []) _
          refine own_step (fun t k => XS.iconst X39.here hx rfl (hb hby at_185) k) ?_
          show own_Run p e below T39 (mkF m 186 #[.val (.int p0), .val (.long q1), .second, .val (.long q2), .second, .val (.long q3), .second, .val (.long q4), .second, .val (.long q5), .second, .val (.long (own_f0_6 p0 q1)), .second, .val (.long (own_f0_14 p0 q2)), .second, .val (.long (own_f0_23 p0 q3)), .second, .val (.long (own_f0_32 p0 q4)), .second, .val (.long (own_f0_41 p0 q5)), .second, .val (.ref b33), .val (.long (own_f0_83 p0 q1 q2 q3 q4 q5)), .second, .val (.long (own_f0_j131_L24 p0 q1 q2 q3 q4 q5)), .second, .unset] [(.int (0 : Int32))]) _
          have hj0 : (own_f0_j186_S0 p0 q1 q2 q3 q4 q5) = (0 : Int32) := ((if_pos hc47).trans ((if_pos hc48).trans (if_neg hc49)))
          exact own_here (by rw [hj0])
      · refine own_step (fun t k => XS.ifYes X39.here hx rfl (pc0 := 148) (pc' := 185) rfl (hb hby at_148) rfl ((if0 _ _).trans (feq hc48).2) (by decide) (by decide) k) ?_
        show own_Run p e below T39 (mkF m 185 #[.val (.int p0), .val (.long q1), .second, .val (.long q2), .second, .val (.long q3), .second, .val (.long q4), .second, .val (.long q5), .second, .val (.long (own_f0_6 p0 q1)), .second, .val (.long (own_f0_14 p0 q2)), .second, .val (.long (own_f0_23 p0 q3)), .second, .val (.long (own_f0_32 p0 q4)), .second, .val (.long (own_f0_41 p0 q5)), .second, .val (.ref b33), .val (.long (own_f0_83 p0 q1 q2 q3 q4 q5)), .second, .val (.long (own_f0_j131_L24 p0 q1 q2 q3 q4 q5)), .second, .unset] []) _
        refine own_step (fun t k => XS.iconst X39.here hx rfl (hb hby at_185) k) ?_
        show own_Run p e below T39 (mkF m 186 #[.val (.int p0), .val (.long q1), .second, .val (.long q2), .second, .val (.long q3), .second, .val (.long q4), .second, .val (.long q5), .second, .val (.long (own_f0_6 p0 q1)), .second, .val (.long (own_f0_14 p0 q2)), .second, .val (.long (own_f0_23 p0 q3)), .second, .val (.long (own_f0_32 p0 q4)), .second, .val (.long (own_f0_41 p0 q5)), .second, .val (.ref b33), .val (.long (own_f0_83 p0 q1 q2 q3 q4 q5)), .second, .val (.long (own_f0_j131_L24 p0 q1 q2 q3 q4 q5)), .second, .unset] [(.int (0 : Int32))]) _
        have hj0 : (own_f0_j186_S0 p0 q1 q2 q3 q4 q5) = (0 : Int32) := ((if_pos hc47).trans (if_neg hc48))
        exact own_here (by rw [hj0])
    · refine own_step (fun t k => XS.ifYes X39.here hx rfl (pc0 := 138) (pc' := 185) rfl (hb hby at_138) rfl ((if0 _ _).trans (feq hc47).2) (by decide) (by decide) k) ?_
      show own_Run p e below T39 (mkF m 185 #[.val (.int p0), .val (.long q1), .second, .val (.long q2), .second, .val (.long q3), .second, .val (.long q4), .second, .val (.long q5), .second, .val (.long (own_f0_6 p0 q1)), .second, .val (.long (own_f0_14 p0 q2)), .second, .val (.long (own_f0_23 p0 q3)), .second, .val (.long (own_f0_32 p0 q4)), .second, .val (.long (own_f0_41 p0 q5)), .second, .val (.ref b33), .val (.long (own_f0_83 p0 q1 q2 q3 q4 q5)), .second, .val (.long (own_f0_j131_L24 p0 q1 q2 q3 q4 q5)), .second, .unset] []) _
      refine own_step (fun t k => XS.iconst X39.here hx rfl (hb hby at_185) k) ?_
      show own_Run p e below T39 (mkF m 186 #[.val (.int p0), .val (.long q1), .second, .val (.long q2), .second, .val (.long q3), .second, .val (.long q4), .second, .val (.long q5), .second, .val (.long (own_f0_6 p0 q1)), .second, .val (.long (own_f0_14 p0 q2)), .second, .val (.long (own_f0_23 p0 q3)), .second, .val (.long (own_f0_32 p0 q4)), .second, .val (.long (own_f0_41 p0 q5)), .second, .val (.ref b33), .val (.long (own_f0_83 p0 q1 q2 q3 q4 q5)), .second, .val (.long (own_f0_j131_L24 p0 q1 q2 q3 q4 q5)), .second, .unset] [(.int (0 : Int32))]) _
      have hj0 : (own_f0_j186_S0 p0 q1 q2 q3 q4 q5) = (0 : Int32) := (if_neg hc47)
      exact own_here (by rw [hj0])
  refine own_tr st46 ?_
  show own_Run p e below T39 (mkF m 186 #[.val (.int p0), .val (.long q1), .second, .val (.long q2), .second, .val (.long q3), .second, .val (.long q4), .second, .val (.long q5), .second, .val (.long (own_f0_6 p0 q1)), .second, .val (.long (own_f0_14 p0 q2)), .second, .val (.long (own_f0_23 p0 q3)), .second, .val (.long (own_f0_32 p0 q4)), .second, .val (.long (own_f0_41 p0 q5)), .second, .val (.ref b33), .val (.long (own_f0_83 p0 q1 q2 q3 q4 q5)), .second, .val (.long (own_f0_j131_L24 p0 q1 q2 q3 q4 q5)), .second, .unset] [(.int (own_f0_j186_S0 p0 q1 q2 q3 q4 q5))]) _
  refine own_step (fun t k => XS.istore X39.here hx rfl (hb hby at_186) rfl (l' := #[.val (.int p0), .val (.long q1), .second, .val (.long q2), .second, .val (.long q3), .second, .val (.long q4), .second, .val (.long q5), .second, .val (.long (own_f0_6 p0 q1)), .second, .val (.long (own_f0_14 p0 q2)), .second, .val (.long (own_f0_23 p0 q3)), .second, .val (.long (own_f0_32 p0 q4)), .second, .val (.long (own_f0_41 p0 q5)), .second, .val (.ref b33), .val (.long (own_f0_83 p0 q1 q2 q3 q4 q5)), .second, .val (.long (own_f0_j131_L24 p0 q1 q2 q3 q4 q5)), .second, .val (.int (own_f0_186 p0 q1 q2 q3 q4 q5))]) rfl k) ?_
  show own_Run p e below T39 (mkF m 188 #[.val (.int p0), .val (.long q1), .second, .val (.long q2), .second, .val (.long q3), .second, .val (.long q4), .second, .val (.long q5), .second, .val (.long (own_f0_6 p0 q1)), .second, .val (.long (own_f0_14 p0 q2)), .second, .val (.long (own_f0_23 p0 q3)), .second, .val (.long (own_f0_32 p0 q4)), .second, .val (.long (own_f0_41 p0 q5)), .second, .val (.ref b33), .val (.long (own_f0_83 p0 q1 q2 q3 q4 q5)), .second, .val (.long (own_f0_j131_L24 p0 q1 q2 q3 q4 q5)), .second, .val (.int (own_f0_186 p0 q1 q2 q3 q4 q5))] []) _
  refine own_step (fun t k => XS.lload X39.here hx rfl (hb hby at_188) rfl  k) ?_
  show own_Run p e below T39 (mkF m 190 #[.val (.int p0), .val (.long q1), .second, .val (.long q2), .second, .val (.long q3), .second, .val (.long q4), .second, .val (.long q5), .second, .val (.long (own_f0_6 p0 q1)), .second, .val (.long (own_f0_14 p0 q2)), .second, .val (.long (own_f0_23 p0 q3)), .second, .val (.long (own_f0_32 p0 q4)), .second, .val (.long (own_f0_41 p0 q5)), .second, .val (.ref b33), .val (.long (own_f0_83 p0 q1 q2 q3 q4 q5)), .second, .val (.long (own_f0_j131_L24 p0 q1 q2 q3 q4 q5)), .second, .val (.int (own_f0_186 p0 q1 q2 q3 q4 q5))] [(.long (own_f0_83 p0 q1 q2 q3 q4 q5))]) _
  refine own_step (fun t k => XS.lload X39.here hx rfl (hb hby at_190) rfl  k) ?_
  show own_Run p e below T39 (mkF m 192 #[.val (.int p0), .val (.long q1), .second, .val (.long q2), .second, .val (.long q3), .second, .val (.long q4), .second, .val (.long q5), .second, .val (.long (own_f0_6 p0 q1)), .second, .val (.long (own_f0_14 p0 q2)), .second, .val (.long (own_f0_23 p0 q3)), .second, .val (.long (own_f0_32 p0 q4)), .second, .val (.long (own_f0_41 p0 q5)), .second, .val (.ref b33), .val (.long (own_f0_83 p0 q1 q2 q3 q4 q5)), .second, .val (.long (own_f0_j131_L24 p0 q1 q2 q3 q4 q5)), .second, .val (.int (own_f0_186 p0 q1 q2 q3 q4 q5))] [(.long (own_f0_j131_L24 p0 q1 q2 q3 q4 q5)), (.long (own_f0_83 p0 q1 q2 q3 q4 q5))]) _
  refine own_step (fun t k => XS.lcmp X39.here hx rfl (hb hby at_192) rfl k) ?_
  show own_Run p e below T39 (mkF m 193 #[.val (.int p0), .val (.long q1), .second, .val (.long q2), .second, .val (.long q3), .second, .val (.long q4), .second, .val (.long q5), .second, .val (.long (own_f0_6 p0 q1)), .second, .val (.long (own_f0_14 p0 q2)), .second, .val (.long (own_f0_23 p0 q3)), .second, .val (.long (own_f0_32 p0 q4)), .second, .val (.long (own_f0_41 p0 q5)), .second, .val (.ref b33), .val (.long (own_f0_83 p0 q1 q2 q3 q4 q5)), .second, .val (.long (own_f0_j131_L24 p0 q1 q2 q3 q4 q5)), .second, .val (.int (own_f0_186 p0 q1 q2 q3 q4 q5))] [(.int (lcmpW (own_f0_83 p0 q1 q2 q3 q4 q5) (own_f0_j131_L24 p0 q1 q2 q3 q4 q5)))]) _
  obtain ⟨_, st52, rfl⟩ : own_Run p e below T39 (mkF m 193 #[.val (.int p0), .val (.long q1), .second, .val (.long q2), .second, .val (.long q3), .second, .val (.long q4), .second, .val (.long q5), .second, .val (.long (own_f0_6 p0 q1)), .second, .val (.long (own_f0_14 p0 q2)), .second, .val (.long (own_f0_23 p0 q3)), .second, .val (.long (own_f0_32 p0 q4)), .second, .val (.long (own_f0_41 p0 q5)), .second, .val (.ref b33), .val (.long (own_f0_83 p0 q1 q2 q3 q4 q5)), .second, .val (.long (own_f0_j131_L24 p0 q1 q2 q3 q4 q5)), .second, .val (.int (own_f0_186 p0 q1 q2 q3 q4 q5))] [(.int (lcmpW (own_f0_83 p0 q1 q2 q3 q4 q5) (own_f0_j131_L24 p0 q1 q2 q3 q4 q5)))]) (fun t => t = T39.setTop (mkF m 206 #[.val (.int p0), .val (.long q1), .second, .val (.long q2), .second, .val (.long q3), .second, .val (.long q4), .second, .val (.long q5), .second, .val (.long (own_f0_6 p0 q1)), .second, .val (.long (own_f0_14 p0 q2)), .second, .val (.long (own_f0_23 p0 q3)), .second, .val (.long (own_f0_32 p0 q4)), .second, .val (.long (own_f0_41 p0 q5)), .second, .val (.ref b33), .val (.long (own_f0_83 p0 q1 q2 q3 q4 q5)), .second, .val (.long (own_f0_j131_L24 p0 q1 q2 q3 q4 q5)), .second, .val (.int (own_f0_186 p0 q1 q2 q3 q4 q5))] [(.int (own_f0_j206_S0 p0 q1 q2 q3 q4 q5))])) := by
    by_cases hc53 : (lcmpW (own_f0_83 p0 q1 q2 q3 q4 q5) (own_f0_j131_L24 p0 q1 q2 q3 q4 q5)) = (0 : Int32)
    · refine own_step (fun t k => XS.ifNo X39.here hx rfl (hb hby at_193) rfl ((if0 _ _).trans (teq hc53).2) k) ?_
      show own_Run p e below T39 (mkF m 196 #[.val (.int p0), .val (.long q1), .second, .val (.long q2), .second, .val (.long q3), .second, .val (.long q4), .second, .val (.long q5), .second, .val (.long (own_f0_6 p0 q1)), .second, .val (.long (own_f0_14 p0 q2)), .second, .val (.long (own_f0_23 p0 q3)), .second, .val (.long (own_f0_32 p0 q4)), .second, .val (.long (own_f0_41 p0 q5)), .second, .val (.ref b33), .val (.long (own_f0_83 p0 q1 q2 q3 q4 q5)), .second, .val (.long (own_f0_j131_L24 p0 q1 q2 q3 q4 q5)), .second, .val (.int (own_f0_186 p0 q1 q2 q3 q4 q5))] []) _
      refine own_step (fun t k => XS.iload X39.here hx rfl (hb hby at_196) rfl  k) ?_
      show own_Run p e below T39 (mkF m 198 #[.val (.int p0), .val (.long q1), .second, .val (.long q2), .second, .val (.long q3), .second, .val (.long q4), .second, .val (.long q5), .second, .val (.long (own_f0_6 p0 q1)), .second, .val (.long (own_f0_14 p0 q2)), .second, .val (.long (own_f0_23 p0 q3)), .second, .val (.long (own_f0_32 p0 q4)), .second, .val (.long (own_f0_41 p0 q5)), .second, .val (.ref b33), .val (.long (own_f0_83 p0 q1 q2 q3 q4 q5)), .second, .val (.long (own_f0_j131_L24 p0 q1 q2 q3 q4 q5)), .second, .val (.int (own_f0_186 p0 q1 q2 q3 q4 q5))] [(.int (own_f0_186 p0 q1 q2 q3 q4 q5))]) _
      by_cases hc54 : (own_f0_186 p0 q1 q2 q3 q4 q5) = (0 : Int32)
      · refine own_step (fun t k => XS.ifYes X39.here hx rfl (pc0 := 198) (pc' := 205) rfl (hb hby at_198) rfl ((if0 _ _).trans (teq hc54).1) (by decide) (by decide) k) ?_
        show own_Run p e below T39 (mkF m 205 #[.val (.int p0), .val (.long q1), .second, .val (.long q2), .second, .val (.long q3), .second, .val (.long q4), .second, .val (.long q5), .second, .val (.long (own_f0_6 p0 q1)), .second, .val (.long (own_f0_14 p0 q2)), .second, .val (.long (own_f0_23 p0 q3)), .second, .val (.long (own_f0_32 p0 q4)), .second, .val (.long (own_f0_41 p0 q5)), .second, .val (.ref b33), .val (.long (own_f0_83 p0 q1 q2 q3 q4 q5)), .second, .val (.long (own_f0_j131_L24 p0 q1 q2 q3 q4 q5)), .second, .val (.int (own_f0_186 p0 q1 q2 q3 q4 q5))] []) _
        refine own_step (fun t k => XS.iconst X39.here hx rfl (hb hby at_205) k) ?_
        show own_Run p e below T39 (mkF m 206 #[.val (.int p0), .val (.long q1), .second, .val (.long q2), .second, .val (.long q3), .second, .val (.long q4), .second, .val (.long q5), .second, .val (.long (own_f0_6 p0 q1)), .second, .val (.long (own_f0_14 p0 q2)), .second, .val (.long (own_f0_23 p0 q3)), .second, .val (.long (own_f0_32 p0 q4)), .second, .val (.long (own_f0_41 p0 q5)), .second, .val (.ref b33), .val (.long (own_f0_83 p0 q1 q2 q3 q4 q5)), .second, .val (.long (own_f0_j131_L24 p0 q1 q2 q3 q4 q5)), .second, .val (.int (own_f0_186 p0 q1 q2 q3 q4 q5))] [(.int (0 : Int32))]) _
        have hj0 : (own_f0_j206_S0 p0 q1 q2 q3 q4 q5) = (0 : Int32) := ((if_pos hc53).trans (if_pos hc54))
        exact own_here (by rw [hj0])
      · refine own_step (fun t k => XS.ifNo X39.here hx rfl (hb hby at_198) rfl ((if0 _ _).trans (feq hc54).1) k) ?_
        show own_Run p e below T39 (mkF m 201 #[.val (.int p0), .val (.long q1), .second, .val (.long q2), .second, .val (.long q3), .second, .val (.long q4), .second, .val (.long q5), .second, .val (.long (own_f0_6 p0 q1)), .second, .val (.long (own_f0_14 p0 q2)), .second, .val (.long (own_f0_23 p0 q3)), .second, .val (.long (own_f0_32 p0 q4)), .second, .val (.long (own_f0_41 p0 q5)), .second, .val (.ref b33), .val (.long (own_f0_83 p0 q1 q2 q3 q4 q5)), .second, .val (.long (own_f0_j131_L24 p0 q1 q2 q3 q4 q5)), .second, .val (.int (own_f0_186 p0 q1 q2 q3 q4 q5))] []) _
        refine own_step (fun t k => XS.iconst X39.here hx rfl (hb hby at_201) k) ?_
        show own_Run p e below T39 (mkF m 202 #[.val (.int p0), .val (.long q1), .second, .val (.long q2), .second, .val (.long q3), .second, .val (.long q4), .second, .val (.long q5), .second, .val (.long (own_f0_6 p0 q1)), .second, .val (.long (own_f0_14 p0 q2)), .second, .val (.long (own_f0_23 p0 q3)), .second, .val (.long (own_f0_32 p0 q4)), .second, .val (.long (own_f0_41 p0 q5)), .second, .val (.ref b33), .val (.long (own_f0_83 p0 q1 q2 q3 q4 q5)), .second, .val (.long (own_f0_j131_L24 p0 q1 q2 q3 q4 q5)), .second, .val (.int (own_f0_186 p0 q1 q2 q3 q4 q5))] [(.int (1 : Int32))]) _
        refine own_step (fun t k => XS.goto X39.here hx rfl (pc0 := 202) (pc' := 206) rfl (hb hby at_202) (by decide) (by decide) k) ?_
        show own_Run p e below T39 (mkF m 206 #[.val (.int p0), .val (.long q1), .second, .val (.long q2), .second, .val (.long q3), .second, .val (.long q4), .second, .val (.long q5), .second, .val (.long (own_f0_6 p0 q1)), .second, .val (.long (own_f0_14 p0 q2)), .second, .val (.long (own_f0_23 p0 q3)), .second, .val (.long (own_f0_32 p0 q4)), .second, .val (.long (own_f0_41 p0 q5)), .second, .val (.ref b33), .val (.long (own_f0_83 p0 q1 q2 q3 q4 q5)), .second, .val (.long (own_f0_j131_L24 p0 q1 q2 q3 q4 q5)), .second, .val (.int (own_f0_186 p0 q1 q2 q3 q4 q5))] [(.int (1 : Int32))]) _
        have hj0 : (own_f0_j206_S0 p0 q1 q2 q3 q4 q5) = (1 : Int32) := ((if_pos hc53).trans (if_neg hc54))
        exact own_here (by rw [hj0])
    · refine own_step (fun t k => XS.ifYes X39.here hx rfl (pc0 := 193) (pc' := 205) rfl (hb hby at_193) rfl ((if0 _ _).trans (feq hc53).2) (by decide) (by decide) k) ?_
      show own_Run p e below T39 (mkF m 205 #[.val (.int p0), .val (.long q1), .second, .val (.long q2), .second, .val (.long q3), .second, .val (.long q4), .second, .val (.long q5), .second, .val (.long (own_f0_6 p0 q1)), .second, .val (.long (own_f0_14 p0 q2)), .second, .val (.long (own_f0_23 p0 q3)), .second, .val (.long (own_f0_32 p0 q4)), .second, .val (.long (own_f0_41 p0 q5)), .second, .val (.ref b33), .val (.long (own_f0_83 p0 q1 q2 q3 q4 q5)), .second, .val (.long (own_f0_j131_L24 p0 q1 q2 q3 q4 q5)), .second, .val (.int (own_f0_186 p0 q1 q2 q3 q4 q5))] []) _
      refine own_step (fun t k => XS.iconst X39.here hx rfl (hb hby at_205) k) ?_
      show own_Run p e below T39 (mkF m 206 #[.val (.int p0), .val (.long q1), .second, .val (.long q2), .second, .val (.long q3), .second, .val (.long q4), .second, .val (.long q5), .second, .val (.long (own_f0_6 p0 q1)), .second, .val (.long (own_f0_14 p0 q2)), .second, .val (.long (own_f0_23 p0 q3)), .second, .val (.long (own_f0_32 p0 q4)), .second, .val (.long (own_f0_41 p0 q5)), .second, .val (.ref b33), .val (.long (own_f0_83 p0 q1 q2 q3 q4 q5)), .second, .val (.long (own_f0_j131_L24 p0 q1 q2 q3 q4 q5)), .second, .val (.int (own_f0_186 p0 q1 q2 q3 q4 q5))] [(.int (0 : Int32))]) _
      have hj0 : (own_f0_j206_S0 p0 q1 q2 q3 q4 q5) = (0 : Int32) := (if_neg hc53)
      exact own_here (by rw [hj0])
  refine own_tr st52 ?_
  show own_Run p e below T39 (mkF m 206 #[.val (.int p0), .val (.long q1), .second, .val (.long q2), .second, .val (.long q3), .second, .val (.long q4), .second, .val (.long q5), .second, .val (.long (own_f0_6 p0 q1)), .second, .val (.long (own_f0_14 p0 q2)), .second, .val (.long (own_f0_23 p0 q3)), .second, .val (.long (own_f0_32 p0 q4)), .second, .val (.long (own_f0_41 p0 q5)), .second, .val (.ref b33), .val (.long (own_f0_83 p0 q1 q2 q3 q4 q5)), .second, .val (.long (own_f0_j131_L24 p0 q1 q2 q3 q4 q5)), .second, .val (.int (own_f0_186 p0 q1 q2 q3 q4 q5))] [(.int (own_f0_j206_S0 p0 q1 q2 q3 q4 q5))]) _
  exact own_retZ X39 hx hlk hret (hb hby at_206) (by decide) (by decide) N39 trivial
theorem own_toInt {x : Int64} (h : x.toBitVec.toNat < 2 ^ 52) : x.toInt = (x.toBitVec.toNat : Int) := by
  show x.toBitVec.toInt = _
  rw [BitVec.toInt_eq_toNat_cond, if_pos (by omega)]
theorem own_limb (p k : Int32) (x : Int64) : (own_r1 p k x).toBitVec.toNat < 2 ^ 52 := by
  unfold own_r1
  split
  · decide
  · rw [Int64.toBitVec_and, BitVec.toNat_and]
    exact Nat.and_lt_two_pow _ (by decide)
theorem own_or {x y : Int64} (hx : x.toBitVec.toNat < 2 ^ 52) (hy : y.toBitVec.toNat < 2 ^ 52) : (x ||| y).toBitVec.toNat < 2 ^ 52 := by
  rw [Int64.toBitVec_or, BitVec.toNat_or]; exact Nat.or_lt_two_pow hx hy
theorem own_nz {x : Int64} (h : x ≠ 0) : 0 < x.toBitVec.toNat := by
  refine Nat.pos_of_ne_zero fun q => h (Int64.toBitVec_inj.mp (BitVec.eq_of_toNat_eq ?_))
  rw [q]; rfl
theorem own_orl {x y : Int64} (h : 0 < x.toBitVec.toNat) : 0 < (x ||| y).toBitVec.toNat := by
  rw [Int64.toBitVec_or, BitVec.toNat_or]; exact Nat.lt_of_lt_of_le h Nat.left_le_or
theorem own_orr {x y : Int64} (h : 0 < y.toBitVec.toNat) : 0 < (x ||| y).toBitVec.toNat := by
  rw [Int64.toBitVec_or, BitVec.toNat_or]; exact Nat.lt_of_lt_of_le h Nat.right_le_or
theorem own_top {v : Int64} (h : v.toBitVec.toNat < 2 ^ 52) (h0 : 0 < v.toBitVec.toNat) : own_shrL (v - (1 : Int64)) (63 : Int32) = 0 := by
  have e1 : (1 : Int64).toInt = 1 := by decide
  have e := own_toInt h
  have hs : (v - (1 : Int64)).toInt = v.toInt - 1 := by rw [Jvm.Kit.i64_sub (by rw [e1]; omega) (by rw [e1]; omega), e1]
  apply Int64.toInt_inj.mp
  have q : (own_shrL (v - (1 : Int64)) (63 : Int32)).toInt = (v - (1 : Int64)).toInt / 2 ^ 63 := Jvm.Kit.i64_shr _ _ (k := 63) (by decide)
  have z0 : (0 : Int64).toInt = 0 := by decide
  rw [q, hs, z0]; omega
theorem own_zm {a b c d e : Int64} (ha : a.toBitVec.toNat < 2 ^ 52) (hb : b.toBitVec.toNat < 2 ^ 52) (hc : c.toBitVec.toNat < 2 ^ 52) (hd : d.toBitVec.toNat < 2 ^ 52) (he : e.toBitVec.toNat < 2 ^ 52) :
    own_r2 a b c d e = (if (lcmpW a (0 : Int64)) = (0 : Int32) then (if (lcmpW b (0 : Int64)) = (0 : Int32) then (if (lcmpW c (0 : Int64)) = (0 : Int32) then (if (lcmpW d (0 : Int64)) = (0 : Int32) then (if (lcmpW e (0 : Int64)) = (0 : Int32) then (-1 : Int64) else (0 : Int64)) else (0 : Int64)) else (0 : Int64)) else (0 : Int64)) else (0 : Int64)) := by
  simp only [lw_eq]
  have hv : (own_f2_19 a b c d e).toBitVec.toNat < 2 ^ 52 := own_or (own_or (own_or (own_or ha hb) hc) hd) he
  by_cases h1 : a = 0
  · rw [if_pos h1]
    by_cases h2 : b = 0
    · rw [if_pos h2]
      by_cases h3 : c = 0
      · rw [if_pos h3]
        by_cases h4 : d = 0
        · rw [if_pos h4]
          by_cases h5 : e = 0
          · rw [if_pos h5]; subst h1 h2 h3 h4 h5; decide +kernel
          · rw [if_neg h5]; exact own_top hv (own_orr (own_nz h5))
        · rw [if_neg h4]; exact own_top hv (own_orl (own_orr (own_nz h4)))
      · rw [if_neg h3]; exact own_top hv (own_orl (own_orl (own_orr (own_nz h3))))
    · rw [if_neg h2]; exact own_top hv (own_orl (own_orl (own_orl (own_orr (own_nz h2)))))
  · rw [if_neg h1]; exact own_top hv (own_orl (own_orl (own_orl (own_orl (own_nz h1)))))
theorem own_plain (p0 : Int32) (q1 q2 q3 q4 q5 : Int64) : own_r0 p0 q1 q2 q3 q4 q5 = 1 := by
  have a : own_f0_83 p0 q1 q2 q3 q4 q5 = own_f0_j131_L24 p0 q1 q2 q3 q4 q5 := own_zm (own_limb _ _ _) (own_limb _ _ _) (own_limb _ _ _) (own_limb _ _ _) (own_limb _ _ _)
  have b : own_f0_186 p0 q1 q2 q3 q4 q5 = 1 := by
    unfold own_f0_186 own_f0_j186_S0
    rw [if_pos ((lw_eq _ _).mpr rfl), if_pos ((lw_eq _ _).mpr rfl), if_pos ((lw_eq _ _).mpr rfl), if_pos ((lw_eq _ _).mpr rfl), if_pos ((lw_eq _ _).mpr rfl)]
  unfold own_r0 own_f0_j206_S0; rw [if_pos ((lw_eq _ _).mpr a), b]; rfl

set_option maxRecDepth 65536 in
set_option maxHeartbeats 40000000 in
theorem own_comes {Post : Tables → Env → Array Value → State → Outcome → State → Prop} (hpost : ∀ tb e args s v u, (limb_1_1.after args s (.returned v) u = true ∧ limb_1_2.after args s (.returned v) u = true ∧ True) → FrameEnd s (.returned v) u (Jvm.fieldLocs frame_1_writes args s ++ Jvm.arrayLocs frame_1_arrays args s ++ Jvm.staticLocs frame_1_statics s) 16 128 → Post tb e args s (.returned v) u) :
    ArmFor flags0 classFile x code maxLocals ret World_1 tables_1 room_1 Calls_1 rest_1 Pre_1 Post := by
  intro l hfl _ _ p e ha hc hk s m args below hf hA hF happ hP
  obtain ⟨hcalls, hrest, hpre⟩ := hP
  obtain ⟨-, -, -, hnamed, -, -, -, hat⟩ := (Spec.applies_iff hf).mp happ
  obtain ⟨hg, hn⟩ := and_e (Cond.before_iff.mp (show (Jvm.Cond.and given_1 narrow_1).before args s = true from hpre))
  obtain ⟨gc, g0⟩ := and_e hg
  obtain ⟨v0, g1⟩ := and_e g0
  obtain ⟨v1, g2⟩ := and_e g1
  obtain ⟨v2, g3⟩ := and_e g2
  obtain ⟨v3, g4⟩ := and_e g3
  obtain ⟨v4, g5⟩ := and_e g4
  obtain ⟨w0, w1, w2, w3, w4, w5, rfl⟩ : ∃ w0 w1 w2 w3 w4 w5 : Value, args = #[w0, w1, w2, w3, w4, w5] := by
    have hs : args.size = 6 := by simpa [Cond.value, given_1] using gc
    obtain ⟨L⟩ := args
    match L, hs with
    | [w0, w1, w2, w3, w4, w5], _ => exact ⟨w0, w1, w2, w3, w4, w5, rfl⟩
  have hw := fun d (hd : d ∈ tables_1) => atoms_spec (ws := Jvm.Cond.code x code maxLocals ret :: tables_1) hat d (List.mem_cons_of_mem _ hd)
  obtain ⟨i0, ei0⟩ := is_v v0
  obtain rfl : w0 = (.int i0) := Option.some.inj ei0
  obtain ⟨i1, ei1⟩ := isL_v v1
  obtain rfl : w1 = (.long i1) := Option.some.inj ei1
  obtain ⟨i2, ei2⟩ := isL_v v2
  obtain rfl : w2 = (.long i2) := Option.some.inj ei2
  obtain ⟨i3, ei3⟩ := isL_v v3
  obtain rfl : w3 = (.long i3) := Option.some.inj ei3
  obtain ⟨i4, ei4⟩ := isL_v v4
  obtain rfl : w4 = (.long i4) := Option.some.inj ei4
  obtain ⟨i5, ei5⟩ := isL_v g5
  obtain rfl : w5 = (.long i5) := Option.some.inj ei5
  obtain ⟨n, o, h1, h2, h3, _, L, rfl, ⟨rfl, N, -⟩, hq⟩ := rm0 l s _ hw tables_1 i0 i1 i2 i3 i4 i5  s.heap s.heap.size (Nat.le_refl _)  p e ha hc hk s m _ below hf ((Spec.applies_iff_loose hf).mp happ).1 ⟨rfl, State.Warmed39.refl s, rfl⟩ trivial
  have hv : own_r0 i0 i1 i2 i3 i4 i5 = 1 := own_plain i0 i1 i2 i3 i4 i5
  refine ⟨n, _, h1, h2, h3, hpost _ _ _ _ _ _ ⟨Cond.after_iff.mpr rfl, Cond.after_iff.mpr (eq_i res_at (Term.int_eval (1)) (congrArg Value.int hv)), trivial⟩ ⟨hq.1, hq.2.1, (hq.2.2.sift fun y hy => Or.inr (N y hy)).mono (by decide) (by decide)⟩⟩
theorem main_1_1 : Claimed_1_1 := own_comes fun _ _ _ _ _ _ h hF => ⟨h.1, hF⟩
theorem main_1_2 : Claimed_1_2 := own_comes fun _ _ _ _ _ _ h hF => ⟨h.2.1, hF⟩
end Jvm.Pilot.@@N@@
namespace Jvm.Pilot.@@N@@
open Jvm Jvm.ClassFile Sem Op Lib Jvm.Free Jvm.Stand Jvm.Pilot.@@N@@.Jvm.D
/-! MADE BY PROGRAM (witnessworld.py) out of the Statement's table words and the real class files: 11 classes; the members and pool entries that the words name. The judged class is class 1, her method 2. -/
namespace start1
open Jvm.ClassFile
def u (s : String) : CpInfo := .utf8 (stringToUtf16 s)
/-- a pool by its gaps: so many unusable entries, then the entry; so many at the end -/
def gap : Nat → List CpInfo → List CpInfo
  | 0, r => r
  | n + 1, r => .unusable :: gap n r
def poolList (es : List (Nat × CpInfo)) (last : Nat) : List CpInfo := es.foldr (fun e r => gap e.1 (e.2 :: r)) (gap last [])
def pool (es : List (Nat × CpInfo)) (last : Nat) : Array CpInfo := ⟨poolList es last⟩
def fileOf (pool : Array CpInfo) (this : Nat) (attrs : Array Attribute := #[]) (ms : Array MethodInfo := #[]) (fl : Nat := 33) (sup : Nat := 0) (ifs : Array Nat := #[]) (fds : Array FieldInfo := #[]) : ClassFile where
  minorVersion := 0
  majorVersion := 65
  constantPool := pool
  accessFlags := fl
  thisClass := this
  superClass := sup
  interfaces := ifs
  fields := fds
  methods := ms
  attributes := attrs
def plain (name : String) (sup : Option ClassId) : Class where
  name := name
  kind := .ordinary
  loader := none
  accessFlags := 33
  super := sup
  interfaces := #[]
  cf := none
  fields := #[]
  methods := #[]
  instanceTypes := #[]
  staticTypes := #[]
  resolved := #[]
  callSites := []
  init := .initialized
  statics := none
  mirror := none

def pool0 : Array CpInfo := pool [(5, u "<init>"), (0, u "()V"), (1, .class_ 10), (1, u "java/lang/Object")] 113

def k0m0 : Method := { name := "<init>", desc := "()V", sig := { parameters := [], returnType := none }, accessFlags := 1, code := none }
/-- java/lang/Object -/
def k0 : Class := { plain "java/lang/Object" none with
  accessFlags := 33
  interfaces := #[]
  cf := some (fileOf pool0 8 #[] #[{ accessFlags := 1, nameIndex := 5, descriptorIndex := 6, attributes := #[] }] 33 0 #[] #[])
  fields := #[]
  methods := #[k0m0]
  instanceTypes := #[]
  staticTypes := #[]
  resolved := Array.replicate 124 none
  statics := none }

def pool1 : Array CpInfo := pool [(2, .class_ 4), (1, u "java/lang/Object"), (0, u "<init>"), (0, u "()V"), (0, .long 4503599627370495), (1, .methodref 10 11), (0, .class_ 12), (0, .nameAndType 13 14), (0, u "com/example/rxrelay/rxrelay/protocol/gm/Sm2FieldZeroMaskPinLaw"), (0, u "limb"), (0, u "(IIJ)J"), (0, .methodref 16 17), (0, .class_ 18), (0, .nameAndType 19 20), (0, u "com/example/rxrelay/rxrelay/protocol/gm/Sm2Field"), (0, u "zeroMask"), (0, u "([J)J"), (0, .long 18446744073709551615), (4, u "law"), (0, u "(IJJJJJ)Z")] 4

def k1m0 : Method := { name := "<init>", desc := "()V", sig := { parameters := [], returnType := none }, accessFlags := 2, code := none }
def k1c1 : Code := { maxStack := 4, maxLocals := 6, code := method_2_code, exceptionTable := #[], attributes := #[] }
def k1m1 : Method := { name := "limb", desc := "(IIJ)J", sig := { parameters := [.int, .int, .long], returnType := some .long }, accessFlags := 10, code := some k1c1 }
def k1c2 : Code := { maxStack := 4, maxLocals := 27, code := code, exceptionTable := #[], attributes := #[] }
def k1m2 : Method := { name := "law", desc := "(IJJJJJ)Z", sig := { parameters := [.int, .long, .long, .long, .long, .long], returnType := some .boolean }, accessFlags := 9, code := some k1c2 }
/-- com/example/rxrelay/rxrelay/protocol/gm/Sm2FieldZeroMaskPinLaw -/
def k1 : Class := { plain "com/example/rxrelay/rxrelay/protocol/gm/Sm2FieldZeroMaskPinLaw" (some 0) with
  accessFlags := 49
  interfaces := #[]
  cf := some (fileOf pool1 10 #[] #[{ accessFlags := 2, nameIndex := 5, descriptorIndex := 6, attributes := #[] }, { accessFlags := 10, nameIndex := 13, descriptorIndex := 14, attributes := #[] }, { accessFlags := 9, nameIndex := 26, descriptorIndex := 27, attributes := #[] }] 49 2 #[] #[])
  fields := #[]
  methods := #[k1m0, k1m1, k1m2]
  instanceTypes := #[]
  staticTypes := #[]
  resolved := Array.replicate 32 none
  statics := none }

def pool2 : Array CpInfo := pool [(1, .class_ 2), (0, u "com/example/rxrelay/rxrelay/protocol/gm/Sm2Field"), (1, .class_ 6), (1, u "java/lang/Object"), (0, u "<init>"), (0, u "()V"), (2, u "ONE"), (0, u "[J"), (11, u "MONTGOMERY_SQUARE"), (10, u "PLAIN_ONE"), (5, u "Ljava/math/BigInteger;"), (28, u "P_LIMBS"), (39, u "P"), (6, u "LIMBS"), (0, u "I"), (2, u "LIMB_BITS"), (1, u "MASK"), (0, u "J"), (6, u "zeroMask"), (0, u "([J)J")] 6

def k2m0 : Method := { name := "<init>", desc := "()V", sig := { parameters := [], returnType := none }, accessFlags := 2, code := none }
def k2c1 : Code := { maxStack := 4, maxLocals := 3, code := prog_33_method_6_code, exceptionTable := #[], attributes := #[] }
def k2m1 : Method := { name := "zeroMask", desc := "([J)J", sig := { parameters := [(.array .long)], returnType := some .long }, accessFlags := 8, code := some k2c1 }
/-- com/example/rxrelay/rxrelay/protocol/gm/Sm2Field -/
def k2 : Class := { plain "com/example/rxrelay/rxrelay/protocol/gm/Sm2Field" (some 0) with
  accessFlags := 48
  interfaces := #[]
  cf := some (fileOf pool2 1 #[] #[{ accessFlags := 2, nameIndex := 7, descriptorIndex := 8, attributes := #[] }, { accessFlags := 8, nameIndex := 131, descriptorIndex := 132, attributes := #[] }] 48 4 #[] #[{ accessFlags := 24, nameIndex := 117, descriptorIndex := 118, attributes := #[] }, { accessFlags := 26, nameIndex := 121, descriptorIndex := 118, attributes := #[] }, { accessFlags := 26, nameIndex := 123, descriptorIndex := 124, attributes := #[] }, { accessFlags := 24, nameIndex := 110, descriptorIndex := 41, attributes := #[] }, { accessFlags := 26, nameIndex := 70, descriptorIndex := 12, attributes := #[] }, { accessFlags := 26, nameIndex := 24, descriptorIndex := 12, attributes := #[] }, { accessFlags := 26, nameIndex := 35, descriptorIndex := 12, attributes := #[] }, { accessFlags := 26, nameIndex := 11, descriptorIndex := 12, attributes := #[] }])
  fields := #[{ name := "LIMBS", type := .int, accessFlags := 24, slot := 0, constantValue := 0 }, { name := "LIMB_BITS", type := .int, accessFlags := 26, slot := 1, constantValue := 0 }, { name := "MASK", type := .long, accessFlags := 26, slot := 2, constantValue := 0 }, { name := "P", type := (.object "java/math/BigInteger"), accessFlags := 24, slot := 3, constantValue := 0 }, { name := "P_LIMBS", type := (.array .long), accessFlags := 26, slot := 4, constantValue := 0 }, { name := "MONTGOMERY_SQUARE", type := (.array .long), accessFlags := 26, slot := 5, constantValue := 0 }, { name := "PLAIN_ONE", type := (.array .long), accessFlags := 26, slot := 6, constantValue := 0 }, { name := "ONE", type := (.array .long), accessFlags := 26, slot := 7, constantValue := 0 }]
  methods := #[k2m0, k2m1]
  instanceTypes := #[]
  staticTypes := #[.int, .int, .long, (.object "java/math/BigInteger"), (.array .long), (.array .long), (.array .long), (.array .long)]
  resolved := Array.replicate 139 none
  statics := none }

def pool3 : Array CpInfo := pool [(1, u "java/lang/Cloneable"), (0, .class_ 1), (0, u "java/lang/Object"), (0, .class_ 3)] 3

/-- java/lang/Cloneable -/
def k3 : Class := { plain "java/lang/Cloneable" (some 0) with
  accessFlags := 1537
  interfaces := #[]
  cf := some (fileOf pool3 2 #[] #[] 1537 4 #[] #[])
  fields := #[]
  methods := #[]
  instanceTypes := #[]
  staticTypes := #[]
  resolved := Array.replicate 8 none
  statics := none }

def pool4 : Array CpInfo := pool [(1, u "java/io/Serializable"), (0, .class_ 1), (0, u "java/lang/Object"), (0, .class_ 3)] 3

/-- java/io/Serializable -/
def k4 : Class := { plain "java/io/Serializable" (some 0) with
  accessFlags := 1537
  interfaces := #[]
  cf := some (fileOf pool4 2 #[] #[] 1537 4 #[] #[])
  fields := #[]
  methods := #[]
  instanceTypes := #[]
  staticTypes := #[]
  resolved := Array.replicate 8 none
  statics := none }

/-- the primitive byte -/
def k5 : Class := { plain "byte" none with kind := .primitive 'B', accessFlags := 0x411 }
/-- [B -/
def k6 : Class := { plain "[B" (some 0) with kind := .array 5 .byte, interfaces := #[3, 4], accessFlags := 1041 }

/-- the primitive int -/
def k7 : Class := { plain "int" none with kind := .primitive 'I', accessFlags := 0x411 }
/-- [I -/
def k8 : Class := { plain "[I" (some 0) with kind := .array 7 .int, interfaces := #[3, 4], accessFlags := 1041 }

/-- the primitive long -/
def k9 : Class := { plain "long" none with kind := .primitive 'J', accessFlags := 0x411 }
/-- [J -/
def k10 : Class := { plain "[J" (some 0) with kind := .array 9 .long, interfaces := #[3, 4], accessFlags := 1041 }

def heap : Heap := #[]
def classes : Array Class := #[k0, k1, k2, k3, k4, k5, k6, k7, k8, k9, k10]
def interned : List (Array UInt16 × Addr) := []
def slotsUsed : Nat := 0
def theMethod : MethodId := ⟨1, 2⟩
def args0 : Array Value := #[.int 5, .long 1, .long 2, .long 3, .long 4, .long 5]
def aboutOver (below : List Frame) : State where
  vm := { classes := classes, interned := interned.toArray }
  heap := heap
  slotsUsed := slotsUsed
  threads := #[{ frames := .invoking theMethod args0 :: below }]
def below0 : List Frame := [.native { method := ⟨0, 0⟩, args := #[] }]
def about1 : State := aboutOver below0
def p0 : Program := .bare "" "" ""
def e0 : Env := launch0.env 0 0 0
theorem w_frames : about1.frames = Frame.invoking theMethod args0 :: below0 := rfl
set_option maxRecDepth 65536 in
theorem w_args : argsFit about1.vm theMethod args0 = true := by decide +kernel
set_option maxRecDepth 65536 in
theorem w_heap : heapFits about1 = true := by decide +kernel
set_option maxRecDepth 65536 in
theorem w_runnable : about1.curStatus? = some .runnable := by decide +kernel
set_option maxRecDepth 65536 in
theorem w_alone : about1.alone = true := by decide +kernel
set_option maxRecDepth 65536 in
theorem w_named : about1.methodNamed? x = some theMethod := by decide +kernel
set_option maxRecDepth 65536 in
theorem w_hears : about1.hears theMethod below0 = true := by decide +kernel
set_option maxRecDepth 65536 in
theorem w_ripe : about1.ripe theMethod args0 below0 = true := by decide +kernel
theorem w_running : about1.status = .running := rfl
set_option maxRecDepth 65536 in
theorem w_room : about1.hasRoom e0.platform room_1 = true :=
  launch0.hasRoom_least _ room_1 (by decide +kernel) (by decide +kernel) (by decide +kernel) (by decide +kernel) (by decide +kernel) (by decide +kernel)
theorem allAtoms_all (ts : List Jvm.Cond) (a : Array Jvm.Value) (st : Jvm.State) : (allAtoms ts).before a st = ts.all (fun c => c.before a st) := by
  induction ts with
  | nil => rfl
  | cons c t ih =>
    show (Jvm.Cond.and c (allAtoms t)).before a st = _
    rw [Jvm.Cond.before_and, ih, List.all_cons]
def words1 : List Jvm.Cond := Jvm.Cond.code x code maxLocals ret :: tables_1
/-- a 'code' word, met by the world's own term for the bytes: nothing is compared byte by byte -/
theorem code_word {y : MethodName} {bytes : ByteArray} {mx : Nat} {rt : Option FieldType} {a : Array Value} {s : State} {m : MethodId} {meth : Method} {c : Code} (h1 : s.methodNamed? y = some m) (h2 : s.vm.method? m = some meth) (h3 : meth.code = some c) (h4 : c.code = bytes)
    (h5 : (c.maxLocals == mx && c.exceptionTable.isEmpty && decide (c.maxStack ≤ mostOperands) && decide (meth.sig.returnType = rt) && !meth.locks && decide (parseMethodDescriptor y.desc = some meth.sig)) = true) : (Jvm.Cond.code y bytes mx rt).before a s = true := by
  simp only [Bool.and_eq_true, beq_iff_eq, Bool.not_eq_true', decide_eq_true_eq] at h5
  obtain ⟨⟨⟨⟨⟨g1, g2⟩, g3⟩, g4⟩, g5⟩, g6⟩ := h5
  simp [Cond.before, Cond.holds, Cond.value, h1, h2, h3, h4, g1, g2, g3, g4, g5, g6]
def isCode : Jvm.Cond → Bool
  | .code _ _ _ _ => true
  | _ => false
theorem all_split {L : List Jvm.Cond} {P : Jvm.Cond → Bool} (h1 : L.all (fun c => isCode c || P c) = true) (h2 : ∀ c ∈ L.filter isCode, P c = true) : L.all P = true := by
  refine List.all_eq_true.mpr fun c hc => ?_
  have h := List.all_eq_true.mp h1 c hc
  rcases Bool.eq_false_or_eq_true (isCode c) with hi | hi
  · exact h2 c (List.mem_filter.mpr ⟨hc, hi⟩)
  · simpa [hi] using h
set_option maxRecDepth 65536 in
theorem w_c0 : (Jvm.Cond.code x code maxLocals ret).before args0 about1 = true := code_word (m := ⟨1, 2⟩) (meth := k1m2) (c := k1c2) (by decide +kernel) rfl rfl rfl (by decide +kernel)
set_option maxRecDepth 65536 in
theorem w_c1 : (Jvm.Cond.code ({ cls := "com/example/rxrelay/rxrelay/protocol/gm/Sm2FieldZeroMaskPinLaw", name := "limb", desc := "(IIJ)J" } : Jvm.MethodName) method_2_code (6 : Nat) (Option.some Jvm.ClassFile.FieldType.long)).before args0 about1 = true := code_word (m := ⟨1, 1⟩) (meth := k1m1) (c := k1c1) (by decide +kernel) rfl rfl rfl (by decide +kernel)
set_option maxRecDepth 65536 in
theorem w_c2 : (Jvm.Cond.code ({ cls := "com/example/rxrelay/rxrelay/protocol/gm/Sm2Field", name := "zeroMask", desc := "([J)J" } : Jvm.MethodName) prog_33_method_6_code (3 : Nat) (Option.some Jvm.ClassFile.FieldType.long)).before args0 about1 = true := code_word (m := ⟨2, 1⟩) (meth := k2m1) (c := k2c1) (by decide +kernel) rfl rfl rfl (by decide +kernel)
def codes1 : List Jvm.Cond := [Jvm.Cond.code x code maxLocals ret, Jvm.Cond.code ({ cls := "com/example/rxrelay/rxrelay/protocol/gm/Sm2FieldZeroMaskPinLaw", name := "limb", desc := "(IIJ)J" } : Jvm.MethodName) method_2_code (6 : Nat) (Option.some Jvm.ClassFile.FieldType.long), Jvm.Cond.code ({ cls := "com/example/rxrelay/rxrelay/protocol/gm/Sm2Field", name := "zeroMask", desc := "([J)J" } : Jvm.MethodName) prog_33_method_6_code (3 : Nat) (Option.some Jvm.ClassFile.FieldType.long)]
set_option maxRecDepth 65536 in
theorem codes_eq : words1.filter isCode = codes1 := rfl
theorem w_codes : ∀ c ∈ words1.filter isCode, c.before args0 about1 = true := by
  rw [codes_eq]
  intro c hc
  simp only [codes1, List.mem_cons, List.not_mem_nil, or_false] at hc
  rcases hc with rfl | rfl | rfl
  · exact w_c0
  · exact w_c1
  · exact w_c2
set_option maxRecDepth 65536 in
theorem w_t1 : words1.all (fun c => isCode c || c.before args0 about1) = true := by decide +kernel
theorem w_tables : (allAtoms (Jvm.Cond.code x code maxLocals ret :: tables_1)).before args0 about1 = true := by
  rw [allAtoms_all]
  show words1.all (fun c => c.before args0 about1) = true
  refine all_split ?_ w_codes
  rw [w_t1]
set_option maxRecDepth 65536 in
theorem w_case : (Jvm.Cond.and given_1 narrow_1).before args0 about1 = true := by decide +kernel
theorem w_applies : (headSpec (Jvm.Cond.code x code maxLocals ret :: tables_1) room_1).applies x e0.platform about1 = true :=
  (Spec.applies_iff w_frames).mpr ⟨w_running, w_runnable, w_alone, w_named, w_hears, w_ripe, w_room, w_tables⟩
theorem atStart : AtStart classFile x code maxLocals ret World_1 tables_1 room_1 Calls_1 rest_1 Pre_1 launch0 p0 e0 about1 theMethod args0 below0 :=
  ⟨lists_1, trivial, launch0.admits_env _ _ _, launch0.least_env, fairChoices_fair.cas, fairChoices_fair.clock, w_frames, w_args, w_heap, w_applies, trivial, trivial, w_case⟩
end start1
theorem witness_1 : WitnessClaimed_1 := ⟨start1.p0, start1.e0, start1.about1, start1.theMethod, start1.args0, start1.below0, start1.atStart⟩
end Jvm.Pilot.@@N@@
