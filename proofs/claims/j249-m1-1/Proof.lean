import JvmDerived
import JvmDerived.Pilot.@@N@@Statement
import JvmDerived.Pilot.@@N@@Code
set_option linter.unusedVariables false
set_option linter.unusedSimpArgs false
@@BLOCK:NumsL.lean.txt@@
namespace Jvm.RoadKit
open Sem ClassFile Op Lib Jvm.Stand Jvm.Free Jvm.LawKit
section New
variable {p : Program} {l : Launch} {e : Env} {R : Room} {s : State} {m : MethodId} {args : Array Value} {below : List Frame} {meth : Method} {c : Code} {T : State} {locs : List Loc} {cells slots : Nat}
theorem retI (X : Stand p l e R s m args below meth c T locs cells slots) (hx : p.tables.exec = Jvm.exec) {pc : Nat} {Ls : Array Slot} {z : Int32} {rest : List Value} (hret : meth.sig.returnType = some .int) (hd : decode c.code pc = .ok (.ireturn, 1)) {fs : List Frame}
    (hl : ∀ (f : JFrame) (acts : List Action), f.method = m → f.locked = none → f.entered = [] → (doReturn e (T.setTop f) acts (some (.int z))).1 = T.setFrames fs) : Steps p.tables e below (T.setTop (mkF m pc Ls (.int z :: rest))) (T.setFrames fs) := by
  have hm' : T.vm.method? m = some meth := X.method'
  have hn : narrow .int (.int z) = .int z := rfl
  show Steps p.tables e below (T.setTop { method := m, pc := pc, locals := Ls, stack := _ :: rest, locked := none }) _
  jvm_step X.here [X.here.top, hx, hd, hm', hret, hn]
  first | (intro acts; rw [hl _ acts rfl rfl rfl]) | rw [hl _ _ rfl rfl rfl]
  exact Steps.refl _
end New
end Jvm.RoadKit
namespace Jvm.Pilot.@@N@@
open Jvm Jvm.ClassFile Sem Op Lib Jvm.Free Jvm.Stand Jvm.LawKit Jvm.RoadKit Bundle Jvm.Pilot.@@N@@.Jvm.D
/-! own: Java's shifts and remainders, written short -/
def own_shl (x y : Int32) : Int32 := x <<< (y &&& 31)
def own_shr (x y : Int32) : Int32 := x >>> (y &&& 31)
def own_ushr (x y : Int32) : Int32 := (x.toUInt32 >>> (y &&& 31).toUInt32).toInt32
def own_shlL (x : Int64) (y : Int32) : Int64 := x <<< (y &&& 0x3f).toInt64
def own_shrL (x : Int64) (y : Int32) : Int64 := x >>> (y &&& 0x3f).toInt64
def own_ushrL (x : Int64) (y : Int32) : Int64 := (x.toUInt64 >>> (y &&& 0x3f).toInt64.toUInt64).toInt64
def own_rem (x y : Int32) : Int32 := x - (x / y) * y
def own_remL (x y : Int64) : Int64 := x - (x / y) * y
theorem own_rem_nn {x y : Int32} (hx : 0 ≤ x.toInt) (hy : 0 < y.toInt) : (own_rem x y).toInt = x.toInt % y.toInt := by
  have hd : (x / y).toInt = x.toInt / y.toInt := by
    rw [Jvm.Kit.i32_div (by omega), Int.tdiv_eq_ediv_of_nonneg hx]
  have b1 := Int.emod_add_mul_ediv x.toInt y.toInt
  have b2 := Int.emod_nonneg x.toInt (by omega : y.toInt ≠ 0)
  have b3 := Int.emod_lt_of_pos x.toInt hy
  have b4 : 0 ≤ x.toInt / y.toInt := Int.ediv_nonneg hx (by omega)
  have hX := Int32.toInt_lt x
  have b5 : 0 ≤ y.toInt * (x.toInt / y.toInt) := Int.mul_nonneg (by omega) b4
  have hm : ((x / y) * y).toInt = y.toInt * (x.toInt / y.toInt) := by
    rw [Jvm.Kit.i32_mul (by rw [hd, Int.mul_comm]; omega) (by rw [hd, Int.mul_comm]; omega), hd, Int.mul_comm]
  unfold own_rem
  rw [Jvm.Kit.i32_sub (by rw [hm]; omega) (by rw [hm]; omega), hm]; omega
/-! own: a run from a frame to what 'Post' says -/
section OwnRun
variable {p : Program} {l : Launch} {e : Env} {R : Room} {s : State} {m : MethodId} {args : Array Value} {below : List Frame} {meth : Method} {c : Code} {T T' : State} {locs : List Loc} {cells slots : Nat} {g g' : JFrame} {Post : State → Prop} {n0 : Nat} {P : Heap → Prop} {C S : Nat} {Z : State} {h : Heap} {a : Addr} {k : ClassId} {n j : Int32} {vs : List Value} {d v : Value} {E : State → Outcome → State → List Loc → Nat → Nat → Prop}
def own_Run (p : Program) (e : Env) (below : List Frame) (T : State) (g : JFrame) (Post : State → Prop) : Prop := ∃ t, Steps p.tables e below (T.setTop g) t ∧ Post t
theorem own_step (st : ∀ t, Steps p.tables e below (T'.setTop g') t → Steps p.tables e below (T.setTop g) t) (h : own_Run p e below T' g' Post) : own_Run p e below T g Post := h.imp fun t k => ⟨st t k.1, k.2⟩
theorem own_tr (st : Steps p.tables e below (T.setTop g) (T'.setTop g')) (h : own_Run p e below T' g' Post) : own_Run p e below T g Post := h.imp fun t k => ⟨st.trans k.1, k.2⟩
theorem own_here (h : Post (T.setTop g)) : own_Run p e below T g Post := ⟨_, Steps.refl _, h⟩
theorem own_entry {Q : State → Prop} (q : g = g') (h : own_Run p e below T g' Q) : own_Run p e below T g Q := q ▸ h
def own_Q (n0 : Nat) (P : Heap → Prop) (w : Option Value) : Option Value → Heap → List Loc → Prop := fun v h L => v = w ∧ Fr n0 L ∧ P h
def own_Ret (E : State → Outcome → State → List Loc → Nat → Nat → Prop) (U : State) (below : List Frame) (C S : Nat) (Q : Option Value → Heap → List Loc → Prop) : State → Prop := fun t => t.status = .running ∧ ∃ o, Ended t below o ∧ ∃ v L, o = .returned v ∧ Q v t.heap L ∧ E U o t L C S
theorem own_fin {Q : Option Value → Heap → List Loc → Prop} (h : own_Run p e below T g (own_Ret E s below C S Q)) : ∃ s₂ o, Steps p.tables e below (T.setTop g) s₂ ∧ s₂.status = .running ∧ Ended s₂ below o ∧ ∃ v L, o = .returned v ∧ Q v s₂.heap L ∧ E s o s₂ L C S := by
  obtain ⟨t, st, hr, o, he, r⟩ := h; exact ⟨t, o, st, hr, he, r⟩
theorem own_vi {x y : Int32} (q : x = y) (h : own_Run p e below T g (own_Ret E s below C S (own_Q n0 P (some (.int y))))) : own_Run p e below T g (own_Ret E s below C S (own_Q n0 P (some (.int x)))) := q ▸ h
theorem own_vj {x y : Int64} (q : x = y) (h : own_Run p e below T g (own_Ret E s below C S (own_Q n0 P (some (.long y))))) : own_Run p e below T g (own_Ret E s below C S (own_Q n0 P (some (.long x)))) := q ▸ h
theorem own_leave {w : Option Value} (X : Stand p l e R s m args below meth c T locs cells slots) (hv : meth.sig.returnType = none → w = none) (hlk : meth.locks = false) (hC : cells ≤ C) (hS : slots ≤ S) (N : Fr n0 locs) (hP : P T.heap)
    (st : ∀ fs, (∀ (f : JFrame) (acts : List Action), f.method = m → f.locked = none → f.entered = [] → (doReturn e (T.setTop f) acts w).1 = T.setFrames fs) → Steps p.tables e below (T.setTop g) (T.setFrames fs)) : own_Run p e below T g (own_Ret FrameEnd s below C S (own_Q n0 P w)) := by
  obtain ⟨fs, hr, hrun, hended, hW, hsame⟩ := X.leave (v := w) hv hlk
  exact ⟨_, st fs hr, hrun, _, hended, _, _, rfl, ⟨rfl, N, hP⟩, ⟨_, rfl⟩, hW, hsame.mono hC hS⟩
theorem own_retZ (X : Stand p l e R s m args below meth c T locs cells slots) (hx : p.tables.exec = Jvm.exec) (hlk : meth.locks = false) {pc : Nat} {Ls : Array Slot} {z : Int32} {rest : List Value} (hret : meth.sig.returnType = some .boolean) (hd : decode c.code pc = .ok (.ireturn, 1)) (hC : cells ≤ C) (hS : slots ≤ S) (N : Fr n0 locs) (hP : P T.heap) :
    own_Run p e below T (mkF m pc Ls (.int z :: rest)) (own_Ret FrameEnd s below C S (own_Q n0 P (some (.int (nar .boolean z))))) :=
  own_leave X (fun q => by rw [hret] at q; cases q) hlk hC hS N hP fun fs hr => retN X hx (t := .boolean) hret (by simp) hd hr
theorem own_retI (X : Stand p l e R s m args below meth c T locs cells slots) (hx : p.tables.exec = Jvm.exec) (hlk : meth.locks = false) {pc : Nat} {Ls : Array Slot} {z : Int32} {rest : List Value} (hret : meth.sig.returnType = some .int) (hd : decode c.code pc = .ok (.ireturn, 1)) (hC : cells ≤ C) (hS : slots ≤ S) (N : Fr n0 locs) (hP : P T.heap) :
    own_Run p e below T (mkF m pc Ls (.int z :: rest)) (own_Ret FrameEnd s below C S (own_Q n0 P (some (.int z)))) :=
  own_leave X (fun q => by rw [hret] at q; cases q) hlk hC hS N hP fun fs hr => retI X hx hret hd hr
theorem own_retJ (X : Stand p l e R s m args below meth c T locs cells slots) (hx : p.tables.exec = Jvm.exec) (hlk : meth.locks = false) {pc : Nat} {Ls : Array Slot} {z : Int64} (hret : meth.sig.returnType = some .long) (hd : decode c.code pc = .ok (.lreturn, 1)) (hC : cells ≤ C) (hS : slots ≤ S) (N : Fr n0 locs) (hP : P T.heap) :
    own_Run p e below T (mkF m pc Ls [.long z]) (own_Ret FrameEnd s below C S (own_Q n0 P (some (.long z)))) :=
  own_leave X (fun q => by rw [hret] at q; cases q) hlk hC hS N hP fun fs hr => X.lreturnOut hx hret hd hr
theorem own_retD (X : Stand p l e R s m args below meth c T locs cells slots) (hx : p.tables.exec = Jvm.exec) (hlk : meth.locks = false) {pc : Nat} {Ls : Array Slot} {z : UInt64} {rest : List Value} (hret : meth.sig.returnType = some .double) (hd : decode c.code pc = .ok (.dreturn, 1)) (hC : cells ≤ C) (hS : slots ≤ S) (N : Fr n0 locs) (hP : P T.heap) :
    own_Run p e below T (mkF m pc Ls (.double z :: rest)) (own_Ret FrameEnd s below C S (own_Q n0 P (some (.double z)))) :=
  own_leave X (fun q => by rw [hret] at q; cases q) hlk hC hS N hP fun fs hr => retOut X hx (i := .dreturn) hret rfl (Or.inr (Or.inr (Or.inl ⟨rfl, rfl, z, rfl⟩))) hd hr
theorem own_retV (X : Stand p l e R s m args below meth c T locs cells slots) (hx : p.tables.exec = Jvm.exec) (hlk : meth.locks = false) {pc : Nat} {Ls : Array Slot} (hret : meth.sig.returnType = none) (hd : decode c.code pc = .ok (.return_, 1)) (hC : cells ≤ C) (hS : slots ≤ S) (N : Fr n0 locs) (hP : P T.heap) :
    own_Run p e below T (mkF m pc Ls []) (own_Ret FrameEnd s below C S (own_Q n0 P none)) :=
  own_leave X (fun _ => rfl) hlk hC hS N hP fun fs hr => X.returnOut hx hret hd hr
theorem own_retA (X : Stand p l e R s m args below meth c T locs cells slots) (hx : p.tables.exec = Jvm.exec) (hlk : meth.locks = false) {pc : Nat} {Ls : Array Slot} {w : Value} {t : FieldType} (hret : meth.sig.returnType = some t) (ht : t.isReference = true) (hw : w.isRef = true) (hd : decode c.code pc = .ok (.areturn, 1)) (hC : cells ≤ C) (hS : slots ≤ S) (N : Fr n0 locs) (hP : P T.heap) :
    own_Run p e below T (mkF m pc Ls [w]) (own_Ret FrameEnd s below C S (own_Q n0 P (some w))) :=
  own_leave X (fun q => by rw [hret] at q; cases q) hlk hC hS N hP fun fs hr => X.areturnOut hx hw hret ht hd hr
/-! own: the same where the walk may have loaded a String constant (the tables may hold a new pair) -/
theorem own_mixW {U t : State} {o : Outcome} {L : List Loc} {k n k' n' : Nat} (h : ReturnedEndW U o t L k n) (hk : k ≤ k') (hn : n ≤ n') : ReturnedEndW U o t L k' n' := ⟨h.1, h.2.1, h.2.2.1, h.2.2.2.mono hk hn⟩
theorem own_leaveW {vm₁ : Vm} {n : Nat} {w : Option Value} (X : Stand p l e R (s.setVm vm₁) m args below meth c T locs cells slots) (hS : s.Since vm₁ n) (hn : n ≤ T.heap.size) (hv : meth.sig.returnType = none → w = none) (hlk : meth.locks = false) (hC : cells ≤ C) (hSl : slots ≤ S) (N : Fr n0 locs) (hP : P T.heap)
    (st : ∀ fs, (∀ (f : JFrame) (acts : List Action), f.method = m → f.locked = none → f.entered = [] → (doReturn e (T.setTop f) acts w).1 = T.setFrames fs) → Steps p.tables e below (T.setTop g) (T.setFrames fs)) : own_Run p e below T g (own_Ret ReturnedEndW s below C S (own_Q n0 P w)) := by
  obtain ⟨fs, hr, hrun, hended, hW⟩ := X.leaveW hS hn (v := w) hv hlk
  exact ⟨_, st fs hr, hrun, _, hended, _, _, rfl, ⟨rfl, N, hP⟩, own_mixW hW hC hSl⟩
theorem own_retZW {vm₁ : Vm} {n : Nat} (X : Stand p l e R (s.setVm vm₁) m args below meth c T locs cells slots) (hx : p.tables.exec = Jvm.exec) (hlk : meth.locks = false) {pc : Nat} {Ls : Array Slot} {z : Int32} {rest : List Value} (hret : meth.sig.returnType = some .boolean) (hd : decode c.code pc = .ok (.ireturn, 1)) (hC : cells ≤ C) (hSl : slots ≤ S) (N : Fr n0 locs) (hP : P T.heap) (hS : s.Since vm₁ n) (hn : n ≤ T.heap.size) :
    own_Run p e below T (mkF m pc Ls (.int z :: rest)) (own_Ret ReturnedEndW s below C S (own_Q n0 P (some (.int (nar .boolean z))))) :=
  own_leaveW X hS hn (fun q => by rw [hret] at q; cases q) hlk hC hSl N hP fun fs hr => retN X hx (t := .boolean) hret (by simp) hd hr
theorem own_retVW {vm₁ : Vm} {n : Nat} (X : Stand p l e R (s.setVm vm₁) m args below meth c T locs cells slots) (hx : p.tables.exec = Jvm.exec) (hlk : meth.locks = false) {pc : Nat} {Ls : Array Slot} (hret : meth.sig.returnType = none) (hd : decode c.code pc = .ok (.return_, 1)) (hC : cells ≤ C) (hSl : slots ≤ S) (N : Fr n0 locs) (hP : P T.heap) (hS : s.Since vm₁ n) (hn : n ≤ T.heap.size) :
    own_Run p e below T (mkF m pc Ls []) (own_Ret ReturnedEndW s below C S (own_Q n0 P none)) :=
  own_leaveW X hS hn (fun _ => rfl) hlk hC hSl N hP fun fs hr => X.returnOut hx hret hd hr
/-- no static's home -/
def own_Pl (h : Heap) (a : Addr) : Prop := ∃ c : Cell, h[a]? = some c ∧ c.vm.isStatics = false
theorem own_plV {ty : FieldType} (F : Arv Z h a k ty n vs d) : own_Pl h a := by obtain ⟨c, A, -⟩ := F; exact ⟨c, A.1, A.plain⟩
theorem own_plE {Cn : String} (F : Exa Z h a Cn) : own_Pl h a := by obtain ⟨c, kk, h1, -, -, h4, -⟩ := F; exact ⟨c, h1, h4⟩
theorem own_keepS {h' : Heap} {ws : List Addr} {Cn fn dn : String} (F : Sta Z h Cn fn dn v) (K : Keep h h' ws) (A : ∀ a ∈ ws, own_Pl h a) : Sta Z h' Cn fn dn v := by
  obtain ⟨cf, i, kk, f, st, cell, h1, h2, h3, h4, h5, h6, h7⟩ := F
  refine ⟨cf, i, kk, f, st, cell, h1, h2, h3, h4, K.2.1 st cell h5 (fun hm => ?_), h6, h7⟩
  obtain ⟨c, q1, q2⟩ := A st hm
  cases h5.symm.trans q1; rw [q2] at h6; cases h6
/-! own: an array's component, by its Arv -/
theorem own_ldI (X : Stand p l e R s m args below meth c T locs cells slots) (hx : p.tables.exec = Jvm.exec) (hZ : Z.Warmed39 s.vm) (eT : T.heap = h) (F : Arv Z h a k .int n vs d) (q : ¬ j < 0 ∧ j < n) (u : vs.getD j.toNatClampNeg d = v) (hg : g.method = m) {rest : List Value} (hs : g.stack = .int j :: .ref a :: rest) (hd : decode c.code g.pc = .ok (.iaload, 1)) :
    ∀ t, Steps p.tables e below (T.setTop { g with pc := g.pc + 1, stack := v :: rest }) t → Steps p.tables e below (T.setTop g) t := by
  obtain ⟨cl, Ar, -, Sz, -, Hs, -⟩ := F
  exact fun t kt => X.iaload hx (by rw [eT]; exact Ar.1) (State.isArrayOf_alike hZ.alike Ar.2.1) Ar.2.2 (inb_of Sz q) (Hs.at (inb_of Sz q) u) hg hs hd t kt
theorem own_ldJ (X : Stand p l e R s m args below meth c T locs cells slots) (hx : p.tables.exec = Jvm.exec) (hZ : Z.Warmed39 s.vm) (eT : T.heap = h) (F : Arv Z h a k .long n vs d) (q : ¬ j < 0 ∧ j < n) (u : vs.getD j.toNatClampNeg d = v) (hg : g.method = m) {rest : List Value} (hs : g.stack = .int j :: .ref a :: rest) (hd : decode c.code g.pc = .ok (.laload, 1)) :
    ∀ t, Steps p.tables e below (T.setTop { g with pc := g.pc + 1, stack := v :: rest }) t → Steps p.tables e below (T.setTop g) t := by
  obtain ⟨cl, Ar, -, Sz, -, Hs, -⟩ := F
  exact fun t kt => X.laload hx (by rw [eT]; exact Ar.1) (State.isArrayOf_alike hZ.alike Ar.2.1) Ar.2.2 (inb_of Sz q) (Hs.at (inb_of Sz q) u) hg hs hd t kt
theorem own_ldB (X : Stand p l e R s m args below meth c T locs cells slots) (hx : p.tables.exec = Jvm.exec) (hZ : Z.Warmed39 s.vm) (eT : T.heap = h) (F : Arv Z h a k .byte n vs d) (q : ¬ j < 0 ∧ j < n) (u : vs.getD j.toNatClampNeg d = v) (hg : g.method = m) {rest : List Value} (hs : g.stack = .int j :: .ref a :: rest) (hd : decode c.code g.pc = .ok (.baload, 1)) :
    ∀ t, Steps p.tables e below (T.setTop { g with pc := g.pc + 1, stack := v :: rest }) t → Steps p.tables e below (T.setTop g) t := by
  obtain ⟨cl, Ar, -, Sz, -, Hs, -⟩ := F
  exact fun t kt => X.baloadBytes hx (by rw [eT]; exact Ar.1) (State.isArrayOf_alike hZ.alike Ar.2.1) Ar.2.2 (inb_of Sz q) (Hs.at (inb_of Sz q) u) hg hs hd t kt
theorem own_len (X : Stand p l e R s m args below meth c T locs cells slots) (hx : p.tables.exec = Jvm.exec) (hZ : Z.Warmed39 s.vm) (eT : T.heap = h) {ty : FieldType} (F : Arv Z h a k ty n vs d) (hg : g.method = m) {rest : List Value} (hs : g.stack = .ref a :: rest) (hd : decode c.code g.pc = .ok (.arraylength, 1)) :
    ∀ t, Steps p.tables e below (T.setTop { g with pc := g.pc + 1, stack := .int n :: rest }) t → Steps p.tables e below (T.setTop g) t := by
  obtain ⟨cl, Ar, -, Sz, Ng, -, -⟩ := F
  intro t kt
  refine X.arraylength hx (by rw [eT]; exact Ar.1) (State.isArrayOf_alike hZ.alike Ar.2.1) hg hs hd t ?_
  rw [len_of Sz Ng]; exact kt
theorem own_stI (X : Stand p l e R s m args below meth c T locs cells slots) (hx : p.tables.exec = Jvm.exec) (hZ : Z.Warmed39 s.vm) (eT : T.heap = h) (F : Arv Z h a k .int n vs d) (N : Fr n0 locs) (ge : n0 ≤ a) {x : Int32} (q : ¬ j < 0 ∧ j < n) (i : Nat) (hi : j.toNatClampNeg = i) (hl : i < vs.length) (hg : g.method = m) {rest : List Value} (hs : g.stack = .int x :: .int j :: .ref a :: rest) (hd : decode c.code g.pc = .ok (.iastore, 1)) :
    ∃ T' h' L, Stand p l e R s m args below meth c T' L cells slots ∧ T'.heap = h' ∧ Fr n0 L ∧ Wr h h' a j.toNatClampNeg (.int x) ∧ Arv Z h' a k .int n (vs.set i (.int x)) d ∧ ∀ t, Steps p.tables e below (T'.setTop { g with pc := g.pc + 1, stack := rest }) t → Steps p.tables e below (T.setTop g) t := by
  obtain ⟨cl, Ar, q1, Sz, Ng, Hs, Gs⟩ := F
  obtain ⟨T', h', X', e', W, st⟩ := stI X hx hZ eT Ar (j := j) (x := x) (inb_of Sz q) hg hs hd
  exact ⟨T', h', _, X', e', Fr.snoc X' N ge, W, Arv.set Ar q1 Sz Ng Hs Gs rfl W i hi hl, st⟩
theorem own_stJ (X : Stand p l e R s m args below meth c T locs cells slots) (hx : p.tables.exec = Jvm.exec) (hZ : Z.Warmed39 s.vm) (eT : T.heap = h) (F : Arv Z h a k .long n vs d) (N : Fr n0 locs) (ge : n0 ≤ a) {x : Int64} (q : ¬ j < 0 ∧ j < n) (i : Nat) (hi : j.toNatClampNeg = i) (hl : i < vs.length) (hg : g.method = m) {rest : List Value} (hs : g.stack = .long x :: .int j :: .ref a :: rest) (hd : decode c.code g.pc = .ok (.lastore, 1)) :
    ∃ T' h' L, Stand p l e R s m args below meth c T' L cells slots ∧ T'.heap = h' ∧ Fr n0 L ∧ Wr h h' a j.toNatClampNeg (.long x) ∧ Arv Z h' a k .long n (vs.set i (.long x)) d ∧ ∀ t, Steps p.tables e below (T'.setTop { g with pc := g.pc + 1, stack := rest }) t → Steps p.tables e below (T.setTop g) t := by
  obtain ⟨cl, Ar, q1, Sz, Ng, Hs, Gs⟩ := F
  obtain ⟨T', h', X', e', W, st⟩ := stJ X hx hZ eT Ar (j := j) (x := x) (inb_of Sz q) hg hs hd
  exact ⟨T', h', _, X', e', Fr.snoc X' N ge, W, Arv.set Ar q1 Sz Ng Hs Gs rfl W i hi hl, st⟩
theorem own_stB (X : Stand p l e R s m args below meth c T locs cells slots) (hx : p.tables.exec = Jvm.exec) (hZ : Z.Warmed39 s.vm) (eT : T.heap = h) (F : Arv Z h a k .byte n vs d) (N : Fr n0 locs) (ge : n0 ≤ a) {x : Int32} (q : ¬ j < 0 ∧ j < n) (i : Nat) (hi : j.toNatClampNeg = i) (hl : i < vs.length) (hg : g.method = m) {rest : List Value} (hs : g.stack = .int x :: .int j :: .ref a :: rest) (hd : decode c.code g.pc = .ok (.bastore, 1)) :
    ∃ T' h' L, Stand p l e R s m args below meth c T' L cells slots ∧ T'.heap = h' ∧ Fr n0 L ∧ Wr h h' a j.toNatClampNeg (.int (nar .byte x)) ∧ Arv Z h' a k .byte n (vs.set i (.int (nar .byte x))) d ∧ ∀ t, Steps p.tables e below (T'.setTop { g with pc := g.pc + 1, stack := rest }) t → Steps p.tables e below (T.setTop g) t := by
  obtain ⟨cl, Ar, q1, Sz, Ng, Hs, Gs⟩ := F
  obtain ⟨T', h', X', e', W, st⟩ := stB X hx hZ eT Ar (j := j) (x := x) (inb_of Sz q) hg hs hd
  exact ⟨T', h', _, X', e', Fr.snoc X' N ge, W, Arv.set Ar q1 Sz Ng Hs Gs (fits_nar_byte _) W i hi hl, st⟩
theorem own_ldR {Cn : String} (X : Stand p l e R s m args below meth c T locs cells slots) (hx : p.tables.exec = Jvm.exec) (hZ : Z.Warmed39 s.vm) (eT : T.heap = h) (F : Arv Z h a k (.object Cn) n vs d) (q : ¬ j < 0 ∧ j < n) (u : vs.getD j.toNatClampNeg d = v) (hg : g.method = m) {rest : List Value} (hs : g.stack = .int j :: .ref a :: rest) (hd : decode c.code g.pc = .ok (.aaload, 1)) :
    ∀ t, Steps p.tables e below (T.setTop { g with pc := g.pc + 1, stack := v :: rest }) t → Steps p.tables e below (T.setTop g) t := by
  obtain ⟨cl, Ar, -, Sz, -, Hs, -⟩ := F
  exact fun t kt => X.aaload hx (by rw [eT]; exact Ar.1) (State.isArrayOf_alike hZ.alike Ar.2.1) rfl Ar.2.2 (inb_of Sz q) (Hs.at (inb_of Sz q) u) hg hs hd t kt
theorem own_stR {Cn : String} {y : Addr} (X : Stand p l e R s m args below meth c T locs cells slots) (hx : p.tables.exec = Jvm.exec) (hZ : Z.Warmed39 s.vm) (eT : T.heap = h) (F : Arv Z h a k (.object Cn) n vs d) (O : Ovr Z k Cn) (I : Ins Z h y Cn true) (N : Fr n0 locs) (ge : n0 ≤ a) (q : ¬ j < 0 ∧ j < n) (i : Nat) (hi : j.toNatClampNeg = i) (hl : i < vs.length) (hg : g.method = m) {rest : List Value} (hs : g.stack = .ref y :: .int j :: .ref a :: rest) (hd : decode c.code g.pc = .ok (.aastore, 1)) :
    ∃ T' h' L, Stand p l e R s m args below meth c T' L cells slots ∧ T'.heap = h' ∧ Fr n0 L ∧ Wr h h' a j.toNatClampNeg (.ref y) ∧ Arv Z h' a k (.object Cn) n (vs.set i (.ref y)) d ∧ ∀ t, Steps p.tables e below (T'.setTop { g with pc := g.pc + 1, stack := rest }) t → Steps p.tables e below (T.setTop g) t := by
  obtain ⟨cl, Ar, q1, Sz, Ng, Hs, Gs⟩ := F
  obtain ⟨T', h', X', e', W, st⟩ := stR X hx hZ eT Ar (j := j) (v := .ref y) (inb_of Sz q) rfl (Sto.ofV Ar q1 O I) hg hs hd
  exact ⟨T', h', _, X', e', Fr.snoc X' N ge, W, Arv.set Ar q1 Sz Ng Hs Gs rfl W i hi hl, st⟩
end OwnRun
theorem own_pn0 : plainName "com/example/surefoot/surefoot/SplitMixMixPinLaw" = true := by first | (simp [plainName, overriddenIn]; done) | decide +kernel
theorem own_d3_0 : decode method_2_code 0 = .ok (.lload_n 0, 1) := by decide +kernel
theorem own_d3_1 : decode method_2_code 1 = .ok (.lstore_n 2, 1) := by decide +kernel
theorem own_d3_2 : decode method_2_code 2 = .ok (.lload_n 2, 1) := by decide +kernel
theorem own_d3_3 : decode method_2_code 3 = .ok (.ldc2_w 7, 3) := by decide +kernel
theorem own_d3_6 : decode method_2_code 6 = .ok (.lload_n 0, 1) := by decide +kernel
theorem own_d3_7 : decode method_2_code 7 = .ok (.lload_n 2, 1) := by decide +kernel
theorem own_d3_8 : decode method_2_code 8 = .ok (.lmul, 1) := by decide +kernel
theorem own_d3_9 : decode method_2_code 9 = .ok (.lsub, 1) := by decide +kernel
theorem own_d3_10 : decode method_2_code 10 = .ok (.lmul, 1) := by decide +kernel
theorem own_d3_11 : decode method_2_code 11 = .ok (.lstore_n 2, 1) := by decide +kernel
theorem own_d3_12 : decode method_2_code 12 = .ok (.lload_n 2, 1) := by decide +kernel
theorem own_d3_13 : decode method_2_code 13 = .ok (.ldc2_w 7, 3) := by decide +kernel
theorem own_d3_16 : decode method_2_code 16 = .ok (.lload_n 0, 1) := by decide +kernel
theorem own_d3_17 : decode method_2_code 17 = .ok (.lload_n 2, 1) := by decide +kernel
theorem own_d3_18 : decode method_2_code 18 = .ok (.lmul, 1) := by decide +kernel
theorem own_d3_19 : decode method_2_code 19 = .ok (.lsub, 1) := by decide +kernel
theorem own_d3_20 : decode method_2_code 20 = .ok (.lmul, 1) := by decide +kernel
theorem own_d3_21 : decode method_2_code 21 = .ok (.lstore_n 2, 1) := by decide +kernel
theorem own_d3_22 : decode method_2_code 22 = .ok (.lload_n 2, 1) := by decide +kernel
theorem own_d3_23 : decode method_2_code 23 = .ok (.ldc2_w 7, 3) := by decide +kernel
theorem own_d3_26 : decode method_2_code 26 = .ok (.lload_n 0, 1) := by decide +kernel
theorem own_d3_27 : decode method_2_code 27 = .ok (.lload_n 2, 1) := by decide +kernel
theorem own_d3_28 : decode method_2_code 28 = .ok (.lmul, 1) := by decide +kernel
theorem own_d3_29 : decode method_2_code 29 = .ok (.lsub, 1) := by decide +kernel
theorem own_d3_30 : decode method_2_code 30 = .ok (.lmul, 1) := by decide +kernel
theorem own_d3_31 : decode method_2_code 31 = .ok (.lstore_n 2, 1) := by decide +kernel
theorem own_d3_32 : decode method_2_code 32 = .ok (.lload_n 2, 1) := by decide +kernel
theorem own_d3_33 : decode method_2_code 33 = .ok (.ldc2_w 7, 3) := by decide +kernel
theorem own_d3_36 : decode method_2_code 36 = .ok (.lload_n 0, 1) := by decide +kernel
theorem own_d3_37 : decode method_2_code 37 = .ok (.lload_n 2, 1) := by decide +kernel
theorem own_d3_38 : decode method_2_code 38 = .ok (.lmul, 1) := by decide +kernel
theorem own_d3_39 : decode method_2_code 39 = .ok (.lsub, 1) := by decide +kernel
theorem own_d3_40 : decode method_2_code 40 = .ok (.lmul, 1) := by decide +kernel
theorem own_d3_41 : decode method_2_code 41 = .ok (.lstore_n 2, 1) := by decide +kernel
theorem own_d3_42 : decode method_2_code 42 = .ok (.lload_n 2, 1) := by decide +kernel
theorem own_d3_43 : decode method_2_code 43 = .ok (.ldc2_w 7, 3) := by decide +kernel
theorem own_d3_46 : decode method_2_code 46 = .ok (.lload_n 0, 1) := by decide +kernel
theorem own_d3_47 : decode method_2_code 47 = .ok (.lload_n 2, 1) := by decide +kernel
theorem own_d3_48 : decode method_2_code 48 = .ok (.lmul, 1) := by decide +kernel
theorem own_d3_49 : decode method_2_code 49 = .ok (.lsub, 1) := by decide +kernel
theorem own_d3_50 : decode method_2_code 50 = .ok (.lmul, 1) := by decide +kernel
theorem own_d3_51 : decode method_2_code 51 = .ok (.lstore_n 2, 1) := by decide +kernel
theorem own_d3_52 : decode method_2_code 52 = .ok (.lload_n 2, 1) := by decide +kernel
theorem own_d3_53 : decode method_2_code 53 = .ok (.ldc2_w 7, 3) := by decide +kernel
theorem own_d3_56 : decode method_2_code 56 = .ok (.lload_n 0, 1) := by decide +kernel
theorem own_d3_57 : decode method_2_code 57 = .ok (.lload_n 2, 1) := by decide +kernel
theorem own_d3_58 : decode method_2_code 58 = .ok (.lmul, 1) := by decide +kernel
theorem own_d3_59 : decode method_2_code 59 = .ok (.lsub, 1) := by decide +kernel
theorem own_d3_60 : decode method_2_code 60 = .ok (.lmul, 1) := by decide +kernel
theorem own_d3_61 : decode method_2_code 61 = .ok (.lstore_n 2, 1) := by decide +kernel
theorem own_d3_62 : decode method_2_code 62 = .ok (.lload_n 2, 1) := by decide +kernel
theorem own_d3_63 : decode method_2_code 63 = .ok (.lreturn, 1) := by decide +kernel
def own_f3_11 (q0 : Int64) : Int64 := (q0 * ((2 : Int64) - (q0 * q0)))
def own_f3_21 (q0 : Int64) : Int64 := ((own_f3_11 q0) * ((2 : Int64) - (q0 * (own_f3_11 q0))))
def own_f3_31 (q0 : Int64) : Int64 := ((own_f3_21 q0) * ((2 : Int64) - (q0 * (own_f3_21 q0))))
def own_f3_41 (q0 : Int64) : Int64 := ((own_f3_31 q0) * ((2 : Int64) - (q0 * (own_f3_31 q0))))
def own_f3_51 (q0 : Int64) : Int64 := ((own_f3_41 q0) * ((2 : Int64) - (q0 * (own_f3_41 q0))))
def own_f3_61 (q0 : Int64) : Int64 := ((own_f3_51 q0) * ((2 : Int64) - (q0 * (own_f3_51 q0))))
def own_r3 (q0 : Int64) : Int64 := (own_f3_61 q0)
theorem own_ef3 (m : MethodId) (q0 : Int64) : entryFrame m #[(.long q0)] 4 = (mkF m 0 #[.val (.long q0), .second, .unset, .unset] []) := by first | (simp [entryFrame, mkF, argsToLocals, Value.category]; done) | rfl
set_option maxRecDepth 65536 in
set_option maxHeartbeats 40000000 in
theorem rm3 (l : Launch) (Z : State) (a0 : Array Value) (hw : ∀ d ∈ tables_1, d.before a0 Z = true) (ws : List Jvm.Cond) (q0 : Int64) (h0 : Heap) (n0 : Nat) (Z0 : n0 ≤ h0.size) :
    MetFree l (⟨"com/example/surefoot/surefoot/SplitMixMixPinLaw", "inverse", "(J)J"⟩ : MethodName) (head1 (Jvm.Cond.code (⟨"com/example/surefoot/surefoot/SplitMixMixPinLaw", "inverse", "(J)J"⟩ : MethodName) method_2_code 4 (some .long) :: ws) ({ frames := 0, cells := 0, slots := 0, locals := 0 } : Room)) (fun a U => a = #[(.long q0)] ∧ Z.Warmed39 U.vm ∧ U.heap = h0) (fun _ _ _ _ _ => True) (fun _ U o U' => ∃ v L, o = .returned v ∧ own_Q n0 (fun h => h = h0) (some (.long (own_r3 q0))) v U'.heap L ∧ FrameEnd U o U' L ({ frames := 0, cells := 0, slots := 0, locals := 0 } : Room).cells ({ frames := 0, cells := 0, slots := 0, locals := 0 } : Room).slots) := by
  refine MetFree.of_bodySF (plainFor_of_name own_pn0) hisR ?_
  intro p e s m args below meth c s₁ Bd hml0 hP hK
  obtain ⟨rfl, hZ, hh⟩ := hP
  have hx := Bd.exec
  have hby := Bd.bytes
  have hml : c.maxLocals = 4 := hml0
  have hown : s.vm.findClass "com/example/surefoot/surefoot/SplitMixMixPinLaw" = some m.cls := findClass_of_methodNamed Bd.named
  have hnm := (name_of_methodNamed Bd.named Bd.method).1
  have hret := Bd.returns
  have hlk : meth.locks = false := BodyLoose.notSynchronized Bd
  have X0 : Stand p l e ({ frames := 0, cells := 0, slots := 0, locals := 0 } : Room) s m #[(.long q0)] below meth c s₁ [] 0 0 := Stand.of_body Bd
  have e0 : s₁.heap = h0 := by rw [← hh, Bd.state]; rfl
  have N0 := Fr.nil n0
  clear Bd hh hK
  refine own_fin ?_
  refine own_entry (own_ef3 m q0) ?_
  show own_Run p e below s₁ _ (own_Ret _ s below _ _ (own_Q n0 _ (some (.long (own_f3_61 q0)))))
  show own_Run p e below s₁ (mkF m 0 #[.val (.long q0), .second, .unset, .unset] []) _
  refine own_step (fun t k => XS.lloadN X0.here hx rfl (hb hby own_d3_0) rfl  k) ?_
  show own_Run p e below s₁ (mkF m 1 #[.val (.long q0), .second, .unset, .unset] [(.long q0)]) _
  refine own_step (fun t k => XS.lstoreN X0.here hx rfl (hb hby own_d3_1) rfl (l' := #[.val (.long q0), .second, .val (.long q0), .second]) rfl k) ?_
  show own_Run p e below s₁ (mkF m 2 #[.val (.long q0), .second, .val (.long q0), .second] []) _
  refine own_step (fun t k => XS.lloadN X0.here hx rfl (hb hby own_d3_2) rfl  k) ?_
  show own_Run p e below s₁ (mkF m 3 #[.val (.long q0), .second, .val (.long q0), .second] [(.long q0)]) _
  refine own_step (fun t k => X0.ldc2Long hx hown (mvT hZ (hw _ (List.mem_of_getElem? (i := 14) rfl))) (g := (mkF m 3 #[.val (.long q0), .second, .val (.long q0), .second] [(.long q0)])) rfl (hb hby own_d3_3) t k) ?_
  show own_Run p e below s₁ (mkF m 6 #[.val (.long q0), .second, .val (.long q0), .second] [(.long (2 : Int64)), (.long q0)]) _
  refine own_step (fun t k => XS.lloadN X0.here hx rfl (hb hby own_d3_6) rfl  k) ?_
  show own_Run p e below s₁ (mkF m 7 #[.val (.long q0), .second, .val (.long q0), .second] [(.long q0), (.long (2 : Int64)), (.long q0)]) _
  refine own_step (fun t k => XS.lloadN X0.here hx rfl (hb hby own_d3_7) rfl  k) ?_
  show own_Run p e below s₁ (mkF m 8 #[.val (.long q0), .second, .val (.long q0), .second] [(.long q0), (.long q0), (.long (2 : Int64)), (.long q0)]) _
  refine own_step (fun t k => XS.lmul X0.here hx rfl (hb hby own_d3_8) rfl k) ?_
  show own_Run p e below s₁ (mkF m 9 #[.val (.long q0), .second, .val (.long q0), .second] [(.long (q0 * q0)), (.long (2 : Int64)), (.long q0)]) _
  refine own_step (fun t k => XS.lsub X0.here hx rfl (hb hby own_d3_9) rfl k) ?_
  show own_Run p e below s₁ (mkF m 10 #[.val (.long q0), .second, .val (.long q0), .second] [(.long ((2 : Int64) - (q0 * q0))), (.long q0)]) _
  refine own_step (fun t k => XS.lmul X0.here hx rfl (hb hby own_d3_10) rfl k) ?_
  show own_Run p e below s₁ (mkF m 11 #[.val (.long q0), .second, .val (.long q0), .second] [(.long (q0 * ((2 : Int64) - (q0 * q0))))]) _
  refine own_step (fun t k => XS.lstoreN X0.here hx rfl (hb hby own_d3_11) rfl (l' := #[.val (.long q0), .second, .val (.long (own_f3_11 q0)), .second]) rfl k) ?_
  show own_Run p e below s₁ (mkF m 12 #[.val (.long q0), .second, .val (.long (own_f3_11 q0)), .second] []) _
  refine own_step (fun t k => XS.lloadN X0.here hx rfl (hb hby own_d3_12) rfl  k) ?_
  show own_Run p e below s₁ (mkF m 13 #[.val (.long q0), .second, .val (.long (own_f3_11 q0)), .second] [(.long (own_f3_11 q0))]) _
  refine own_step (fun t k => X0.ldc2Long hx hown (mvT hZ (hw _ (List.mem_of_getElem? (i := 14) rfl))) (g := (mkF m 13 #[.val (.long q0), .second, .val (.long (own_f3_11 q0)), .second] [(.long (own_f3_11 q0))])) rfl (hb hby own_d3_13) t k) ?_
  show own_Run p e below s₁ (mkF m 16 #[.val (.long q0), .second, .val (.long (own_f3_11 q0)), .second] [(.long (2 : Int64)), (.long (own_f3_11 q0))]) _
  refine own_step (fun t k => XS.lloadN X0.here hx rfl (hb hby own_d3_16) rfl  k) ?_
  show own_Run p e below s₁ (mkF m 17 #[.val (.long q0), .second, .val (.long (own_f3_11 q0)), .second] [(.long q0), (.long (2 : Int64)), (.long (own_f3_11 q0))]) _
  refine own_step (fun t k => XS.lloadN X0.here hx rfl (hb hby own_d3_17) rfl  k) ?_
  show own_Run p e below s₁ (mkF m 18 #[.val (.long q0), .second, .val (.long (own_f3_11 q0)), .second] [(.long (own_f3_11 q0)), (.long q0), (.long (2 : Int64)), (.long (own_f3_11 q0))]) _
  refine own_step (fun t k => XS.lmul X0.here hx rfl (hb hby own_d3_18) rfl k) ?_
  show own_Run p e below s₁ (mkF m 19 #[.val (.long q0), .second, .val (.long (own_f3_11 q0)), .second] [(.long (q0 * (own_f3_11 q0))), (.long (2 : Int64)), (.long (own_f3_11 q0))]) _
  refine own_step (fun t k => XS.lsub X0.here hx rfl (hb hby own_d3_19) rfl k) ?_
  show own_Run p e below s₁ (mkF m 20 #[.val (.long q0), .second, .val (.long (own_f3_11 q0)), .second] [(.long ((2 : Int64) - (q0 * (own_f3_11 q0)))), (.long (own_f3_11 q0))]) _
  refine own_step (fun t k => XS.lmul X0.here hx rfl (hb hby own_d3_20) rfl k) ?_
  show own_Run p e below s₁ (mkF m 21 #[.val (.long q0), .second, .val (.long (own_f3_11 q0)), .second] [(.long ((own_f3_11 q0) * ((2 : Int64) - (q0 * (own_f3_11 q0)))))]) _
  refine own_step (fun t k => XS.lstoreN X0.here hx rfl (hb hby own_d3_21) rfl (l' := #[.val (.long q0), .second, .val (.long (own_f3_21 q0)), .second]) rfl k) ?_
  show own_Run p e below s₁ (mkF m 22 #[.val (.long q0), .second, .val (.long (own_f3_21 q0)), .second] []) _
  refine own_step (fun t k => XS.lloadN X0.here hx rfl (hb hby own_d3_22) rfl  k) ?_
  show own_Run p e below s₁ (mkF m 23 #[.val (.long q0), .second, .val (.long (own_f3_21 q0)), .second] [(.long (own_f3_21 q0))]) _
  refine own_step (fun t k => X0.ldc2Long hx hown (mvT hZ (hw _ (List.mem_of_getElem? (i := 14) rfl))) (g := (mkF m 23 #[.val (.long q0), .second, .val (.long (own_f3_21 q0)), .second] [(.long (own_f3_21 q0))])) rfl (hb hby own_d3_23) t k) ?_
  show own_Run p e below s₁ (mkF m 26 #[.val (.long q0), .second, .val (.long (own_f3_21 q0)), .second] [(.long (2 : Int64)), (.long (own_f3_21 q0))]) _
  refine own_step (fun t k => XS.lloadN X0.here hx rfl (hb hby own_d3_26) rfl  k) ?_
  show own_Run p e below s₁ (mkF m 27 #[.val (.long q0), .second, .val (.long (own_f3_21 q0)), .second] [(.long q0), (.long (2 : Int64)), (.long (own_f3_21 q0))]) _
  refine own_step (fun t k => XS.lloadN X0.here hx rfl (hb hby own_d3_27) rfl  k) ?_
  show own_Run p e below s₁ (mkF m 28 #[.val (.long q0), .second, .val (.long (own_f3_21 q0)), .second] [(.long (own_f3_21 q0)), (.long q0), (.long (2 : Int64)), (.long (own_f3_21 q0))]) _
  refine own_step (fun t k => XS.lmul X0.here hx rfl (hb hby own_d3_28) rfl k) ?_
  show own_Run p e below s₁ (mkF m 29 #[.val (.long q0), .second, .val (.long (own_f3_21 q0)), .second] [(.long (q0 * (own_f3_21 q0))), (.long (2 : Int64)), (.long (own_f3_21 q0))]) _
  refine own_step (fun t k => XS.lsub X0.here hx rfl (hb hby own_d3_29) rfl k) ?_
  show own_Run p e below s₁ (mkF m 30 #[.val (.long q0), .second, .val (.long (own_f3_21 q0)), .second] [(.long ((2 : Int64) - (q0 * (own_f3_21 q0)))), (.long (own_f3_21 q0))]) _
  refine own_step (fun t k => XS.lmul X0.here hx rfl (hb hby own_d3_30) rfl k) ?_
  show own_Run p e below s₁ (mkF m 31 #[.val (.long q0), .second, .val (.long (own_f3_21 q0)), .second] [(.long ((own_f3_21 q0) * ((2 : Int64) - (q0 * (own_f3_21 q0)))))]) _
  refine own_step (fun t k => XS.lstoreN X0.here hx rfl (hb hby own_d3_31) rfl (l' := #[.val (.long q0), .second, .val (.long (own_f3_31 q0)), .second]) rfl k) ?_
  show own_Run p e below s₁ (mkF m 32 #[.val (.long q0), .second, .val (.long (own_f3_31 q0)), .second] []) _
  refine own_step (fun t k => XS.lloadN X0.here hx rfl (hb hby own_d3_32) rfl  k) ?_
  show own_Run p e below s₁ (mkF m 33 #[.val (.long q0), .second, .val (.long (own_f3_31 q0)), .second] [(.long (own_f3_31 q0))]) _
  refine own_step (fun t k => X0.ldc2Long hx hown (mvT hZ (hw _ (List.mem_of_getElem? (i := 14) rfl))) (g := (mkF m 33 #[.val (.long q0), .second, .val (.long (own_f3_31 q0)), .second] [(.long (own_f3_31 q0))])) rfl (hb hby own_d3_33) t k) ?_
  show own_Run p e below s₁ (mkF m 36 #[.val (.long q0), .second, .val (.long (own_f3_31 q0)), .second] [(.long (2 : Int64)), (.long (own_f3_31 q0))]) _
  refine own_step (fun t k => XS.lloadN X0.here hx rfl (hb hby own_d3_36) rfl  k) ?_
  show own_Run p e below s₁ (mkF m 37 #[.val (.long q0), .second, .val (.long (own_f3_31 q0)), .second] [(.long q0), (.long (2 : Int64)), (.long (own_f3_31 q0))]) _
  refine own_step (fun t k => XS.lloadN X0.here hx rfl (hb hby own_d3_37) rfl  k) ?_
  show own_Run p e below s₁ (mkF m 38 #[.val (.long q0), .second, .val (.long (own_f3_31 q0)), .second] [(.long (own_f3_31 q0)), (.long q0), (.long (2 : Int64)), (.long (own_f3_31 q0))]) _
  refine own_step (fun t k => XS.lmul X0.here hx rfl (hb hby own_d3_38) rfl k) ?_
  show own_Run p e below s₁ (mkF m 39 #[.val (.long q0), .second, .val (.long (own_f3_31 q0)), .second] [(.long (q0 * (own_f3_31 q0))), (.long (2 : Int64)), (.long (own_f3_31 q0))]) _
  refine own_step (fun t k => XS.lsub X0.here hx rfl (hb hby own_d3_39) rfl k) ?_
  show own_Run p e below s₁ (mkF m 40 #[.val (.long q0), .second, .val (.long (own_f3_31 q0)), .second] [(.long ((2 : Int64) - (q0 * (own_f3_31 q0)))), (.long (own_f3_31 q0))]) _
  refine own_step (fun t k => XS.lmul X0.here hx rfl (hb hby own_d3_40) rfl k) ?_
  show own_Run p e below s₁ (mkF m 41 #[.val (.long q0), .second, .val (.long (own_f3_31 q0)), .second] [(.long ((own_f3_31 q0) * ((2 : Int64) - (q0 * (own_f3_31 q0)))))]) _
  refine own_step (fun t k => XS.lstoreN X0.here hx rfl (hb hby own_d3_41) rfl (l' := #[.val (.long q0), .second, .val (.long (own_f3_41 q0)), .second]) rfl k) ?_
  show own_Run p e below s₁ (mkF m 42 #[.val (.long q0), .second, .val (.long (own_f3_41 q0)), .second] []) _
  refine own_step (fun t k => XS.lloadN X0.here hx rfl (hb hby own_d3_42) rfl  k) ?_
  show own_Run p e below s₁ (mkF m 43 #[.val (.long q0), .second, .val (.long (own_f3_41 q0)), .second] [(.long (own_f3_41 q0))]) _
  refine own_step (fun t k => X0.ldc2Long hx hown (mvT hZ (hw _ (List.mem_of_getElem? (i := 14) rfl))) (g := (mkF m 43 #[.val (.long q0), .second, .val (.long (own_f3_41 q0)), .second] [(.long (own_f3_41 q0))])) rfl (hb hby own_d3_43) t k) ?_
  show own_Run p e below s₁ (mkF m 46 #[.val (.long q0), .second, .val (.long (own_f3_41 q0)), .second] [(.long (2 : Int64)), (.long (own_f3_41 q0))]) _
  refine own_step (fun t k => XS.lloadN X0.here hx rfl (hb hby own_d3_46) rfl  k) ?_
  show own_Run p e below s₁ (mkF m 47 #[.val (.long q0), .second, .val (.long (own_f3_41 q0)), .second] [(.long q0), (.long (2 : Int64)), (.long (own_f3_41 q0))]) _
  refine own_step (fun t k => XS.lloadN X0.here hx rfl (hb hby own_d3_47) rfl  k) ?_
  show own_Run p e below s₁ (mkF m 48 #[.val (.long q0), .second, .val (.long (own_f3_41 q0)), .second] [(.long (own_f3_41 q0)), (.long q0), (.long (2 : Int64)), (.long (own_f3_41 q0))]) _
  refine own_step (fun t k => XS.lmul X0.here hx rfl (hb hby own_d3_48) rfl k) ?_
  show own_Run p e below s₁ (mkF m 49 #[.val (.long q0), .second, .val (.long (own_f3_41 q0)), .second] [(.long (q0 * (own_f3_41 q0))), (.long (2 : Int64)), (.long (own_f3_41 q0))]) _
  refine own_step (fun t k => XS.lsub X0.here hx rfl (hb hby own_d3_49) rfl k) ?_
  show own_Run p e below s₁ (mkF m 50 #[.val (.long q0), .second, .val (.long (own_f3_41 q0)), .second] [(.long ((2 : Int64) - (q0 * (own_f3_41 q0)))), (.long (own_f3_41 q0))]) _
  refine own_step (fun t k => XS.lmul X0.here hx rfl (hb hby own_d3_50) rfl k) ?_
  show own_Run p e below s₁ (mkF m 51 #[.val (.long q0), .second, .val (.long (own_f3_41 q0)), .second] [(.long ((own_f3_41 q0) * ((2 : Int64) - (q0 * (own_f3_41 q0)))))]) _
  refine own_step (fun t k => XS.lstoreN X0.here hx rfl (hb hby own_d3_51) rfl (l' := #[.val (.long q0), .second, .val (.long (own_f3_51 q0)), .second]) rfl k) ?_
  show own_Run p e below s₁ (mkF m 52 #[.val (.long q0), .second, .val (.long (own_f3_51 q0)), .second] []) _
  refine own_step (fun t k => XS.lloadN X0.here hx rfl (hb hby own_d3_52) rfl  k) ?_
  show own_Run p e below s₁ (mkF m 53 #[.val (.long q0), .second, .val (.long (own_f3_51 q0)), .second] [(.long (own_f3_51 q0))]) _
  refine own_step (fun t k => X0.ldc2Long hx hown (mvT hZ (hw _ (List.mem_of_getElem? (i := 14) rfl))) (g := (mkF m 53 #[.val (.long q0), .second, .val (.long (own_f3_51 q0)), .second] [(.long (own_f3_51 q0))])) rfl (hb hby own_d3_53) t k) ?_
  show own_Run p e below s₁ (mkF m 56 #[.val (.long q0), .second, .val (.long (own_f3_51 q0)), .second] [(.long (2 : Int64)), (.long (own_f3_51 q0))]) _
  refine own_step (fun t k => XS.lloadN X0.here hx rfl (hb hby own_d3_56) rfl  k) ?_
  show own_Run p e below s₁ (mkF m 57 #[.val (.long q0), .second, .val (.long (own_f3_51 q0)), .second] [(.long q0), (.long (2 : Int64)), (.long (own_f3_51 q0))]) _
  refine own_step (fun t k => XS.lloadN X0.here hx rfl (hb hby own_d3_57) rfl  k) ?_
  show own_Run p e below s₁ (mkF m 58 #[.val (.long q0), .second, .val (.long (own_f3_51 q0)), .second] [(.long (own_f3_51 q0)), (.long q0), (.long (2 : Int64)), (.long (own_f3_51 q0))]) _
  refine own_step (fun t k => XS.lmul X0.here hx rfl (hb hby own_d3_58) rfl k) ?_
  show own_Run p e below s₁ (mkF m 59 #[.val (.long q0), .second, .val (.long (own_f3_51 q0)), .second] [(.long (q0 * (own_f3_51 q0))), (.long (2 : Int64)), (.long (own_f3_51 q0))]) _
  refine own_step (fun t k => XS.lsub X0.here hx rfl (hb hby own_d3_59) rfl k) ?_
  show own_Run p e below s₁ (mkF m 60 #[.val (.long q0), .second, .val (.long (own_f3_51 q0)), .second] [(.long ((2 : Int64) - (q0 * (own_f3_51 q0)))), (.long (own_f3_51 q0))]) _
  refine own_step (fun t k => XS.lmul X0.here hx rfl (hb hby own_d3_60) rfl k) ?_
  show own_Run p e below s₁ (mkF m 61 #[.val (.long q0), .second, .val (.long (own_f3_51 q0)), .second] [(.long ((own_f3_51 q0) * ((2 : Int64) - (q0 * (own_f3_51 q0)))))]) _
  refine own_step (fun t k => XS.lstoreN X0.here hx rfl (hb hby own_d3_61) rfl (l' := #[.val (.long q0), .second, .val (.long (own_f3_61 q0)), .second]) rfl k) ?_
  show own_Run p e below s₁ (mkF m 62 #[.val (.long q0), .second, .val (.long (own_f3_61 q0)), .second] []) _
  refine own_step (fun t k => XS.lloadN X0.here hx rfl (hb hby own_d3_62) rfl  k) ?_
  show own_Run p e below s₁ (mkF m 63 #[.val (.long q0), .second, .val (.long (own_f3_61 q0)), .second] [(.long (own_f3_61 q0))]) _
  exact own_retJ X0 hx hlk hret (hb hby own_d3_63) (by decide) (by decide) N0 e0
theorem own_pd52 : parseMethodDescriptor "(J)J" = some ⟨[.long], some .long⟩ := by decide +kernel
theorem own_d2_0 : decode method_3_code 0 = .ok (.lload_n 0, 1) := by decide +kernel
theorem own_d2_1 : decode method_3_code 1 = .ok (.lstore_n 2, 1) := by decide +kernel
theorem own_d2_2 : decode method_3_code 2 = .ok (.lload_n 2, 1) := by decide +kernel
theorem own_d2_3 : decode method_3_code 3 = .ok (.lload_n 2, 1) := by decide +kernel
theorem own_d2_4 : decode method_3_code 4 = .ok (.bipush 31, 2) := by decide +kernel
theorem own_d2_6 : decode method_3_code 6 = .ok (.lushr, 1) := by decide +kernel
theorem own_d2_7 : decode method_3_code 7 = .ok (.lxor, 1) := by decide +kernel
theorem own_d2_8 : decode method_3_code 8 = .ok (.lload_n 2, 1) := by decide +kernel
theorem own_d2_9 : decode method_3_code 9 = .ok (.bipush 62, 2) := by decide +kernel
theorem own_d2_11 : decode method_3_code 11 = .ok (.lushr, 1) := by decide +kernel
theorem own_d2_12 : decode method_3_code 12 = .ok (.lxor, 1) := by decide +kernel
theorem own_d2_13 : decode method_3_code 13 = .ok (.lstore_n 2, 1) := by decide +kernel
theorem own_d2_14 : decode method_3_code 14 = .ok (.lload_n 2, 1) := by decide +kernel
theorem own_d2_15 : decode method_3_code 15 = .ok (.ldc2_w 9, 3) := by decide +kernel
theorem own_d2_18 : decode method_3_code 18 = .ok (.invokestatic 11, 3) := by decide +kernel
theorem own_d2_21 : decode method_3_code 21 = .ok (.lmul, 1) := by decide +kernel
theorem own_d2_22 : decode method_3_code 22 = .ok (.lstore_n 2, 1) := by decide +kernel
theorem own_d2_23 : decode method_3_code 23 = .ok (.lload_n 2, 1) := by decide +kernel
theorem own_d2_24 : decode method_3_code 24 = .ok (.lload_n 2, 1) := by decide +kernel
theorem own_d2_25 : decode method_3_code 25 = .ok (.bipush 27, 2) := by decide +kernel
theorem own_d2_27 : decode method_3_code 27 = .ok (.lushr, 1) := by decide +kernel
theorem own_d2_28 : decode method_3_code 28 = .ok (.lxor, 1) := by decide +kernel
theorem own_d2_29 : decode method_3_code 29 = .ok (.lload_n 2, 1) := by decide +kernel
theorem own_d2_30 : decode method_3_code 30 = .ok (.bipush 54, 2) := by decide +kernel
theorem own_d2_32 : decode method_3_code 32 = .ok (.lushr, 1) := by decide +kernel
theorem own_d2_33 : decode method_3_code 33 = .ok (.lxor, 1) := by decide +kernel
theorem own_d2_34 : decode method_3_code 34 = .ok (.lstore_n 2, 1) := by decide +kernel
theorem own_d2_35 : decode method_3_code 35 = .ok (.lload_n 2, 1) := by decide +kernel
theorem own_d2_36 : decode method_3_code 36 = .ok (.ldc2_w 17, 3) := by decide +kernel
theorem own_d2_39 : decode method_3_code 39 = .ok (.invokestatic 11, 3) := by decide +kernel
theorem own_d2_42 : decode method_3_code 42 = .ok (.lmul, 1) := by decide +kernel
theorem own_d2_43 : decode method_3_code 43 = .ok (.lstore_n 2, 1) := by decide +kernel
theorem own_d2_44 : decode method_3_code 44 = .ok (.lload_n 2, 1) := by decide +kernel
theorem own_d2_45 : decode method_3_code 45 = .ok (.lload_n 2, 1) := by decide +kernel
theorem own_d2_46 : decode method_3_code 46 = .ok (.bipush 30, 2) := by decide +kernel
theorem own_d2_48 : decode method_3_code 48 = .ok (.lushr, 1) := by decide +kernel
theorem own_d2_49 : decode method_3_code 49 = .ok (.lxor, 1) := by decide +kernel
theorem own_d2_50 : decode method_3_code 50 = .ok (.lload_n 2, 1) := by decide +kernel
theorem own_d2_51 : decode method_3_code 51 = .ok (.bipush 60, 2) := by decide +kernel
theorem own_d2_53 : decode method_3_code 53 = .ok (.lushr, 1) := by decide +kernel
theorem own_d2_54 : decode method_3_code 54 = .ok (.lxor, 1) := by decide +kernel
theorem own_d2_55 : decode method_3_code 55 = .ok (.lstore_n 2, 1) := by decide +kernel
theorem own_d2_56 : decode method_3_code 56 = .ok (.lload_n 2, 1) := by decide +kernel
theorem own_d2_57 : decode method_3_code 57 = .ok (.lreturn, 1) := by decide +kernel
def own_f2_13 (q0 : Int64) : Int64 := ((q0 ^^^ (own_ushrL q0 (31 : Int32))) ^^^ (own_ushrL q0 (62 : Int32)))
def own_f2_22 (q0 : Int64) : Int64 := ((own_f2_13 q0) * (own_r3 (-7723592293110705685 : Int64)))
def own_f2_34 (q0 : Int64) : Int64 := (((own_f2_22 q0) ^^^ (own_ushrL (own_f2_22 q0) (27 : Int32))) ^^^ (own_ushrL (own_f2_22 q0) (54 : Int32)))
def own_f2_43 (q0 : Int64) : Int64 := ((own_f2_34 q0) * (own_r3 (-4658895280553007687 : Int64)))
def own_f2_55 (q0 : Int64) : Int64 := (((own_f2_43 q0) ^^^ (own_ushrL (own_f2_43 q0) (30 : Int32))) ^^^ (own_ushrL (own_f2_43 q0) (60 : Int32)))
def own_r2 (q0 : Int64) : Int64 := (own_f2_55 q0)
theorem own_ef2 (m : MethodId) (q0 : Int64) : entryFrame m #[(.long q0)] 4 = (mkF m 0 #[.val (.long q0), .second, .unset, .unset] []) := by first | (simp [entryFrame, mkF, argsToLocals, Value.category]; done) | rfl
set_option maxRecDepth 65536 in
set_option maxHeartbeats 40000000 in
theorem rm2 (l : Launch) (Z : State) (a0 : Array Value) (hw : ∀ d ∈ tables_1, d.before a0 Z = true) (ws : List Jvm.Cond) (q0 : Int64) (h0 : Heap) (n0 : Nat) (Z0 : n0 ≤ h0.size) :
    MetFree l (⟨"com/example/surefoot/surefoot/SplitMixMixPinLaw", "unmix", "(J)J"⟩ : MethodName) (head1 (Jvm.Cond.code (⟨"com/example/surefoot/surefoot/SplitMixMixPinLaw", "unmix", "(J)J"⟩ : MethodName) method_3_code 4 (some .long) :: ws) ({ frames := 1, cells := 0, slots := 0, locals := 17 } : Room)) (fun a U => a = #[(.long q0)] ∧ Z.Warmed39 U.vm ∧ U.heap = h0) (fun _ _ _ _ _ => True) (fun _ U o U' => ∃ v L, o = .returned v ∧ own_Q n0 (fun h => h = h0) (some (.long (own_r2 q0))) v U'.heap L ∧ FrameEnd U o U' L ({ frames := 1, cells := 0, slots := 0, locals := 17 } : Room).cells ({ frames := 1, cells := 0, slots := 0, locals := 17 } : Room).slots) := by
  refine MetFree.of_bodySF (plainFor_of_name own_pn0) hisR ?_
  intro p e s m args below meth c s₁ Bd hml0 hP hK
  obtain ⟨rfl, hZ, hh⟩ := hP
  have hx := Bd.exec
  have hby := Bd.bytes
  have hml : c.maxLocals = 4 := hml0
  have hown : s.vm.findClass "com/example/surefoot/surefoot/SplitMixMixPinLaw" = some m.cls := findClass_of_methodNamed Bd.named
  have hnm := (name_of_methodNamed Bd.named Bd.method).1
  have hret := Bd.returns
  have hlk : meth.locks = false := BodyLoose.notSynchronized Bd
  have X0 : Stand p l e ({ frames := 1, cells := 0, slots := 0, locals := 17 } : Room) s m #[(.long q0)] below meth c s₁ [] 0 0 := Stand.of_body Bd
  have e0 : s₁.heap = h0 := by rw [← hh, Bd.state]; rfl
  have N0 := Fr.nil n0
  clear Bd hh hK
  refine own_fin ?_
  refine own_entry (own_ef2 m q0) ?_
  show own_Run p e below s₁ _ (own_Ret _ s below _ _ (own_Q n0 _ (some (.long (own_f2_55 q0)))))
  show own_Run p e below s₁ (mkF m 0 #[.val (.long q0), .second, .unset, .unset] []) _
  refine own_step (fun t k => XS.lloadN X0.here hx rfl (hb hby own_d2_0) rfl  k) ?_
  show own_Run p e below s₁ (mkF m 1 #[.val (.long q0), .second, .unset, .unset] [(.long q0)]) _
  refine own_step (fun t k => XS.lstoreN X0.here hx rfl (hb hby own_d2_1) rfl (l' := #[.val (.long q0), .second, .val (.long q0), .second]) rfl k) ?_
  show own_Run p e below s₁ (mkF m 2 #[.val (.long q0), .second, .val (.long q0), .second] []) _
  refine own_step (fun t k => XS.lloadN X0.here hx rfl (hb hby own_d2_2) rfl  k) ?_
  show own_Run p e below s₁ (mkF m 3 #[.val (.long q0), .second, .val (.long q0), .second] [(.long q0)]) _
  refine own_step (fun t k => XS.lloadN X0.here hx rfl (hb hby own_d2_3) rfl  k) ?_
  show own_Run p e below s₁ (mkF m 4 #[.val (.long q0), .second, .val (.long q0), .second] [(.long q0), (.long q0)]) _
  refine own_step (fun t k => XS.bipush X0.here hx rfl (hb hby own_d2_4) k) ?_
  show own_Run p e below s₁ (mkF m 6 #[.val (.long q0), .second, .val (.long q0), .second] [(.int (31 : Int32)), (.long q0), (.long q0)]) _
  refine own_step (fun t k => XS.lushr X0.here hx rfl (hb hby own_d2_6) rfl k) ?_
  show own_Run p e below s₁ (mkF m 7 #[.val (.long q0), .second, .val (.long q0), .second] [(.long (own_ushrL q0 (31 : Int32))), (.long q0)]) _
  refine own_step (fun t k => XS.lxor X0.here hx rfl (hb hby own_d2_7) rfl k) ?_
  show own_Run p e below s₁ (mkF m 8 #[.val (.long q0), .second, .val (.long q0), .second] [(.long (q0 ^^^ (own_ushrL q0 (31 : Int32))))]) _
  refine own_step (fun t k => XS.lloadN X0.here hx rfl (hb hby own_d2_8) rfl  k) ?_
  show own_Run p e below s₁ (mkF m 9 #[.val (.long q0), .second, .val (.long q0), .second] [(.long q0), (.long (q0 ^^^ (own_ushrL q0 (31 : Int32))))]) _
  refine own_step (fun t k => XS.bipush X0.here hx rfl (hb hby own_d2_9) k) ?_
  show own_Run p e below s₁ (mkF m 11 #[.val (.long q0), .second, .val (.long q0), .second] [(.int (62 : Int32)), (.long q0), (.long (q0 ^^^ (own_ushrL q0 (31 : Int32))))]) _
  refine own_step (fun t k => XS.lushr X0.here hx rfl (hb hby own_d2_11) rfl k) ?_
  show own_Run p e below s₁ (mkF m 12 #[.val (.long q0), .second, .val (.long q0), .second] [(.long (own_ushrL q0 (62 : Int32))), (.long (q0 ^^^ (own_ushrL q0 (31 : Int32))))]) _
  refine own_step (fun t k => XS.lxor X0.here hx rfl (hb hby own_d2_12) rfl k) ?_
  show own_Run p e below s₁ (mkF m 13 #[.val (.long q0), .second, .val (.long q0), .second] [(.long ((q0 ^^^ (own_ushrL q0 (31 : Int32))) ^^^ (own_ushrL q0 (62 : Int32))))]) _
  refine own_step (fun t k => XS.lstoreN X0.here hx rfl (hb hby own_d2_13) rfl (l' := #[.val (.long q0), .second, .val (.long (own_f2_13 q0)), .second]) rfl k) ?_
  show own_Run p e below s₁ (mkF m 14 #[.val (.long q0), .second, .val (.long (own_f2_13 q0)), .second] []) _
  refine own_step (fun t k => XS.lloadN X0.here hx rfl (hb hby own_d2_14) rfl  k) ?_
  show own_Run p e below s₁ (mkF m 15 #[.val (.long q0), .second, .val (.long (own_f2_13 q0)), .second] [(.long (own_f2_13 q0))]) _
  refine own_step (fun t k => X0.ldc2Long hx hown (mvT hZ (hw _ (List.mem_of_getElem? (i := 10) rfl))) (g := (mkF m 15 #[.val (.long q0), .second, .val (.long (own_f2_13 q0)), .second] [(.long (own_f2_13 q0))])) rfl (hb hby own_d2_15) t k) ?_
  show own_Run p e below s₁ (mkF m 18 #[.val (.long q0), .second, .val (.long (own_f2_13 q0)), .second] [(.long (-7723592293110705685 : Int64)), (.long (own_f2_13 q0))]) _
  obtain ⟨_, _, ⟨T3, L3, kq3, nq3⟩, -, X3, ⟨Lc3, hQ3, lq3, yq3, zq3⟩, st3⟩ := Jvm.LawKit.callS X0 hx (y := (⟨"com/example/surefoot/surefoot/SplitMixMixPinLaw", "inverse", "(J)J"⟩ : MethodName)) hown (mvT hZ (hw _ (List.mem_of_getElem? (i := 11) rfl))) (mvT hZ (hw _ (List.mem_of_getElem? (i := 12) rfl))) (mvT hZ (hw _ (List.mem_of_getElem? (i := 8) rfl))) (mvT hZ (hw _ (List.mem_of_getElem? (i := 13) rfl))) (by decide) (backOf (W := 2) (rm3 l Z a0 hw [] (-7723592293110705685 : Int64) h0 n0 Z0 ) hZ (hw _ (List.mem_of_getElem? (i := 13) rfl)) (hw _ (List.mem_of_getElem? (i := 8) rfl)) (by decide) (by decide)) (g := (mkF m 18 #[.val (.long q0), .second, .val (.long (own_f2_13 q0)), .second] [(.long (-7723592293110705685 : Int64)), (.long (own_f2_13 q0))])) rfl (by rw [hml]; rfl) (argsL := [(.long (-7723592293110705685 : Int64))]) (rest := [(.long (own_f2_13 q0))]) (lenOf own_pd52 rfl) rfl (by show 2 * 0 + _ ≤ _; exact Nat.le_of_eq rfl) (hb hby own_d2_18) (fun _ _ => ⟨rfl, e0, (by decide : 0 + 0 ≤ _), (by decide : 0 + 0 ≤ _)⟩)
  dsimp only [Pt.U, Pt.locs, Pt.cells, Pt.slots] at X3 lq3 yq3 zq3 st3 hQ3
  subst lq3 yq3 zq3
  obtain ⟨rfl, N3q, e3⟩ := hQ3
  have N3 := Fr.app N0 N3q
  refine own_step st3 ?_
  show own_Run p e below T3 (mkF m 21 #[.val (.long q0), .second, .val (.long (own_f2_13 q0)), .second] [(.long (own_r3 (-7723592293110705685 : Int64))), (.long (own_f2_13 q0))]) _
  refine own_step (fun t k => XS.lmul X3.here hx rfl (hb hby own_d2_21) rfl k) ?_
  show own_Run p e below T3 (mkF m 22 #[.val (.long q0), .second, .val (.long (own_f2_13 q0)), .second] [(.long ((own_f2_13 q0) * (own_r3 (-7723592293110705685 : Int64))))]) _
  refine own_step (fun t k => XS.lstoreN X3.here hx rfl (hb hby own_d2_22) rfl (l' := #[.val (.long q0), .second, .val (.long (own_f2_22 q0)), .second]) rfl k) ?_
  show own_Run p e below T3 (mkF m 23 #[.val (.long q0), .second, .val (.long (own_f2_22 q0)), .second] []) _
  refine own_step (fun t k => XS.lloadN X3.here hx rfl (hb hby own_d2_23) rfl  k) ?_
  show own_Run p e below T3 (mkF m 24 #[.val (.long q0), .second, .val (.long (own_f2_22 q0)), .second] [(.long (own_f2_22 q0))]) _
  refine own_step (fun t k => XS.lloadN X3.here hx rfl (hb hby own_d2_24) rfl  k) ?_
  show own_Run p e below T3 (mkF m 25 #[.val (.long q0), .second, .val (.long (own_f2_22 q0)), .second] [(.long (own_f2_22 q0)), (.long (own_f2_22 q0))]) _
  refine own_step (fun t k => XS.bipush X3.here hx rfl (hb hby own_d2_25) k) ?_
  show own_Run p e below T3 (mkF m 27 #[.val (.long q0), .second, .val (.long (own_f2_22 q0)), .second] [(.int (27 : Int32)), (.long (own_f2_22 q0)), (.long (own_f2_22 q0))]) _
  refine own_step (fun t k => XS.lushr X3.here hx rfl (hb hby own_d2_27) rfl k) ?_
  show own_Run p e below T3 (mkF m 28 #[.val (.long q0), .second, .val (.long (own_f2_22 q0)), .second] [(.long (own_ushrL (own_f2_22 q0) (27 : Int32))), (.long (own_f2_22 q0))]) _
  refine own_step (fun t k => XS.lxor X3.here hx rfl (hb hby own_d2_28) rfl k) ?_
  show own_Run p e below T3 (mkF m 29 #[.val (.long q0), .second, .val (.long (own_f2_22 q0)), .second] [(.long ((own_f2_22 q0) ^^^ (own_ushrL (own_f2_22 q0) (27 : Int32))))]) _
  refine own_step (fun t k => XS.lloadN X3.here hx rfl (hb hby own_d2_29) rfl  k) ?_
  show own_Run p e below T3 (mkF m 30 #[.val (.long q0), .second, .val (.long (own_f2_22 q0)), .second] [(.long (own_f2_22 q0)), (.long ((own_f2_22 q0) ^^^ (own_ushrL (own_f2_22 q0) (27 : Int32))))]) _
  refine own_step (fun t k => XS.bipush X3.here hx rfl (hb hby own_d2_30) k) ?_
  show own_Run p e below T3 (mkF m 32 #[.val (.long q0), .second, .val (.long (own_f2_22 q0)), .second] [(.int (54 : Int32)), (.long (own_f2_22 q0)), (.long ((own_f2_22 q0) ^^^ (own_ushrL (own_f2_22 q0) (27 : Int32))))]) _
  refine own_step (fun t k => XS.lushr X3.here hx rfl (hb hby own_d2_32) rfl k) ?_
  show own_Run p e below T3 (mkF m 33 #[.val (.long q0), .second, .val (.long (own_f2_22 q0)), .second] [(.long (own_ushrL (own_f2_22 q0) (54 : Int32))), (.long ((own_f2_22 q0) ^^^ (own_ushrL (own_f2_22 q0) (27 : Int32))))]) _
  refine own_step (fun t k => XS.lxor X3.here hx rfl (hb hby own_d2_33) rfl k) ?_
  show own_Run p e below T3 (mkF m 34 #[.val (.long q0), .second, .val (.long (own_f2_22 q0)), .second] [(.long (((own_f2_22 q0) ^^^ (own_ushrL (own_f2_22 q0) (27 : Int32))) ^^^ (own_ushrL (own_f2_22 q0) (54 : Int32))))]) _
  refine own_step (fun t k => XS.lstoreN X3.here hx rfl (hb hby own_d2_34) rfl (l' := #[.val (.long q0), .second, .val (.long (own_f2_34 q0)), .second]) rfl k) ?_
  show own_Run p e below T3 (mkF m 35 #[.val (.long q0), .second, .val (.long (own_f2_34 q0)), .second] []) _
  refine own_step (fun t k => XS.lloadN X3.here hx rfl (hb hby own_d2_35) rfl  k) ?_
  show own_Run p e below T3 (mkF m 36 #[.val (.long q0), .second, .val (.long (own_f2_34 q0)), .second] [(.long (own_f2_34 q0))]) _
  refine own_step (fun t k => X3.ldc2Long hx hown (mvT hZ (hw _ (List.mem_of_getElem? (i := 15) rfl))) (g := (mkF m 36 #[.val (.long q0), .second, .val (.long (own_f2_34 q0)), .second] [(.long (own_f2_34 q0))])) rfl (hb hby own_d2_36) t k) ?_
  show own_Run p e below T3 (mkF m 39 #[.val (.long q0), .second, .val (.long (own_f2_34 q0)), .second] [(.long (-4658895280553007687 : Int64)), (.long (own_f2_34 q0))]) _
  obtain ⟨_, _, ⟨T4, L4, kq4, nq4⟩, -, X4, ⟨Lc4, hQ4, lq4, yq4, zq4⟩, st4⟩ := Jvm.LawKit.callS X3 hx (y := (⟨"com/example/surefoot/surefoot/SplitMixMixPinLaw", "inverse", "(J)J"⟩ : MethodName)) hown (mvT hZ (hw _ (List.mem_of_getElem? (i := 11) rfl))) (mvT hZ (hw _ (List.mem_of_getElem? (i := 12) rfl))) (mvT hZ (hw _ (List.mem_of_getElem? (i := 8) rfl))) (mvT hZ (hw _ (List.mem_of_getElem? (i := 13) rfl))) (by decide) (backOf (W := 2) (rm3 l Z a0 hw [] (-4658895280553007687 : Int64) h0 n0 Z0 ) hZ (hw _ (List.mem_of_getElem? (i := 13) rfl)) (hw _ (List.mem_of_getElem? (i := 8) rfl)) (by decide) (by decide)) (g := (mkF m 39 #[.val (.long q0), .second, .val (.long (own_f2_34 q0)), .second] [(.long (-4658895280553007687 : Int64)), (.long (own_f2_34 q0))])) rfl (by rw [hml]; rfl) (argsL := [(.long (-4658895280553007687 : Int64))]) (rest := [(.long (own_f2_34 q0))]) (lenOf own_pd52 rfl) rfl (by show 2 * 0 + _ ≤ _; exact Nat.le_of_eq rfl) (hb hby own_d2_39) (fun _ _ => ⟨rfl, e3, (by decide : 0 + 0 ≤ _), (by decide : 0 + 0 ≤ _)⟩)
  dsimp only [Pt.U, Pt.locs, Pt.cells, Pt.slots] at X4 lq4 yq4 zq4 st4 hQ4
  subst lq4 yq4 zq4
  obtain ⟨rfl, N4q, e4⟩ := hQ4
  have N4 := Fr.app N3 N4q
  refine own_step st4 ?_
  show own_Run p e below T4 (mkF m 42 #[.val (.long q0), .second, .val (.long (own_f2_34 q0)), .second] [(.long (own_r3 (-4658895280553007687 : Int64))), (.long (own_f2_34 q0))]) _
  refine own_step (fun t k => XS.lmul X4.here hx rfl (hb hby own_d2_42) rfl k) ?_
  show own_Run p e below T4 (mkF m 43 #[.val (.long q0), .second, .val (.long (own_f2_34 q0)), .second] [(.long ((own_f2_34 q0) * (own_r3 (-4658895280553007687 : Int64))))]) _
  refine own_step (fun t k => XS.lstoreN X4.here hx rfl (hb hby own_d2_43) rfl (l' := #[.val (.long q0), .second, .val (.long (own_f2_43 q0)), .second]) rfl k) ?_
  show own_Run p e below T4 (mkF m 44 #[.val (.long q0), .second, .val (.long (own_f2_43 q0)), .second] []) _
  refine own_step (fun t k => XS.lloadN X4.here hx rfl (hb hby own_d2_44) rfl  k) ?_
  show own_Run p e below T4 (mkF m 45 #[.val (.long q0), .second, .val (.long (own_f2_43 q0)), .second] [(.long (own_f2_43 q0))]) _
  refine own_step (fun t k => XS.lloadN X4.here hx rfl (hb hby own_d2_45) rfl  k) ?_
  show own_Run p e below T4 (mkF m 46 #[.val (.long q0), .second, .val (.long (own_f2_43 q0)), .second] [(.long (own_f2_43 q0)), (.long (own_f2_43 q0))]) _
  refine own_step (fun t k => XS.bipush X4.here hx rfl (hb hby own_d2_46) k) ?_
  show own_Run p e below T4 (mkF m 48 #[.val (.long q0), .second, .val (.long (own_f2_43 q0)), .second] [(.int (30 : Int32)), (.long (own_f2_43 q0)), (.long (own_f2_43 q0))]) _
  refine own_step (fun t k => XS.lushr X4.here hx rfl (hb hby own_d2_48) rfl k) ?_
  show own_Run p e below T4 (mkF m 49 #[.val (.long q0), .second, .val (.long (own_f2_43 q0)), .second] [(.long (own_ushrL (own_f2_43 q0) (30 : Int32))), (.long (own_f2_43 q0))]) _
  refine own_step (fun t k => XS.lxor X4.here hx rfl (hb hby own_d2_49) rfl k) ?_
  show own_Run p e below T4 (mkF m 50 #[.val (.long q0), .second, .val (.long (own_f2_43 q0)), .second] [(.long ((own_f2_43 q0) ^^^ (own_ushrL (own_f2_43 q0) (30 : Int32))))]) _
  refine own_step (fun t k => XS.lloadN X4.here hx rfl (hb hby own_d2_50) rfl  k) ?_
  show own_Run p e below T4 (mkF m 51 #[.val (.long q0), .second, .val (.long (own_f2_43 q0)), .second] [(.long (own_f2_43 q0)), (.long ((own_f2_43 q0) ^^^ (own_ushrL (own_f2_43 q0) (30 : Int32))))]) _
  refine own_step (fun t k => XS.bipush X4.here hx rfl (hb hby own_d2_51) k) ?_
  show own_Run p e below T4 (mkF m 53 #[.val (.long q0), .second, .val (.long (own_f2_43 q0)), .second] [(.int (60 : Int32)), (.long (own_f2_43 q0)), (.long ((own_f2_43 q0) ^^^ (own_ushrL (own_f2_43 q0) (30 : Int32))))]) _
  refine own_step (fun t k => XS.lushr X4.here hx rfl (hb hby own_d2_53) rfl k) ?_
  show own_Run p e below T4 (mkF m 54 #[.val (.long q0), .second, .val (.long (own_f2_43 q0)), .second] [(.long (own_ushrL (own_f2_43 q0) (60 : Int32))), (.long ((own_f2_43 q0) ^^^ (own_ushrL (own_f2_43 q0) (30 : Int32))))]) _
  refine own_step (fun t k => XS.lxor X4.here hx rfl (hb hby own_d2_54) rfl k) ?_
  show own_Run p e below T4 (mkF m 55 #[.val (.long q0), .second, .val (.long (own_f2_43 q0)), .second] [(.long (((own_f2_43 q0) ^^^ (own_ushrL (own_f2_43 q0) (30 : Int32))) ^^^ (own_ushrL (own_f2_43 q0) (60 : Int32))))]) _
  refine own_step (fun t k => XS.lstoreN X4.here hx rfl (hb hby own_d2_55) rfl (l' := #[.val (.long q0), .second, .val (.long (own_f2_55 q0)), .second]) rfl k) ?_
  show own_Run p e below T4 (mkF m 56 #[.val (.long q0), .second, .val (.long (own_f2_55 q0)), .second] []) _
  refine own_step (fun t k => XS.lloadN X4.here hx rfl (hb hby own_d2_56) rfl  k) ?_
  show own_Run p e below T4 (mkF m 57 #[.val (.long q0), .second, .val (.long (own_f2_55 q0)), .second] [(.long (own_f2_55 q0))]) _
  exact own_retJ X4 hx hlk hret (hb hby own_d2_57) (by decide) (by decide) N4 e4
theorem own_pn1 : plainName "com/example/surefoot/surefoot/SplitMix" = true := by first | (simp [plainName, overriddenIn]; done) | decide +kernel
theorem own_d1_0 : decode prog_23_method_2_code 0 = .ok (.lload_n 0, 1) := by decide +kernel
theorem own_d1_1 : decode prog_23_method_2_code 1 = .ok (.lstore_n 2, 1) := by decide +kernel
theorem own_d1_2 : decode prog_23_method_2_code 2 = .ok (.lload_n 2, 1) := by decide +kernel
theorem own_d1_3 : decode prog_23_method_2_code 3 = .ok (.lload_n 2, 1) := by decide +kernel
theorem own_d1_4 : decode prog_23_method_2_code 4 = .ok (.bipush 30, 2) := by decide +kernel
theorem own_d1_6 : decode prog_23_method_2_code 6 = .ok (.lushr, 1) := by decide +kernel
theorem own_d1_7 : decode prog_23_method_2_code 7 = .ok (.lxor, 1) := by decide +kernel
theorem own_d1_8 : decode prog_23_method_2_code 8 = .ok (.ldc2_w 7, 3) := by decide +kernel
theorem own_d1_11 : decode prog_23_method_2_code 11 = .ok (.lmul, 1) := by decide +kernel
theorem own_d1_12 : decode prog_23_method_2_code 12 = .ok (.lstore_n 2, 1) := by decide +kernel
theorem own_d1_13 : decode prog_23_method_2_code 13 = .ok (.lload_n 2, 1) := by decide +kernel
theorem own_d1_14 : decode prog_23_method_2_code 14 = .ok (.lload_n 2, 1) := by decide +kernel
theorem own_d1_15 : decode prog_23_method_2_code 15 = .ok (.bipush 27, 2) := by decide +kernel
theorem own_d1_17 : decode prog_23_method_2_code 17 = .ok (.lushr, 1) := by decide +kernel
theorem own_d1_18 : decode prog_23_method_2_code 18 = .ok (.lxor, 1) := by decide +kernel
theorem own_d1_19 : decode prog_23_method_2_code 19 = .ok (.ldc2_w 9, 3) := by decide +kernel
theorem own_d1_22 : decode prog_23_method_2_code 22 = .ok (.lmul, 1) := by decide +kernel
theorem own_d1_23 : decode prog_23_method_2_code 23 = .ok (.lstore_n 2, 1) := by decide +kernel
theorem own_d1_24 : decode prog_23_method_2_code 24 = .ok (.lload_n 2, 1) := by decide +kernel
theorem own_d1_25 : decode prog_23_method_2_code 25 = .ok (.lload_n 2, 1) := by decide +kernel
theorem own_d1_26 : decode prog_23_method_2_code 26 = .ok (.bipush 31, 2) := by decide +kernel
theorem own_d1_28 : decode prog_23_method_2_code 28 = .ok (.lushr, 1) := by decide +kernel
theorem own_d1_29 : decode prog_23_method_2_code 29 = .ok (.lxor, 1) := by decide +kernel
theorem own_d1_30 : decode prog_23_method_2_code 30 = .ok (.lreturn, 1) := by decide +kernel
def own_f1_12 (q0 : Int64) : Int64 := ((q0 ^^^ (own_ushrL q0 (30 : Int32))) * (-4658895280553007687 : Int64))
def own_f1_23 (q0 : Int64) : Int64 := (((own_f1_12 q0) ^^^ (own_ushrL (own_f1_12 q0) (27 : Int32))) * (-7723592293110705685 : Int64))
def own_r1 (q0 : Int64) : Int64 := ((own_f1_23 q0) ^^^ (own_ushrL (own_f1_23 q0) (31 : Int32)))
theorem own_ef1 (m : MethodId) (q0 : Int64) : entryFrame m #[(.long q0)] 4 = (mkF m 0 #[.val (.long q0), .second, .unset, .unset] []) := by first | (simp [entryFrame, mkF, argsToLocals, Value.category]; done) | rfl
set_option maxRecDepth 65536 in
set_option maxHeartbeats 40000000 in
theorem rm1 (l : Launch) (Z : State) (a0 : Array Value) (hw : ∀ d ∈ tables_1, d.before a0 Z = true) (ws : List Jvm.Cond) (q0 : Int64) (h0 : Heap) (n0 : Nat) (Z0 : n0 ≤ h0.size) :
    MetFree l (⟨"com/example/surefoot/surefoot/SplitMix", "mix", "(J)J"⟩ : MethodName) (head1 (Jvm.Cond.code (⟨"com/example/surefoot/surefoot/SplitMix", "mix", "(J)J"⟩ : MethodName) prog_23_method_2_code 4 (some .long) :: ws) ({ frames := 0, cells := 0, slots := 0, locals := 0 } : Room)) (fun a U => a = #[(.long q0)] ∧ Z.Warmed39 U.vm ∧ U.heap = h0) (fun _ _ _ _ _ => True) (fun _ U o U' => ∃ v L, o = .returned v ∧ own_Q n0 (fun h => h = h0) (some (.long (own_r1 q0))) v U'.heap L ∧ FrameEnd U o U' L ({ frames := 0, cells := 0, slots := 0, locals := 0 } : Room).cells ({ frames := 0, cells := 0, slots := 0, locals := 0 } : Room).slots) := by
  refine MetFree.of_bodySF (plainFor_of_name own_pn1) hisR ?_
  intro p e s m args below meth c s₁ Bd hml0 hP hK
  obtain ⟨rfl, hZ, hh⟩ := hP
  have hx := Bd.exec
  have hby := Bd.bytes
  have hml : c.maxLocals = 4 := hml0
  have hown : s.vm.findClass "com/example/surefoot/surefoot/SplitMix" = some m.cls := findClass_of_methodNamed Bd.named
  have hnm := (name_of_methodNamed Bd.named Bd.method).1
  have hret := Bd.returns
  have hlk : meth.locks = false := BodyLoose.notSynchronized Bd
  have X0 : Stand p l e ({ frames := 0, cells := 0, slots := 0, locals := 0 } : Room) s m #[(.long q0)] below meth c s₁ [] 0 0 := Stand.of_body Bd
  have e0 : s₁.heap = h0 := by rw [← hh, Bd.state]; rfl
  have N0 := Fr.nil n0
  clear Bd hh hK
  refine own_fin ?_
  refine own_entry (own_ef1 m q0) ?_
  show own_Run p e below s₁ _ (own_Ret _ s below _ _ (own_Q n0 _ (some (.long ((own_f1_23 q0) ^^^ (own_ushrL (own_f1_23 q0) (31 : Int32)))))))
  show own_Run p e below s₁ (mkF m 0 #[.val (.long q0), .second, .unset, .unset] []) _
  refine own_step (fun t k => XS.lloadN X0.here hx rfl (hb hby own_d1_0) rfl  k) ?_
  show own_Run p e below s₁ (mkF m 1 #[.val (.long q0), .second, .unset, .unset] [(.long q0)]) _
  refine own_step (fun t k => XS.lstoreN X0.here hx rfl (hb hby own_d1_1) rfl (l' := #[.val (.long q0), .second, .val (.long q0), .second]) rfl k) ?_
  show own_Run p e below s₁ (mkF m 2 #[.val (.long q0), .second, .val (.long q0), .second] []) _
  refine own_step (fun t k => XS.lloadN X0.here hx rfl (hb hby own_d1_2) rfl  k) ?_
  show own_Run p e below s₁ (mkF m 3 #[.val (.long q0), .second, .val (.long q0), .second] [(.long q0)]) _
  refine own_step (fun t k => XS.lloadN X0.here hx rfl (hb hby own_d1_3) rfl  k) ?_
  show own_Run p e below s₁ (mkF m 4 #[.val (.long q0), .second, .val (.long q0), .second] [(.long q0), (.long q0)]) _
  refine own_step (fun t k => XS.bipush X0.here hx rfl (hb hby own_d1_4) k) ?_
  show own_Run p e below s₁ (mkF m 6 #[.val (.long q0), .second, .val (.long q0), .second] [(.int (30 : Int32)), (.long q0), (.long q0)]) _
  refine own_step (fun t k => XS.lushr X0.here hx rfl (hb hby own_d1_6) rfl k) ?_
  show own_Run p e below s₁ (mkF m 7 #[.val (.long q0), .second, .val (.long q0), .second] [(.long (own_ushrL q0 (30 : Int32))), (.long q0)]) _
  refine own_step (fun t k => XS.lxor X0.here hx rfl (hb hby own_d1_7) rfl k) ?_
  show own_Run p e below s₁ (mkF m 8 #[.val (.long q0), .second, .val (.long q0), .second] [(.long (q0 ^^^ (own_ushrL q0 (30 : Int32))))]) _
  refine own_step (fun t k => X0.ldc2Long hx hown (mvT hZ (hw _ (List.mem_of_getElem? (i := 4) rfl))) (g := (mkF m 8 #[.val (.long q0), .second, .val (.long q0), .second] [(.long (q0 ^^^ (own_ushrL q0 (30 : Int32))))])) rfl (hb hby own_d1_8) t k) ?_
  show own_Run p e below s₁ (mkF m 11 #[.val (.long q0), .second, .val (.long q0), .second] [(.long (-4658895280553007687 : Int64)), (.long (q0 ^^^ (own_ushrL q0 (30 : Int32))))]) _
  refine own_step (fun t k => XS.lmul X0.here hx rfl (hb hby own_d1_11) rfl k) ?_
  show own_Run p e below s₁ (mkF m 12 #[.val (.long q0), .second, .val (.long q0), .second] [(.long ((q0 ^^^ (own_ushrL q0 (30 : Int32))) * (-4658895280553007687 : Int64)))]) _
  refine own_step (fun t k => XS.lstoreN X0.here hx rfl (hb hby own_d1_12) rfl (l' := #[.val (.long q0), .second, .val (.long (own_f1_12 q0)), .second]) rfl k) ?_
  show own_Run p e below s₁ (mkF m 13 #[.val (.long q0), .second, .val (.long (own_f1_12 q0)), .second] []) _
  refine own_step (fun t k => XS.lloadN X0.here hx rfl (hb hby own_d1_13) rfl  k) ?_
  show own_Run p e below s₁ (mkF m 14 #[.val (.long q0), .second, .val (.long (own_f1_12 q0)), .second] [(.long (own_f1_12 q0))]) _
  refine own_step (fun t k => XS.lloadN X0.here hx rfl (hb hby own_d1_14) rfl  k) ?_
  show own_Run p e below s₁ (mkF m 15 #[.val (.long q0), .second, .val (.long (own_f1_12 q0)), .second] [(.long (own_f1_12 q0)), (.long (own_f1_12 q0))]) _
  refine own_step (fun t k => XS.bipush X0.here hx rfl (hb hby own_d1_15) k) ?_
  show own_Run p e below s₁ (mkF m 17 #[.val (.long q0), .second, .val (.long (own_f1_12 q0)), .second] [(.int (27 : Int32)), (.long (own_f1_12 q0)), (.long (own_f1_12 q0))]) _
  refine own_step (fun t k => XS.lushr X0.here hx rfl (hb hby own_d1_17) rfl k) ?_
  show own_Run p e below s₁ (mkF m 18 #[.val (.long q0), .second, .val (.long (own_f1_12 q0)), .second] [(.long (own_ushrL (own_f1_12 q0) (27 : Int32))), (.long (own_f1_12 q0))]) _
  refine own_step (fun t k => XS.lxor X0.here hx rfl (hb hby own_d1_18) rfl k) ?_
  show own_Run p e below s₁ (mkF m 19 #[.val (.long q0), .second, .val (.long (own_f1_12 q0)), .second] [(.long ((own_f1_12 q0) ^^^ (own_ushrL (own_f1_12 q0) (27 : Int32))))]) _
  refine own_step (fun t k => X0.ldc2Long hx hown (mvT hZ (hw _ (List.mem_of_getElem? (i := 5) rfl))) (g := (mkF m 19 #[.val (.long q0), .second, .val (.long (own_f1_12 q0)), .second] [(.long ((own_f1_12 q0) ^^^ (own_ushrL (own_f1_12 q0) (27 : Int32))))])) rfl (hb hby own_d1_19) t k) ?_
  show own_Run p e below s₁ (mkF m 22 #[.val (.long q0), .second, .val (.long (own_f1_12 q0)), .second] [(.long (-7723592293110705685 : Int64)), (.long ((own_f1_12 q0) ^^^ (own_ushrL (own_f1_12 q0) (27 : Int32))))]) _
  refine own_step (fun t k => XS.lmul X0.here hx rfl (hb hby own_d1_22) rfl k) ?_
  show own_Run p e below s₁ (mkF m 23 #[.val (.long q0), .second, .val (.long (own_f1_12 q0)), .second] [(.long (((own_f1_12 q0) ^^^ (own_ushrL (own_f1_12 q0) (27 : Int32))) * (-7723592293110705685 : Int64)))]) _
  refine own_step (fun t k => XS.lstoreN X0.here hx rfl (hb hby own_d1_23) rfl (l' := #[.val (.long q0), .second, .val (.long (own_f1_23 q0)), .second]) rfl k) ?_
  show own_Run p e below s₁ (mkF m 24 #[.val (.long q0), .second, .val (.long (own_f1_23 q0)), .second] []) _
  refine own_step (fun t k => XS.lloadN X0.here hx rfl (hb hby own_d1_24) rfl  k) ?_
  show own_Run p e below s₁ (mkF m 25 #[.val (.long q0), .second, .val (.long (own_f1_23 q0)), .second] [(.long (own_f1_23 q0))]) _
  refine own_step (fun t k => XS.lloadN X0.here hx rfl (hb hby own_d1_25) rfl  k) ?_
  show own_Run p e below s₁ (mkF m 26 #[.val (.long q0), .second, .val (.long (own_f1_23 q0)), .second] [(.long (own_f1_23 q0)), (.long (own_f1_23 q0))]) _
  refine own_step (fun t k => XS.bipush X0.here hx rfl (hb hby own_d1_26) k) ?_
  show own_Run p e below s₁ (mkF m 28 #[.val (.long q0), .second, .val (.long (own_f1_23 q0)), .second] [(.int (31 : Int32)), (.long (own_f1_23 q0)), (.long (own_f1_23 q0))]) _
  refine own_step (fun t k => XS.lushr X0.here hx rfl (hb hby own_d1_28) rfl k) ?_
  show own_Run p e below s₁ (mkF m 29 #[.val (.long q0), .second, .val (.long (own_f1_23 q0)), .second] [(.long (own_ushrL (own_f1_23 q0) (31 : Int32))), (.long (own_f1_23 q0))]) _
  refine own_step (fun t k => XS.lxor X0.here hx rfl (hb hby own_d1_29) rfl k) ?_
  show own_Run p e below s₁ (mkF m 30 #[.val (.long q0), .second, .val (.long (own_f1_23 q0)), .second] [(.long ((own_f1_23 q0) ^^^ (own_ushrL (own_f1_23 q0) (31 : Int32))))]) _
  exact own_retJ X0 hx hlk hret (hb hby own_d1_30) (by decide) (by decide) N0 e0
def own_f0_j17_S0 (q0 : Int64) : Int32 := (if (lcmpW (own_r2 (own_r1 q0)) q0) = (0 : Int32) then (1 : Int32) else (0 : Int32))
def own_f0_j36_S0 (q1 : Int64) : Int32 := (if (lcmpW (own_r1 (own_r2 q1)) q1) = (0 : Int32) then (1 : Int32) else (0 : Int32))
def own_f0_j53_S0 (q0 : Int64) (q1 : Int64) : Int32 := (if (own_f0_j17_S0 q0) = (0 : Int32) then (0 : Int32) else (if (own_f0_j36_S0 q1) = (0 : Int32) then (0 : Int32) else (1 : Int32)))
def own_r0 (q0 : Int64) (q1 : Int64) : Int32 := (nar .boolean (own_f0_j53_S0 q0 q1))
theorem own_ef0 (m : MethodId) (q0 : Int64) (q1 : Int64) : entryFrame m #[(.long q0), (.long q1)] maxLocals = (mkF m 0 #[.val (.long q0), .second, .val (.long q1), .second, .unset, .unset] []) := by first | (simp [entryFrame, mkF, argsToLocals, Value.category, maxLocals]; done) | rfl
set_option maxRecDepth 65536 in
set_option maxHeartbeats 40000000 in
theorem rm0 (l : Launch) (Z : State) (a0 : Array Value) (hw : ∀ d ∈ tables_1, d.before a0 Z = true) (ws : List Jvm.Cond) (q0 : Int64) (q1 : Int64) (h0 : Heap) (n0 : Nat) (Z0 : n0 ≤ h0.size) :
    MetFree l x (head1 (Jvm.Cond.code x code maxLocals ret :: ws) room_1) (fun a U => a = #[(.long q0), (.long q1)] ∧ Z.Warmed39 U.vm ∧ U.heap = h0) (fun _ _ _ _ _ => True) (fun _ U o U' => ∃ v L, o = .returned v ∧ own_Q n0 (fun _ => True) (some (.int (own_r0 q0 q1))) v U'.heap L ∧ FrameEnd U o U' L room_1.cells room_1.slots) := by
  refine MetFree.of_bodySF (plainFor_of_name own_pn0) hisR ?_
  intro p e s m args below meth c s₁ Bd hml0 hP hK
  obtain ⟨rfl, hZ, hh⟩ := hP
  have hx := Bd.exec
  have hby := Bd.bytes
  have hml : c.maxLocals = 6 := hml0
  have hown : s.vm.findClass "com/example/surefoot/surefoot/SplitMixMixPinLaw" = some m.cls := findClass_of_methodNamed Bd.named
  have hnm := (name_of_methodNamed Bd.named Bd.method).1
  have hret := Bd.returns
  have hlk : meth.locks = false := BodyLoose.notSynchronized Bd
  have X0 : Stand p l e room_1 s m #[(.long q0), (.long q1)] below meth c s₁ [] 0 0 := Stand.of_body Bd
  have e0 : s₁.heap = h0 := by rw [← hh, Bd.state]; rfl
  have N0 := Fr.nil n0
  clear Bd hh hK
  refine own_fin ?_
  refine own_entry (own_ef0 m q0 q1) ?_
  show own_Run p e below s₁ _ (own_Ret _ s below _ _ (own_Q n0 _ (some (.int (nar .boolean (own_f0_j53_S0 q0 q1))))))
  show own_Run p e below s₁ (mkF m 0 #[.val (.long q0), .second, .val (.long q1), .second, .unset, .unset] []) _
  refine own_step (fun t k => XS.lloadN X0.here hx rfl (hb hby at_0) rfl  k) ?_
  show own_Run p e below s₁ (mkF m 1 #[.val (.long q0), .second, .val (.long q1), .second, .unset, .unset] [(.long q0)]) _
  obtain ⟨_, _, ⟨T12, L12, kq12, nq12⟩, -, X12, ⟨Lc12, hQ12, lq12, yq12, zq12⟩, st12⟩ := Jvm.LawKit.callS X0 hx (y := (⟨"com/example/surefoot/surefoot/SplitMix", "mix", "(J)J"⟩ : MethodName)) hown (mvT hZ (hw _ (List.mem_of_getElem? (i := 0) rfl))) (mvT hZ (hw _ (List.mem_of_getElem? (i := 1) rfl))) (mvT hZ (hw _ (List.mem_of_getElem? (i := 2) rfl))) (mvT hZ (hw _ (List.mem_of_getElem? (i := 3) rfl))) (by decide) (backOf (W := 0) (rm1 l Z a0 hw [] q0 h0 n0 Z0 ) hZ (hw _ (List.mem_of_getElem? (i := 3) rfl)) (hw _ (List.mem_of_getElem? (i := 2) rfl)) (by decide) (by decide)) (g := (mkF m 1 #[.val (.long q0), .second, .val (.long q1), .second, .unset, .unset] [(.long q0)])) rfl (by rw [hml]; rfl) (argsL := [(.long q0)]) (rest := []) (lenOf own_pd52 rfl) rfl (by show 2 * 0 + _ ≤ _; exact Nat.le_of_eq rfl) (hb hby at_1) (fun _ _ => ⟨rfl, e0, (by decide : 0 + 0 ≤ _), (by decide : 0 + 0 ≤ _)⟩)
  dsimp only [Pt.U, Pt.locs, Pt.cells, Pt.slots] at X12 lq12 yq12 zq12 st12 hQ12
  subst lq12 yq12 zq12
  obtain ⟨rfl, N12q, e12⟩ := hQ12
  have N12 := Fr.app N0 N12q
  refine own_step st12 ?_
  show own_Run p e below T12 (mkF m 4 #[.val (.long q0), .second, .val (.long q1), .second, .unset, .unset] [(.long (own_r1 q0))]) _
  obtain ⟨_, _, ⟨T13, L13, kq13, nq13⟩, -, X13, ⟨Lc13, hQ13, lq13, yq13, zq13⟩, st13⟩ := Jvm.LawKit.callS X12 hx (y := (⟨"com/example/surefoot/surefoot/SplitMixMixPinLaw", "unmix", "(J)J"⟩ : MethodName)) hown (mvT hZ (hw _ (List.mem_of_getElem? (i := 6) rfl))) (mvT hZ (hw _ (List.mem_of_getElem? (i := 7) rfl))) (mvT hZ (hw _ (List.mem_of_getElem? (i := 8) rfl))) (mvT hZ (hw _ (List.mem_of_getElem? (i := 9) rfl))) (by decide) (backOf (W := 0) (rm2 l Z a0 hw [] (own_r1 q0) h0 n0 Z0 ) hZ (hw _ (List.mem_of_getElem? (i := 9) rfl)) (hw _ (List.mem_of_getElem? (i := 8) rfl)) (by decide) (by decide)) (g := (mkF m 4 #[.val (.long q0), .second, .val (.long q1), .second, .unset, .unset] [(.long (own_r1 q0))])) rfl (by rw [hml]; rfl) (argsL := [(.long (own_r1 q0))]) (rest := []) (lenOf own_pd52 rfl) rfl (by show 2 * 0 + _ ≤ _; exact Nat.le_of_eq rfl) (hb hby at_4) (fun _ _ => ⟨rfl, e12, (by decide : 0 + 0 ≤ _), (by decide : 0 + 0 ≤ _)⟩)
  dsimp only [Pt.U, Pt.locs, Pt.cells, Pt.slots] at X13 lq13 yq13 zq13 st13 hQ13
  subst lq13 yq13 zq13
  obtain ⟨rfl, N13q, e13⟩ := hQ13
  have N13 := Fr.app N12 N13q
  refine own_step st13 ?_
  show own_Run p e below T13 (mkF m 7 #[.val (.long q0), .second, .val (.long q1), .second, .unset, .unset] [(.long (own_r2 (own_r1 q0)))]) _
  refine own_step (fun t k => XS.lloadN X13.here hx rfl (hb hby at_7) rfl  k) ?_
  show own_Run p e below T13 (mkF m 8 #[.val (.long q0), .second, .val (.long q1), .second, .unset, .unset] [(.long q0), (.long (own_r2 (own_r1 q0)))]) _
  refine own_step (fun t k => XS.lcmp X13.here hx rfl (hb hby at_8) rfl k) ?_
  show own_Run p e below T13 (mkF m 9 #[.val (.long q0), .second, .val (.long q1), .second, .unset, .unset] [(.int (lcmpW (own_r2 (own_r1 q0)) q0))]) _
  obtain ⟨_, st14, rfl⟩ : own_Run p e below T13 (mkF m 9 #[.val (.long q0), .second, .val (.long q1), .second, .unset, .unset] [(.int (lcmpW (own_r2 (own_r1 q0)) q0))]) (fun t => t = T13.setTop (mkF m 17 #[.val (.long q0), .second, .val (.long q1), .second, .unset, .unset] [(.int (own_f0_j17_S0 q0))])) := by
    by_cases hc15 : (lcmpW (own_r2 (own_r1 q0)) q0) = (0 : Int32)
    · refine own_step (fun t k => XS.ifNo X13.here hx rfl (hb hby at_9) rfl ((if0 _ _).trans (teq hc15).2) k) ?_
      show own_Run p e below T13 (mkF m 12 #[.val (.long q0), .second, .val (.long q1), .second, .unset, .unset] []) _
      refine own_step (fun t k => XS.iconst X13.here hx rfl (hb hby at_12) k) ?_
      show own_Run p e below T13 (mkF m 13 #[.val (.long q0), .second, .val (.long q1), .second, .unset, .unset] [(.int (1 : Int32))]) _
      refine own_step (fun t k => XS.goto X13.here hx rfl (pc0 := 13) (pc' := 17) rfl (hb hby at_13) (by decide) (by decide) k) ?_
      show own_Run p e below T13 (mkF m 17 #[.val (.long q0), .second, .val (.long q1), .second, .unset, .unset] [(.int (1 : Int32))]) _
      have hj0 : (own_f0_j17_S0 q0) = (1 : Int32) := (if_pos hc15)
      exact own_here (by rw [hj0])
    · refine own_step (fun t k => XS.ifYes X13.here hx rfl (pc0 := 9) (pc' := 16) rfl (hb hby at_9) rfl ((if0 _ _).trans (feq hc15).2) (by decide) (by decide) k) ?_
      show own_Run p e below T13 (mkF m 16 #[.val (.long q0), .second, .val (.long q1), .second, .unset, .unset] []) _
      refine own_step (fun t k => XS.iconst X13.here hx rfl (hb hby at_16) k) ?_
      show own_Run p e below T13 (mkF m 17 #[.val (.long q0), .second, .val (.long q1), .second, .unset, .unset] [(.int (0 : Int32))]) _
      have hj0 : (own_f0_j17_S0 q0) = (0 : Int32) := (if_neg hc15)
      exact own_here (by rw [hj0])
  refine own_tr st14 ?_
  show own_Run p e below T13 (mkF m 17 #[.val (.long q0), .second, .val (.long q1), .second, .unset, .unset] [(.int (own_f0_j17_S0 q0))]) _
  refine own_step (fun t k => XS.istore X13.here hx rfl (hb hby at_17) rfl (l' := #[.val (.long q0), .second, .val (.long q1), .second, .val (.int (own_f0_j17_S0 q0)), .unset]) rfl k) ?_
  show own_Run p e below T13 (mkF m 19 #[.val (.long q0), .second, .val (.long q1), .second, .val (.int (own_f0_j17_S0 q0)), .unset] []) _
  refine own_step (fun t k => XS.lloadN X13.here hx rfl (hb hby at_19) rfl  k) ?_
  show own_Run p e below T13 (mkF m 20 #[.val (.long q0), .second, .val (.long q1), .second, .val (.int (own_f0_j17_S0 q0)), .unset] [(.long q1)]) _
  obtain ⟨_, _, ⟨T16, L16, kq16, nq16⟩, -, X16, ⟨Lc16, hQ16, lq16, yq16, zq16⟩, st16⟩ := Jvm.LawKit.callS X13 hx (y := (⟨"com/example/surefoot/surefoot/SplitMixMixPinLaw", "unmix", "(J)J"⟩ : MethodName)) hown (mvT hZ (hw _ (List.mem_of_getElem? (i := 6) rfl))) (mvT hZ (hw _ (List.mem_of_getElem? (i := 7) rfl))) (mvT hZ (hw _ (List.mem_of_getElem? (i := 8) rfl))) (mvT hZ (hw _ (List.mem_of_getElem? (i := 9) rfl))) (by decide) (backOf (W := 0) (rm2 l Z a0 hw [] q1 h0 n0 Z0 ) hZ (hw _ (List.mem_of_getElem? (i := 9) rfl)) (hw _ (List.mem_of_getElem? (i := 8) rfl)) (by decide) (by decide)) (g := (mkF m 20 #[.val (.long q0), .second, .val (.long q1), .second, .val (.int (own_f0_j17_S0 q0)), .unset] [(.long q1)])) rfl (by rw [hml]; rfl) (argsL := [(.long q1)]) (rest := []) (lenOf own_pd52 rfl) rfl (by show 2 * 0 + _ ≤ _; exact Nat.le_of_eq rfl) (hb hby at_20) (fun _ _ => ⟨rfl, e13, (by decide : 0 + 0 ≤ _), (by decide : 0 + 0 ≤ _)⟩)
  dsimp only [Pt.U, Pt.locs, Pt.cells, Pt.slots] at X16 lq16 yq16 zq16 st16 hQ16
  subst lq16 yq16 zq16
  obtain ⟨rfl, N16q, e16⟩ := hQ16
  have N16 := Fr.app N13 N16q
  refine own_step st16 ?_
  show own_Run p e below T16 (mkF m 23 #[.val (.long q0), .second, .val (.long q1), .second, .val (.int (own_f0_j17_S0 q0)), .unset] [(.long (own_r2 q1))]) _
  obtain ⟨_, _, ⟨T17, L17, kq17, nq17⟩, -, X17, ⟨Lc17, hQ17, lq17, yq17, zq17⟩, st17⟩ := Jvm.LawKit.callS X16 hx (y := (⟨"com/example/surefoot/surefoot/SplitMix", "mix", "(J)J"⟩ : MethodName)) hown (mvT hZ (hw _ (List.mem_of_getElem? (i := 0) rfl))) (mvT hZ (hw _ (List.mem_of_getElem? (i := 1) rfl))) (mvT hZ (hw _ (List.mem_of_getElem? (i := 2) rfl))) (mvT hZ (hw _ (List.mem_of_getElem? (i := 3) rfl))) (by decide) (backOf (W := 0) (rm1 l Z a0 hw [] (own_r2 q1) h0 n0 Z0 ) hZ (hw _ (List.mem_of_getElem? (i := 3) rfl)) (hw _ (List.mem_of_getElem? (i := 2) rfl)) (by decide) (by decide)) (g := (mkF m 23 #[.val (.long q0), .second, .val (.long q1), .second, .val (.int (own_f0_j17_S0 q0)), .unset] [(.long (own_r2 q1))])) rfl (by rw [hml]; rfl) (argsL := [(.long (own_r2 q1))]) (rest := []) (lenOf own_pd52 rfl) rfl (by show 2 * 0 + _ ≤ _; exact Nat.le_of_eq rfl) (hb hby at_23) (fun _ _ => ⟨rfl, e16, (by decide : 0 + 0 ≤ _), (by decide : 0 + 0 ≤ _)⟩)
  dsimp only [Pt.U, Pt.locs, Pt.cells, Pt.slots] at X17 lq17 yq17 zq17 st17 hQ17
  subst lq17 yq17 zq17
  obtain ⟨rfl, N17q, e17⟩ := hQ17
  have N17 := Fr.app N16 N17q
  refine own_step st17 ?_
  show own_Run p e below T17 (mkF m 26 #[.val (.long q0), .second, .val (.long q1), .second, .val (.int (own_f0_j17_S0 q0)), .unset] [(.long (own_r1 (own_r2 q1)))]) _
  refine own_step (fun t k => XS.lloadN X17.here hx rfl (hb hby at_26) rfl  k) ?_
  show own_Run p e below T17 (mkF m 27 #[.val (.long q0), .second, .val (.long q1), .second, .val (.int (own_f0_j17_S0 q0)), .unset] [(.long q1), (.long (own_r1 (own_r2 q1)))]) _
  refine own_step (fun t k => XS.lcmp X17.here hx rfl (hb hby at_27) rfl k) ?_
  show own_Run p e below T17 (mkF m 28 #[.val (.long q0), .second, .val (.long q1), .second, .val (.int (own_f0_j17_S0 q0)), .unset] [(.int (lcmpW (own_r1 (own_r2 q1)) q1))]) _
  obtain ⟨_, st18, rfl⟩ : own_Run p e below T17 (mkF m 28 #[.val (.long q0), .second, .val (.long q1), .second, .val (.int (own_f0_j17_S0 q0)), .unset] [(.int (lcmpW (own_r1 (own_r2 q1)) q1))]) (fun t => t = T17.setTop (mkF m 36 #[.val (.long q0), .second, .val (.long q1), .second, .val (.int (own_f0_j17_S0 q0)), .unset] [(.int (own_f0_j36_S0 q1))])) := by
    by_cases hc19 : (lcmpW (own_r1 (own_r2 q1)) q1) = (0 : Int32)
    · refine own_step (fun t k => XS.ifNo X17.here hx rfl (hb hby at_28) rfl ((if0 _ _).trans (teq hc19).2) k) ?_
      show own_Run p e below T17 (mkF m 31 #[.val (.long q0), .second, .val (.long q1), .second, .val (.int (own_f0_j17_S0 q0)), .unset] []) _
      refine own_step (fun t k => XS.iconst X17.here hx rfl (hb hby at_31) k) ?_
      show own_Run p e below T17 (mkF m 32 #[.val (.long q0), .second, .val (.long q1), .second, .val (.int (own_f0_j17_S0 q0)), .unset] [(.int (1 : Int32))]) _
      refine own_step (fun t k => XS.goto X17.here hx rfl (pc0 := 32) (pc' := 36) rfl (hb hby at_32) (by decide) (by decide) k) ?_
      show own_Run p e below T17 (mkF m 36 #[.val (.long q0), .second, .val (.long q1), .second, .val (.int (own_f0_j17_S0 q0)), .unset] [(.int (1 : Int32))]) _
      have hj0 : (own_f0_j36_S0 q1) = (1 : Int32) := (if_pos hc19)
      exact own_here (by rw [hj0])
    · refine own_step (fun t k => XS.ifYes X17.here hx rfl (pc0 := 28) (pc' := 35) rfl (hb hby at_28) rfl ((if0 _ _).trans (feq hc19).2) (by decide) (by decide) k) ?_
      show own_Run p e below T17 (mkF m 35 #[.val (.long q0), .second, .val (.long q1), .second, .val (.int (own_f0_j17_S0 q0)), .unset] []) _
      refine own_step (fun t k => XS.iconst X17.here hx rfl (hb hby at_35) k) ?_
      show own_Run p e below T17 (mkF m 36 #[.val (.long q0), .second, .val (.long q1), .second, .val (.int (own_f0_j17_S0 q0)), .unset] [(.int (0 : Int32))]) _
      have hj0 : (own_f0_j36_S0 q1) = (0 : Int32) := (if_neg hc19)
      exact own_here (by rw [hj0])
  refine own_tr st18 ?_
  show own_Run p e below T17 (mkF m 36 #[.val (.long q0), .second, .val (.long q1), .second, .val (.int (own_f0_j17_S0 q0)), .unset] [(.int (own_f0_j36_S0 q1))]) _
  refine own_step (fun t k => XS.istore X17.here hx rfl (hb hby at_36) rfl (l' := #[.val (.long q0), .second, .val (.long q1), .second, .val (.int (own_f0_j17_S0 q0)), .val (.int (own_f0_j36_S0 q1))]) rfl k) ?_
  show own_Run p e below T17 (mkF m 38 #[.val (.long q0), .second, .val (.long q1), .second, .val (.int (own_f0_j17_S0 q0)), .val (.int (own_f0_j36_S0 q1))] []) _
  refine own_step (fun t k => XS.iload X17.here hx rfl (hb hby at_38) rfl  k) ?_
  show own_Run p e below T17 (mkF m 40 #[.val (.long q0), .second, .val (.long q1), .second, .val (.int (own_f0_j17_S0 q0)), .val (.int (own_f0_j36_S0 q1))] [(.int (own_f0_j17_S0 q0))]) _
  obtain ⟨_, st20, rfl⟩ : own_Run p e below T17 (mkF m 40 #[.val (.long q0), .second, .val (.long q1), .second, .val (.int (own_f0_j17_S0 q0)), .val (.int (own_f0_j36_S0 q1))] [(.int (own_f0_j17_S0 q0))]) (fun t => t = T17.setTop (mkF m 53 #[.val (.long q0), .second, .val (.long q1), .second, .val (.int (own_f0_j17_S0 q0)), .val (.int (own_f0_j36_S0 q1))] [(.int (own_f0_j53_S0 q0 q1))])) := by
    by_cases hc21 : (own_f0_j17_S0 q0) = (0 : Int32)
    · refine own_step (fun t k => XS.ifYes X17.here hx rfl (pc0 := 40) (pc' := 52) rfl (hb hby at_40) rfl ((if0 _ _).trans (teq hc21).1) (by decide) (by decide) k) ?_
      show own_Run p e below T17 (mkF m 52 #[.val (.long q0), .second, .val (.long q1), .second, .val (.int (own_f0_j17_S0 q0)), .val (.int (own_f0_j36_S0 q1))] []) _
      refine own_step (fun t k => XS.iconst X17.here hx rfl (hb hby at_52) k) ?_
      show own_Run p e below T17 (mkF m 53 #[.val (.long q0), .second, .val (.long q1), .second, .val (.int (own_f0_j17_S0 q0)), .val (.int (own_f0_j36_S0 q1))] [(.int (0 : Int32))]) _
      have hj0 : (own_f0_j53_S0 q0 q1) = (0 : Int32) := (if_pos hc21)
      exact own_here (by rw [hj0])
    · refine own_step (fun t k => XS.ifNo X17.here hx rfl (hb hby at_40) rfl ((if0 _ _).trans (feq hc21).1) k) ?_
      show own_Run p e below T17 (mkF m 43 #[.val (.long q0), .second, .val (.long q1), .second, .val (.int (own_f0_j17_S0 q0)), .val (.int (own_f0_j36_S0 q1))] []) _
      refine own_step (fun t k => XS.iload X17.here hx rfl (hb hby at_43) rfl  k) ?_
      show own_Run p e below T17 (mkF m 45 #[.val (.long q0), .second, .val (.long q1), .second, .val (.int (own_f0_j17_S0 q0)), .val (.int (own_f0_j36_S0 q1))] [(.int (own_f0_j36_S0 q1))]) _
      by_cases hc22 : (own_f0_j36_S0 q1) = (0 : Int32)
      · refine own_step (fun t k => XS.ifYes X17.here hx rfl (pc0 := 45) (pc' := 52) rfl (hb hby at_45) rfl ((if0 _ _).trans (teq hc22).1) (by decide) (by decide) k) ?_
        show own_Run p e below T17 (mkF m 52 #[.val (.long q0), .second, .val (.long q1), .second, .val (.int (own_f0_j17_S0 q0)), .val (.int (own_f0_j36_S0 q1))] []) _
        refine own_step (fun t k => XS.iconst X17.here hx rfl (hb hby at_52) k) ?_
        show own_Run p e below T17 (mkF m 53 #[.val (.long q0), .second, .val (.long q1), .second, .val (.int (own_f0_j17_S0 q0)), .val (.int (own_f0_j36_S0 q1))] [(.int (0 : Int32))]) _
        have hj0 : (own_f0_j53_S0 q0 q1) = (0 : Int32) := ((if_neg hc21).trans (if_pos hc22))
        exact own_here (by rw [hj0])
      · refine own_step (fun t k => XS.ifNo X17.here hx rfl (hb hby at_45) rfl ((if0 _ _).trans (feq hc22).1) k) ?_
        show own_Run p e below T17 (mkF m 48 #[.val (.long q0), .second, .val (.long q1), .second, .val (.int (own_f0_j17_S0 q0)), .val (.int (own_f0_j36_S0 q1))] []) _
        refine own_step (fun t k => XS.iconst X17.here hx rfl (hb hby at_48) k) ?_
        show own_Run p e below T17 (mkF m 49 #[.val (.long q0), .second, .val (.long q1), .second, .val (.int (own_f0_j17_S0 q0)), .val (.int (own_f0_j36_S0 q1))] [(.int (1 : Int32))]) _
        refine own_step (fun t k => XS.goto X17.here hx rfl (pc0 := 49) (pc' := 53) rfl (hb hby at_49) (by decide) (by decide) k) ?_
        show own_Run p e below T17 (mkF m 53 #[.val (.long q0), .second, .val (.long q1), .second, .val (.int (own_f0_j17_S0 q0)), .val (.int (own_f0_j36_S0 q1))] [(.int (1 : Int32))]) _
        have hj0 : (own_f0_j53_S0 q0 q1) = (1 : Int32) := ((if_neg hc21).trans (if_neg hc22))
        exact own_here (by rw [hj0])
  refine own_tr st20 ?_
  show own_Run p e below T17 (mkF m 53 #[.val (.long q0), .second, .val (.long q1), .second, .val (.int (own_f0_j17_S0 q0)), .val (.int (own_f0_j36_S0 q1))] [(.int (own_f0_j53_S0 q0 q1))]) _
  exact own_retZ X17 hx hlk hret (hb hby at_53) (by decide) (by decide) N17 trivial
theorem own_us (x : Int64) (k : Int32) {n : Nat} (hn : ((k &&& 0x3f).toInt64.toUInt64.toBitVec % 64#64).toNat = n) : (own_ushrL x k).toBitVec = x.toBitVec >>> n := by
  show x.toBitVec >>> ((k &&& 0x3f).toInt64.toUInt64.toBitVec % 64#64) = _
  rw [BitVec.ushiftRight_eq', hn]
theorem own_xor4 (a b c : BitVec 64) : (a ^^^ b) ^^^ (b ^^^ c) ^^^ (c ^^^ 0#64) = a := by
  ext i hi
  simp only [BitVec.getElem_xor, BitVec.getElem_zero]
  cases a[i] <;> cases b[i] <;> cases c[i] <;> rfl
theorem own_xor5 (a b c : BitVec 64) : (a ^^^ b ^^^ c) ^^^ (b ^^^ c ^^^ 0#64) = a := by
  ext i hi
  simp only [BitVec.getElem_xor, BitVec.getElem_zero]
  cases a[i] <;> cases b[i] <;> cases c[i] <;> rfl
theorem own_big (z : BitVec 64) {n : Nat} (h : 64 ≤ n) : z >>> n = 0#64 := by
  ext i hi
  simp only [BitVec.getElem_ushiftRight, BitVec.getElem_zero]
  exact BitVec.getLsbD_of_ge _ _ (by omega)
theorem own_fw (z : BitVec 64) (n : Nat) (h : 64 ≤ n + (n + n)) : (z ^^^ z >>> n) ^^^ (z ^^^ z >>> n) >>> n ^^^ (z ^^^ z >>> n) >>> (n + n) = z := by
  rw [BitVec.ushiftRight_xor_distrib, BitVec.ushiftRight_xor_distrib, ← BitVec.shiftRight_add, ← BitVec.shiftRight_add, own_big z h]
  exact own_xor4 z (z >>> n) (z >>> (n + n))
theorem own_bw (z : BitVec 64) (n : Nat) (h : 64 ≤ n + n + n) : (z ^^^ z >>> n ^^^ z >>> (n + n)) ^^^ (z ^^^ z >>> n ^^^ z >>> (n + n)) >>> n = z := by
  rw [BitVec.ushiftRight_xor_distrib, BitVec.ushiftRight_xor_distrib, ← BitVec.shiftRight_add, ← BitVec.shiftRight_add, own_big z h]
  exact own_xor5 z (z >>> n) (z >>> (n + n))
/-- the xor-shift undone, and done again -/
theorem own_fwd (z : Int64) (k k2 : Int32) (n : Nat) (h1 : ((k &&& 0x3f).toInt64.toUInt64.toBitVec % 64#64).toNat = n) (h2 : ((k2 &&& 0x3f).toInt64.toUInt64.toBitVec % 64#64).toNat = n + n) (h : 64 ≤ n + (n + n)) :
    ((z ^^^ own_ushrL z k) ^^^ own_ushrL (z ^^^ own_ushrL z k) k) ^^^ own_ushrL (z ^^^ own_ushrL z k) k2 = z := by
  apply Int64.toBitVec_inj.mp
  rw [Int64.toBitVec_xor, Int64.toBitVec_xor, own_us _ k2 h2, own_us _ k h1, Int64.toBitVec_xor, own_us _ k h1]
  exact own_fw z.toBitVec n h
theorem own_bwd (z : Int64) (k k2 : Int32) (n : Nat) (h1 : ((k &&& 0x3f).toInt64.toUInt64.toBitVec % 64#64).toNat = n) (h2 : ((k2 &&& 0x3f).toInt64.toUInt64.toBitVec % 64#64).toNat = n + n) (h : 64 ≤ n + n + n) :
    ((z ^^^ own_ushrL z k) ^^^ own_ushrL z k2) ^^^ own_ushrL ((z ^^^ own_ushrL z k) ^^^ own_ushrL z k2) k = z := by
  apply Int64.toBitVec_inj.mp
  rw [Int64.toBitVec_xor, own_us _ k h1, Int64.toBitVec_xor, Int64.toBitVec_xor, own_us _ k2 h2, own_us _ k h1]
  exact own_bw z.toBitVec n h
theorem own_c1 : (-4658895280553007687 : Int64) * own_r3 (-4658895280553007687 : Int64) = 1 := by decide +kernel
theorem own_c2 : (-7723592293110705685 : Int64) * own_r3 (-7723592293110705685 : Int64) = 1 := by decide +kernel
theorem own_c1' : own_r3 (-4658895280553007687 : Int64) * (-4658895280553007687 : Int64) = 1 := by decide +kernel
theorem own_c2' : own_r3 (-7723592293110705685 : Int64) * (-7723592293110705685 : Int64) = 1 := by decide +kernel
theorem own_there (z : Int64) : own_r2 (own_r1 z) = z := by
  have f31 : own_f2_13 (own_r1 z) = own_f1_23 z := own_fwd (own_f1_23 z) 31 62 31 (by decide) (by decide) (by decide)
  have m2 : own_f2_22 (own_r1 z) = own_f1_12 z ^^^ own_ushrL (own_f1_12 z) 27 := by
    unfold own_f2_22; rw [f31]; unfold own_f1_23; rw [Int64.mul_assoc, own_c2, Int64.mul_one]
  have f27 : own_f2_34 (own_r1 z) = own_f1_12 z := by
    unfold own_f2_34; rw [m2]; exact own_fwd (own_f1_12 z) 27 54 27 (by decide) (by decide) (by decide)
  have m1 : own_f2_43 (own_r1 z) = z ^^^ own_ushrL z 30 := by
    unfold own_f2_43; rw [f27]; unfold own_f1_12; rw [Int64.mul_assoc, own_c1, Int64.mul_one]
  show own_f2_55 (own_r1 z) = z
  unfold own_f2_55; rw [m1]; exact own_fwd z 30 60 30 (by decide) (by decide) (by decide)
theorem own_back (z : Int64) : own_r1 (own_r2 z) = z := by
  have e0 : own_r2 z = own_f2_55 z := rfl
  have b30 : (own_f2_55 z) ^^^ own_ushrL (own_f2_55 z) 30 = own_f2_43 z := own_bwd (own_f2_43 z) 30 60 30 (by decide) (by decide) (by decide)
  have m1 : own_f1_12 (own_f2_55 z) = own_f2_34 z := by
    unfold own_f1_12; rw [b30]; unfold own_f2_43; rw [Int64.mul_assoc, own_c1', Int64.mul_one]
  have b27 : (own_f2_34 z) ^^^ own_ushrL (own_f2_34 z) 27 = own_f2_22 z := own_bwd (own_f2_22 z) 27 54 27 (by decide) (by decide) (by decide)
  have m2 : own_f1_23 (own_f2_55 z) = own_f2_13 z := by
    unfold own_f1_23; rw [m1, b27]; unfold own_f2_22; rw [Int64.mul_assoc, own_c2', Int64.mul_one]
  rw [e0]; unfold own_r1; rw [m2]; exact own_bwd z 31 62 31 (by decide) (by decide) (by decide)
theorem own_plain (q0 q1 : Int64) : own_r0 q0 q1 = 1 := by
  have a : own_f0_j17_S0 q0 = 1 := if_pos ((lw_eq _ _).mpr (own_there q0))
  have b : own_f0_j36_S0 q1 = 1 := if_pos ((lw_eq _ _).mpr (own_back q1))
  unfold own_r0 own_f0_j53_S0; rw [a, b]; rfl

set_option maxRecDepth 65536 in
set_option maxHeartbeats 40000000 in
theorem own_comes {Post : Tables → Env → Array Value → State → Outcome → State → Prop} (hpost : ∀ tb e args s v u, (limb_1_1.after args s (.returned v) u = true ∧ limb_1_2.after args s (.returned v) u = true ∧ True) → FrameEnd s (.returned v) u (Jvm.fieldLocs frame_1_writes args s ++ Jvm.arrayLocs frame_1_arrays args s ++ Jvm.staticLocs frame_1_statics s) 0 0 → Post tb e args s (.returned v) u) :
    ArmFor flags0 classFile x code maxLocals ret World_1 tables_1 room_1 Calls_1 rest_1 Pre_1 Post := by
  intro l hfl _ _ p e ha hc hk s m args below hf hA hF happ hP
  obtain ⟨hcalls, hrest, hpre⟩ := hP
  obtain ⟨-, -, -, hnamed, -, -, -, hat⟩ := (Spec.applies_iff hf).mp happ
  obtain ⟨hg, hn⟩ := and_e (Cond.before_iff.mp (show (Jvm.Cond.and given_1 narrow_1).before args s = true from hpre))
  obtain ⟨gc, g0⟩ := and_e hg
  obtain ⟨v0, g1⟩ := and_e g0
  obtain ⟨w0, w1, rfl⟩ : ∃ w0 w1 : Value, args = #[w0, w1] := by
    have hs : args.size = 2 := by simpa [Cond.value, given_1] using gc
    obtain ⟨L⟩ := args
    match L, hs with
    | [w0, w1], _ => exact ⟨w0, w1, rfl⟩
  have hw := fun d (hd : d ∈ tables_1) => atoms_spec (ws := Jvm.Cond.code x code maxLocals ret :: tables_1) hat d (List.mem_cons_of_mem _ hd)
  obtain ⟨i0, ei0⟩ := isL_v v0
  obtain rfl : w0 = (.long i0) := Option.some.inj ei0
  obtain ⟨i1, ei1⟩ := isL_v g1
  obtain rfl : w1 = (.long i1) := Option.some.inj ei1
  obtain ⟨n, o, h1, h2, h3, _, L, rfl, ⟨rfl, N, -⟩, hq⟩ := rm0 l s _ hw tables_1 i0 i1  s.heap s.heap.size (Nat.le_refl _)  p e ha hc hk s m _ below hf ((Spec.applies_iff_loose hf).mp happ).1 ⟨rfl, State.Warmed39.refl s, rfl⟩ trivial
  have hv : own_r0 i0 i1 = 1 := own_plain i0 i1
  refine ⟨n, _, h1, h2, h3, hpost _ _ _ _ _ _ ⟨Cond.after_iff.mpr rfl, Cond.after_iff.mpr (eq_i res_at (Term.int_eval (1)) (congrArg Value.int hv)), trivial⟩ ⟨hq.1, hq.2.1, (hq.2.2.sift fun y hy => Or.inr (N y hy)).mono (by decide) (by decide)⟩⟩
theorem main_1_1 : Claimed_1_1 := own_comes fun _ _ _ _ _ _ h hF => ⟨h.1, hF⟩
theorem main_1_2 : Claimed_1_2 := own_comes fun _ _ _ _ _ _ h hF => ⟨h.2.1, hF⟩
end Jvm.Pilot.@@N@@
namespace Jvm.Pilot.@@N@@
open Jvm Jvm.ClassFile Sem Op Lib Jvm.Free Jvm.Stand Jvm.Pilot.@@N@@.Jvm.D
/-! MADE BY PROGRAM (witnessworld.py) out of the Statement's table words and the real class files: 7 classes; the members and pool entries that the words name. The judged class is class 1, her method 3. -/
namespace start1
open Jvm.ClassFile
def u (s : String) : CpInfo := .utf8 (stringToUtf16 s)
/-- a pool by its gaps: so many unusable entries, then the entry; so many at the end -/
def gap : Nat → List CpInfo → List CpInfo
  | 0, r => r
  | n + 1, r => .unusable :: gap n r
def poolList (es : List (Nat × CpInfo)) (last : Nat) : List CpInfo := es.foldr (fun e r => gap e.1 (e.2 :: r)) (gap last [])
def pool (es : List (Nat × CpInfo)) (last : Nat) : Array CpInfo := ⟨poolList es last⟩
def fileOf (pool : Array CpInfo) (this : Nat) (attrs : Array Attribute := #[]) (ms : Array MethodInfo := #[]) (fl : Nat := 33) (sup : Nat := 0) (ifs : Array Nat := #[]) (fds : Array FieldInfo := #[]) : ClassFile where
  minorVersion := 0
  majorVersion := 65
  constantPool := pool
  accessFlags := fl
  thisClass := this
  superClass := sup
  interfaces := ifs
  fields := fds
  methods := ms
  attributes := attrs
def plain (name : String) (sup : Option ClassId) : Class where
  name := name
  kind := .ordinary
  loader := none
  accessFlags := 33
  super := sup
  interfaces := #[]
  cf := none
  fields := #[]
  methods := #[]
  instanceTypes := #[]
  staticTypes := #[]
  resolved := #[]
  callSites := []
  init := .initialized
  statics := none
  mirror := none

def pool0 : Array CpInfo := pool [(5, u "<init>"), (0, u "()V"), (1, .class_ 10), (1, u "java/lang/Object")] 113

def k0m0 : Method := { name := "<init>", desc := "()V", sig := { parameters := [], returnType := none }, accessFlags := 1, code := none }
/-- java/lang/Object -/
def k0 : Class := { plain "java/lang/Object" none with
  accessFlags := 33
  interfaces := #[]
  cf := some (fileOf pool0 8 #[] #[{ accessFlags := 1, nameIndex := 5, descriptorIndex := 6, attributes := #[] }] 33 0 #[] #[])
  fields := #[]
  methods := #[k0m0]
  instanceTypes := #[]
  staticTypes := #[]
  resolved := Array.replicate 124 none
  statics := none }

def pool1 : Array CpInfo := pool [(2, .class_ 4), (1, u "java/lang/Object"), (0, u "<init>"), (0, u "()V"), (0, .long 2), (1, .long 10723151780598845931), (1, .methodref 12 13), (0, .class_ 14), (0, .nameAndType 15 16), (0, u "com/example/surefoot/surefoot/SplitMixMixPinLaw"), (0, u "inverse"), (0, u "(J)J"), (0, .long 13787848793156543929), (1, .methodref 20 21), (0, .class_ 22), (0, .nameAndType 23 16), (0, u "com/example/surefoot/surefoot/SplitMix"), (0, u "mix"), (0, .methodref 12 25), (0, .nameAndType 26 16), (0, u "unmix"), (2, u "law"), (0, u "(JJ)Z")] 3

def k1m0 : Method := { name := "<init>", desc := "()V", sig := { parameters := [], returnType := none }, accessFlags := 2, code := none }
def k1c1 : Code := { maxStack := 8, maxLocals := 4, code := method_2_code, exceptionTable := #[], attributes := #[] }
def k1m1 : Method := { name := "inverse", desc := "(J)J", sig := { parameters := [.long], returnType := some .long }, accessFlags := 10, code := some k1c1 }
def k1c2 : Code := { maxStack := 5, maxLocals := 4, code := method_3_code, exceptionTable := #[], attributes := #[] }
def k1m2 : Method := { name := "unmix", desc := "(J)J", sig := { parameters := [.long], returnType := some .long }, accessFlags := 10, code := some k1c2 }
def k1c3 : Code := { maxStack := 4, maxLocals := 6, code := code, exceptionTable := #[], attributes := #[] }
def k1m3 : Method := { name := "law", desc := "(JJ)Z", sig := { parameters := [.long, .long], returnType := some .boolean }, accessFlags := 9, code := some k1c3 }
/-- com/example/surefoot/surefoot/SplitMixMixPinLaw -/
def k1 : Class := { plain "com/example/surefoot/surefoot/SplitMixMixPinLaw" (some 0) with
  accessFlags := 49
  interfaces := #[]
  cf := some (fileOf pool1 12 #[] #[{ accessFlags := 2, nameIndex := 5, descriptorIndex := 6, attributes := #[] }, { accessFlags := 10, nameIndex := 15, descriptorIndex := 16, attributes := #[] }, { accessFlags := 10, nameIndex := 26, descriptorIndex := 16, attributes := #[] }, { accessFlags := 9, nameIndex := 29, descriptorIndex := 30, attributes := #[] }] 49 2 #[] #[])
  fields := #[]
  methods := #[k1m0, k1m1, k1m2, k1m3]
  instanceTypes := #[]
  staticTypes := #[]
  resolved := Array.replicate 34 none
  statics := none }

def pool2 : Array CpInfo := pool [(2, .class_ 4), (1, u "java/lang/Object"), (0, u "<init>"), (0, u "()V"), (0, .long 13787848793156543929), (1, .long 10723151780598845931), (2, .class_ 14), (1, u "com/example/surefoot/surefoot/SplitMix"), (0, u "mix"), (0, u "(J)J"), (2, u "GAMMA"), (0, u "J")] 10

def k2m0 : Method := { name := "<init>", desc := "()V", sig := { parameters := [], returnType := none }, accessFlags := 2, code := none }
def k2c1 : Code := { maxStack := 5, maxLocals := 4, code := prog_23_method_2_code, exceptionTable := #[], attributes := #[] }
def k2m1 : Method := { name := "mix", desc := "(J)J", sig := { parameters := [.long], returnType := some .long }, accessFlags := 8, code := some k2c1 }
/-- com/example/surefoot/surefoot/SplitMix -/
def k2 : Class := { plain "com/example/surefoot/surefoot/SplitMix" (some 0) with
  accessFlags := 48
  interfaces := #[]
  cf := some (fileOf pool2 12 #[] #[{ accessFlags := 2, nameIndex := 5, descriptorIndex := 6, attributes := #[] }, { accessFlags := 8, nameIndex := 15, descriptorIndex := 16, attributes := #[] }] 48 2 #[] #[{ accessFlags := 24, nameIndex := 19, descriptorIndex := 20, attributes := #[] }])
  fields := #[{ name := "GAMMA", type := .long, accessFlags := 24, slot := 0, constantValue := 0 }]
  methods := #[k2m0, k2m1]
  instanceTypes := #[]
  staticTypes := #[.long]
  resolved := Array.replicate 31 none
  statics := none }

def pool3 : Array CpInfo := pool [(1, u "java/lang/Cloneable"), (0, .class_ 1), (0, u "java/lang/Object"), (0, .class_ 3)] 3

/-- java/lang/Cloneable -/
def k3 : Class := { plain "java/lang/Cloneable" (some 0) with
  accessFlags := 1537
  interfaces := #[]
  cf := some (fileOf pool3 2 #[] #[] 1537 4 #[] #[])
  fields := #[]
  methods := #[]
  instanceTypes := #[]
  staticTypes := #[]
  resolved := Array.replicate 8 none
  statics := none }

def pool4 : Array CpInfo := pool [(1, u "java/io/Serializable"), (0, .class_ 1), (0, u "java/lang/Object"), (0, .class_ 3)] 3

/-- java/io/Serializable -/
def k4 : Class := { plain "java/io/Serializable" (some 0) with
  accessFlags := 1537
  interfaces := #[]
  cf := some (fileOf pool4 2 #[] #[] 1537 4 #[] #[])
  fields := #[]
  methods := #[]
  instanceTypes := #[]
  staticTypes := #[]
  resolved := Array.replicate 8 none
  statics := none }

/-- the primitive byte -/
def k5 : Class := { plain "byte" none with kind := .primitive 'B', accessFlags := 0x411 }
/-- [B -/
def k6 : Class := { plain "[B" (some 0) with kind := .array 5 .byte, interfaces := #[3, 4], accessFlags := 1041 }

def heap : Heap := #[]
def classes : Array Class := #[k0, k1, k2, k3, k4, k5, k6]
def interned : List (Array UInt16 × Addr) := []
def slotsUsed : Nat := 0
def theMethod : MethodId := ⟨1, 3⟩
def args0 : Array Value := #[.long 5, .long 7]
def aboutOver (below : List Frame) : State where
  vm := { classes := classes, interned := interned.toArray }
  heap := heap
  slotsUsed := slotsUsed
  threads := #[{ frames := .invoking theMethod args0 :: below }]
def below0 : List Frame := [.native { method := ⟨0, 0⟩, args := #[] }]
def about1 : State := aboutOver below0
def p0 : Program := .bare "" "" ""
def e0 : Env := launch0.env 0 0 0
theorem w_frames : about1.frames = Frame.invoking theMethod args0 :: below0 := rfl
set_option maxRecDepth 65536 in
theorem w_args : argsFit about1.vm theMethod args0 = true := by decide +kernel
set_option maxRecDepth 65536 in
theorem w_heap : heapFits about1 = true := by decide +kernel
set_option maxRecDepth 65536 in
theorem w_runnable : about1.curStatus? = some .runnable := by decide +kernel
set_option maxRecDepth 65536 in
theorem w_alone : about1.alone = true := by decide +kernel
set_option maxRecDepth 65536 in
theorem w_named : about1.methodNamed? x = some theMethod := by decide +kernel
set_option maxRecDepth 65536 in
theorem w_hears : about1.hears theMethod below0 = true := by decide +kernel
set_option maxRecDepth 65536 in
theorem w_ripe : about1.ripe theMethod args0 below0 = true := by decide +kernel
theorem w_running : about1.status = .running := rfl
set_option maxRecDepth 65536 in
theorem w_room : about1.hasRoom e0.platform room_1 = true :=
  launch0.hasRoom_least _ room_1 (by decide +kernel) (by decide +kernel) (by decide +kernel) (by decide +kernel) (by decide +kernel) (by decide +kernel)
theorem allAtoms_all (ts : List Jvm.Cond) (a : Array Jvm.Value) (st : Jvm.State) : (allAtoms ts).before a st = ts.all (fun c => c.before a st) := by
  induction ts with
  | nil => rfl
  | cons c t ih =>
    show (Jvm.Cond.and c (allAtoms t)).before a st = _
    rw [Jvm.Cond.before_and, ih, List.all_cons]
def words1 : List Jvm.Cond := Jvm.Cond.code x code maxLocals ret :: tables_1
/-- a 'code' word, met by the world's own term for the bytes: nothing is compared byte by byte -/
theorem code_word {y : MethodName} {bytes : ByteArray} {mx : Nat} {rt : Option FieldType} {a : Array Value} {s : State} {m : MethodId} {meth : Method} {c : Code} (h1 : s.methodNamed? y = some m) (h2 : s.vm.method? m = some meth) (h3 : meth.code = some c) (h4 : c.code = bytes)
    (h5 : (c.maxLocals == mx && c.exceptionTable.isEmpty && decide (c.maxStack ≤ mostOperands) && decide (meth.sig.returnType = rt) && !meth.locks && decide (parseMethodDescriptor y.desc = some meth.sig)) = true) : (Jvm.Cond.code y bytes mx rt).before a s = true := by
  simp only [Bool.and_eq_true, beq_iff_eq, Bool.not_eq_true', decide_eq_true_eq] at h5
  obtain ⟨⟨⟨⟨⟨g1, g2⟩, g3⟩, g4⟩, g5⟩, g6⟩ := h5
  simp [Cond.before, Cond.holds, Cond.value, h1, h2, h3, h4, g1, g2, g3, g4, g5, g6]
def isCode : Jvm.Cond → Bool
  | .code _ _ _ _ => true
  | _ => false
theorem all_split {L : List Jvm.Cond} {P : Jvm.Cond → Bool} (h1 : L.all (fun c => isCode c || P c) = true) (h2 : ∀ c ∈ L.filter isCode, P c = true) : L.all P = true := by
  refine List.all_eq_true.mpr fun c hc => ?_
  have h := List.all_eq_true.mp h1 c hc
  rcases Bool.eq_false_or_eq_true (isCode c) with hi | hi
  · exact h2 c (List.mem_filter.mpr ⟨hc, hi⟩)
  · simpa [hi] using h
set_option maxRecDepth 65536 in
theorem w_c0 : (Jvm.Cond.code x code maxLocals ret).before args0 about1 = true := code_word (m := ⟨1, 3⟩) (meth := k1m3) (c := k1c3) (by decide +kernel) rfl rfl rfl (by decide +kernel)
set_option maxRecDepth 65536 in
theorem w_c1 : (Jvm.Cond.code ({ cls := "com/example/surefoot/surefoot/SplitMix", name := "mix", desc := "(J)J" } : Jvm.MethodName) prog_23_method_2_code (4 : Nat) (Option.some Jvm.ClassFile.FieldType.long)).before args0 about1 = true := code_word (m := ⟨2, 1⟩) (meth := k2m1) (c := k2c1) (by decide +kernel) rfl rfl rfl (by decide +kernel)
set_option maxRecDepth 65536 in
theorem w_c2 : (Jvm.Cond.code ({ cls := "com/example/surefoot/surefoot/SplitMixMixPinLaw", name := "unmix", desc := "(J)J" } : Jvm.MethodName) method_3_code (4 : Nat) (Option.some Jvm.ClassFile.FieldType.long)).before args0 about1 = true := code_word (m := ⟨1, 2⟩) (meth := k1m2) (c := k1c2) (by decide +kernel) rfl rfl rfl (by decide +kernel)
set_option maxRecDepth 65536 in
theorem w_c3 : (Jvm.Cond.code ({ cls := "com/example/surefoot/surefoot/SplitMixMixPinLaw", name := "inverse", desc := "(J)J" } : Jvm.MethodName) method_2_code (4 : Nat) (Option.some Jvm.ClassFile.FieldType.long)).before args0 about1 = true := code_word (m := ⟨1, 1⟩) (meth := k1m1) (c := k1c1) (by decide +kernel) rfl rfl rfl (by decide +kernel)
def codes1 : List Jvm.Cond := [Jvm.Cond.code x code maxLocals ret, Jvm.Cond.code ({ cls := "com/example/surefoot/surefoot/SplitMix", name := "mix", desc := "(J)J" } : Jvm.MethodName) prog_23_method_2_code (4 : Nat) (Option.some Jvm.ClassFile.FieldType.long), Jvm.Cond.code ({ cls := "com/example/surefoot/surefoot/SplitMixMixPinLaw", name := "unmix", desc := "(J)J" } : Jvm.MethodName) method_3_code (4 : Nat) (Option.some Jvm.ClassFile.FieldType.long), Jvm.Cond.code ({ cls := "com/example/surefoot/surefoot/SplitMixMixPinLaw", name := "inverse", desc := "(J)J" } : Jvm.MethodName) method_2_code (4 : Nat) (Option.some Jvm.ClassFile.FieldType.long)]
set_option maxRecDepth 65536 in
theorem codes_eq : words1.filter isCode = codes1 := rfl
theorem w_codes : ∀ c ∈ words1.filter isCode, c.before args0 about1 = true := by
  rw [codes_eq]
  intro c hc
  simp only [codes1, List.mem_cons, List.not_mem_nil, or_false] at hc
  rcases hc with rfl | rfl | rfl | rfl
  · exact w_c0
  · exact w_c1
  · exact w_c2
  · exact w_c3
set_option maxRecDepth 65536 in
theorem w_t1 : words1.all (fun c => isCode c || c.before args0 about1) = true := by decide +kernel
theorem w_tables : (allAtoms (Jvm.Cond.code x code maxLocals ret :: tables_1)).before args0 about1 = true := by
  rw [allAtoms_all]
  show words1.all (fun c => c.before args0 about1) = true
  refine all_split ?_ w_codes
  rw [w_t1]
set_option maxRecDepth 65536 in
theorem w_case : (Jvm.Cond.and given_1 narrow_1).before args0 about1 = true := by decide +kernel
theorem w_applies : (headSpec (Jvm.Cond.code x code maxLocals ret :: tables_1) room_1).applies x e0.platform about1 = true :=
  (Spec.applies_iff w_frames).mpr ⟨w_running, w_runnable, w_alone, w_named, w_hears, w_ripe, w_room, w_tables⟩
theorem atStart : AtStart classFile x code maxLocals ret World_1 tables_1 room_1 Calls_1 rest_1 Pre_1 launch0 p0 e0 about1 theMethod args0 below0 :=
  ⟨lists_1, trivial, launch0.admits_env _ _ _, launch0.least_env, fairChoices_fair.cas, fairChoices_fair.clock, w_frames, w_args, w_heap, w_applies, trivial, trivial, w_case⟩
end start1
theorem witness_1 : WitnessClaimed_1 := ⟨start1.p0, start1.e0, start1.about1, start1.theMethod, start1.args0, start1.below0, start1.atStart⟩
end Jvm.Pilot.@@N@@
