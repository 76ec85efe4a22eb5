import JvmDerived
import JvmDerived.Pilot.@@N@@Statement
import JvmDerived.Pilot.@@N@@Code
set_option linter.unusedVariables false
set_option linter.unusedSimpArgs false
@@BLOCK:NumsL.lean.txt@@
namespace Jvm.RoadKit
open Sem ClassFile Op Lib Jvm.Stand Jvm.Free Jvm.LawKit
section New
variable {p : Program} {l : Launch} {e : Env} {R : Room} {s : State} {m : MethodId} {args : Array Value} {below : List Frame} {meth : Method} {c : Code} {T : State} {locs : List Loc} {cells slots : Nat}
theorem retI (X : Stand p l e R s m args below meth c T locs cells slots) (hx : p.tables.exec = Jvm.exec) {pc : Nat} {Ls : Array Slot} {z : Int32} {rest : List Value} (hret : meth.sig.returnType = some .int) (hd : decode c.code pc = .ok (.ireturn, 1)) {fs : List Frame}
    (hl : ∀ (f : JFrame) (acts : List Action), f.method = m → f.locked = none → f.entered = [] → (doReturn e (T.setTop f) acts (some (.int z))).1 = T.setFrames fs) : Steps p.tables e below (T.setTop (mkF m pc Ls (.int z :: rest))) (T.setFrames fs) := by
  have hm' : T.vm.method? m = some meth := X.method'
  have hn : narrow .int (.int z) = .int z := rfl
  show Steps p.tables e below (T.setTop { method := m, pc := pc, locals := Ls, stack := _ :: rest, locked := none }) _
  jvm_step X.here [X.here.top, hx, hd, hm', hret, hn]
  first | (intro acts; rw [hl _ acts rfl rfl rfl]) | rw [hl _ _ rfl rfl rfl]
  exact Steps.refl _
end New
end Jvm.RoadKit
namespace Jvm.Pilot.@@N@@
open Jvm Jvm.ClassFile Sem Op Lib Jvm.Free Jvm.Stand Jvm.LawKit Jvm.RoadKit Bundle Jvm.Pilot.@@N@@.Jvm.D
/-! own: Java's shifts and remainders, written short -/
def own_shl (x y : Int32) : Int32 := x <<< (y &&& 31)
def own_shr (x y : Int32) : Int32 := x >>> (y &&& 31)
def own_ushr (x y : Int32) : Int32 := (x.toUInt32 >>> (y &&& 31).toUInt32).toInt32
def own_shlL (x : Int64) (y : Int32) : Int64 := x <<< (y &&& 0x3f).toInt64
def own_shrL (x : Int64) (y : Int32) : Int64 := x >>> (y &&& 0x3f).toInt64
def own_ushrL (x : Int64) (y : Int32) : Int64 := (x.toUInt64 >>> (y &&& 0x3f).toInt64.toUInt64).toInt64
def own_rem (x y : Int32) : Int32 := x - (x / y) * y
def own_remL (x y : Int64) : Int64 := x - (x / y) * y
theorem own_rem_nn {x y : Int32} (hx : 0 ≤ x.toInt) (hy : 0 < y.toInt) : (own_rem x y).toInt = x.toInt % y.toInt := by
  have hd : (x / y).toInt = x.toInt / y.toInt := by
    rw [Jvm.Kit.i32_div (by omega), Int.tdiv_eq_ediv_of_nonneg hx]
  have b1 := Int.emod_add_mul_ediv x.toInt y.toInt
  have b2 := Int.emod_nonneg x.toInt (by omega : y.toInt ≠ 0)
  have b3 := Int.emod_lt_of_pos x.toInt hy
  have b4 : 0 ≤ x.toInt / y.toInt := Int.ediv_nonneg hx (by omega)
  have hX := Int32.toInt_lt x
  have b5 : 0 ≤ y.toInt * (x.toInt / y.toInt) := Int.mul_nonneg (by omega) b4
  have hm : ((x / y) * y).toInt = y.toInt * (x.toInt / y.toInt) := by
    rw [Jvm.Kit.i32_mul (by rw [hd, Int.mul_comm]; omega) (by rw [hd, Int.mul_comm]; omega), hd, Int.mul_comm]
  unfold own_rem
  rw [Jvm.Kit.i32_sub (by rw [hm]; omega) (by rw [hm]; omega), hm]; omega
/-! own: a run from a frame to what 'Post' says -/
section OwnRun
variable {p : Program} {l : Launch} {e : Env} {R : Room} {s : State} {m : MethodId} {args : Array Value} {below : List Frame} {meth : Method} {c : Code} {T T' : State} {locs : List Loc} {cells slots : Nat} {g g' : JFrame} {Post : State → Prop} {n0 : Nat} {P : Heap → Prop} {C S : Nat} {Z : State} {h : Heap} {a : Addr} {k : ClassId} {n j : Int32} {vs : List Value} {d v : Value} {E : State → Outcome → State → List Loc → Nat → Nat → Prop}
def own_Run (p : Program) (e : Env) (below : List Frame) (T : State) (g : JFrame) (Post : State → Prop) : Prop := ∃ t, Steps p.tables e below (T.setTop g) t ∧ Post t
theorem own_step (st : ∀ t, Steps p.tables e below (T'.setTop g') t → Steps p.tables e below (T.setTop g) t) (h : own_Run p e below T' g' Post) : own_Run p e below T g Post := h.imp fun t k => ⟨st t k.1, k.2⟩
theorem own_tr (st : Steps p.tables e below (T.setTop g) (T'.setTop g')) (h : own_Run p e below T' g' Post) : own_Run p e below T g Post := h.imp fun t k => ⟨st.trans k.1, k.2⟩
theorem own_here (h : Post (T.setTop g)) : own_Run p e below T g Post := ⟨_, Steps.refl _, h⟩
theorem own_entry {Q : State → Prop} (q : g = g') (h : own_Run p e below T g' Q) : own_Run p e below T g Q := q ▸ h
def own_Q (n0 : Nat) (P : Heap → Prop) (w : Option Value) : Option Value → Heap → List Loc → Prop := fun v h L => v = w ∧ Fr n0 L ∧ P h
def own_Ret (E : State → Outcome → State → List Loc → Nat → Nat → Prop) (U : State) (below : List Frame) (C S : Nat) (Q : Option Value → Heap → List Loc → Prop) : State → Prop := fun t => t.status = .running ∧ ∃ o, Ended t below o ∧ ∃ v L, o = .returned v ∧ Q v t.heap L ∧ E U o t L C S
theorem own_fin {Q : Option Value → Heap → List Loc → Prop} (h : own_Run p e below T g (own_Ret E s below C S Q)) : ∃ s₂ o, Steps p.tables e below (T.setTop g) s₂ ∧ s₂.status = .running ∧ Ended s₂ below o ∧ ∃ v L, o = .returned v ∧ Q v s₂.heap L ∧ E s o s₂ L C S := by
  obtain ⟨t, st, hr, o, he, r⟩ := h; exact ⟨t, o, st, hr, he, r⟩
theorem own_vi {x y : Int32} (q : x = y) (h : own_Run p e below T g (own_Ret E s below C S (own_Q n0 P (some (.int y))))) : own_Run p e below T g (own_Ret E s below C S (own_Q n0 P (some (.int x)))) := q ▸ h
theorem own_vj {x y : Int64} (q : x = y) (h : own_Run p e below T g (own_Ret E s below C S (own_Q n0 P (some (.long y))))) : own_Run p e below T g (own_Ret E s below C S (own_Q n0 P (some (.long x)))) := q ▸ h
theorem own_leave {w : Option Value} (X : Stand p l e R s m args below meth c T locs cells slots) (hv : meth.sig.returnType = none → w = none) (hlk : meth.locks = false) (hC : cells ≤ C) (hS : slots ≤ S) (N : Fr n0 locs) (hP : P T.heap)
    (st : ∀ fs, (∀ (f : JFrame) (acts : List Action), f.method = m → f.locked = none → f.entered = [] → (doReturn e (T.setTop f) acts w).1 = T.setFrames fs) → Steps p.tables e below (T.setTop g) (T.setFrames fs)) : own_Run p e below T g (own_Ret FrameEnd s below C S (own_Q n0 P w)) := by
  obtain ⟨fs, hr, hrun, hended, hW, hsame⟩ := X.leave (v := w) hv hlk
  exact ⟨_, st fs hr, hrun, _, hended, _, _, rfl, ⟨rfl, N, hP⟩, ⟨_, rfl⟩, hW, hsame.mono hC hS⟩
theorem own_retZ (X : Stand p l e R s m args below meth c T locs cells slots) (hx : p.tables.exec = Jvm.exec) (hlk : meth.locks = false) {pc : Nat} {Ls : Array Slot} {z : Int32} {rest : List Value} (hret : meth.sig.returnType = some .boolean) (hd : decode c.code pc = .ok (.ireturn, 1)) (hC : cells ≤ C) (hS : slots ≤ S) (N : Fr n0 locs) (hP : P T.heap) :
    own_Run p e below T (mkF m pc Ls (.int z :: rest)) (own_Ret FrameEnd s below C S (own_Q n0 P (some (.int (nar .boolean z))))) :=
  own_leave X (fun q => by rw [hret] at q; cases q) hlk hC hS N hP fun fs hr => retN X hx (t := .boolean) hret (by simp) hd hr
theorem own_retI (X : Stand p l e R s m args below meth c T locs cells slots) (hx : p.tables.exec = Jvm.exec) (hlk : meth.locks = false) {pc : Nat} {Ls : Array Slot} {z : Int32} {rest : List Value} (hret : meth.sig.returnType = some .int) (hd : decode c.code pc = .ok (.ireturn, 1)) (hC : cells ≤ C) (hS : slots ≤ S) (N : Fr n0 locs) (hP : P T.heap) :
    own_Run p e below T (mkF m pc Ls (.int z :: rest)) (own_Ret FrameEnd s below C S (own_Q n0 P (some (.int z)))) :=
  own_leave X (fun q => by rw [hret] at q; cases q) hlk hC hS N hP fun fs hr => retI X hx hret hd hr
theorem own_retJ (X : Stand p l e R s m args below meth c T locs cells slots) (hx : p.tables.exec = Jvm.exec) (hlk : meth.locks = false) {pc : Nat} {Ls : Array Slot} {z : Int64} (hret : meth.sig.returnType = some .long) (hd : decode c.code pc = .ok (.lreturn, 1)) (hC : cells ≤ C) (hS : slots ≤ S) (N : Fr n0 locs) (hP : P T.heap) :
    own_Run p e below T (mkF m pc Ls [.long z]) (own_Ret FrameEnd s below C S (own_Q n0 P (some (.long z)))) :=
  own_leave X (fun q => by rw [hret] at q; cases q) hlk hC hS N hP fun fs hr => X.lreturnOut hx hret hd hr
theorem own_retD (X : Stand p l e R s m args below meth c T locs cells slots) (hx : p.tables.exec = Jvm.exec) (hlk : meth.locks = false) {pc : Nat} {Ls : Array Slot} {z : UInt64} {rest : List Value} (hret : meth.sig.returnType = some .double) (hd : decode c.code pc = .ok (.dreturn, 1)) (hC : cells ≤ C) (hS : slots ≤ S) (N : Fr n0 locs) (hP : P T.heap) :
    own_Run p e below T (mkF m pc Ls (.double z :: rest)) (own_Ret FrameEnd s below C S (own_Q n0 P (some (.double z)))) :=
  own_leave X (fun q => by rw [hret] at q; cases q) hlk hC hS N hP fun fs hr => retOut X hx (i := .dreturn) hret rfl (Or.inr (Or.inr (Or.inl ⟨rfl, rfl, z, rfl⟩))) hd hr
theorem own_retV (X : Stand p l e R s m args below meth c T locs cells slots) (hx : p.tables.exec = Jvm.exec) (hlk : meth.locks = false) {pc : Nat} {Ls : Array Slot} (hret : meth.sig.returnType = none) (hd : decode c.code pc = .ok (.return_, 1)) (hC : cells ≤ C) (hS : slots ≤ S) (N : Fr n0 locs) (hP : P T.heap) :
    own_Run p e below T (mkF m pc Ls []) (own_Ret FrameEnd s below C S (own_Q n0 P none)) :=
  own_leave X (fun _ => rfl) hlk hC hS N hP fun fs hr => X.returnOut hx hret hd hr
theorem own_retA (X : Stand p l e R s m args below meth c T locs cells slots) (hx : p.tables.exec = Jvm.exec) (hlk : meth.locks = false) {pc : Nat} {Ls : Array Slot} {w : Value} {t : FieldType} (hret : meth.sig.returnType = some t) (ht : t.isReference = true) (hw : w.isRef = true) (hd : decode c.code pc = .ok (.areturn, 1)) (hC : cells ≤ C) (hS : slots ≤ S) (N : Fr n0 locs) (hP : P T.heap) :
    own_Run p e below T (mkF m pc Ls [w]) (own_Ret FrameEnd s below C S (own_Q n0 P (some w))) :=
  own_leave X (fun q => by rw [hret] at q; cases q) hlk hC hS N hP fun fs hr => X.areturnOut hx hw hret ht hd hr
/-! own: the same where the walk may have loaded a String constant (the tables may hold a new pair) -/
theorem own_mixW {U t : State} {o : Outcome} {L : List Loc} {k n k' n' : Nat} (h : ReturnedEndW U o t L k n) (hk : k ≤ k') (hn : n ≤ n') : ReturnedEndW U o t L k' n' := ⟨h.1, h.2.1, h.2.2.1, h.2.2.2.mono hk hn⟩
theorem own_leaveW {vm₁ : Vm} {n : Nat} {w : Option Value} (X : Stand p l e R (s.setVm vm₁) m args below meth c T locs cells slots) (hS : s.Since vm₁ n) (hn : n ≤ T.heap.size) (hv : meth.sig.returnType = none → w = none) (hlk : meth.locks = false) (hC : cells ≤ C) (hSl : slots ≤ S) (N : Fr n0 locs) (hP : P T.heap)
    (st : ∀ fs, (∀ (f : JFrame) (acts : List Action), f.method = m → f.locked = none → f.entered = [] → (doReturn e (T.setTop f) acts w).1 = T.setFrames fs) → Steps p.tables e below (T.setTop g) (T.setFrames fs)) : own_Run p e below T g (own_Ret ReturnedEndW s below C S (own_Q n0 P w)) := by
  obtain ⟨fs, hr, hrun, hended, hW⟩ := X.leaveW hS hn (v := w) hv hlk
  exact ⟨_, st fs hr, hrun, _, hended, _, _, rfl, ⟨rfl, N, hP⟩, own_mixW hW hC hSl⟩
theorem own_retZW {vm₁ : Vm} {n : Nat} (X : Stand p l e R (s.setVm vm₁) m args below meth c T locs cells slots) (hx : p.tables.exec = Jvm.exec) (hlk : meth.locks = false) {pc : Nat} {Ls : Array Slot} {z : Int32} {rest : List Value} (hret : meth.sig.returnType = some .boolean) (hd : decode c.code pc = .ok (.ireturn, 1)) (hC : cells ≤ C) (hSl : slots ≤ S) (N : Fr n0 locs) (hP : P T.heap) (hS : s.Since vm₁ n) (hn : n ≤ T.heap.size) :
    own_Run p e below T (mkF m pc Ls (.int z :: rest)) (own_Ret ReturnedEndW s below C S (own_Q n0 P (some (.int (nar .boolean z))))) :=
  own_leaveW X hS hn (fun q => by rw [hret] at q; cases q) hlk hC hSl N hP fun fs hr => retN X hx (t := .boolean) hret (by simp) hd hr
theorem own_retVW {vm₁ : Vm} {n : Nat} (X : Stand p l e R (s.setVm vm₁) m args below meth c T locs cells slots) (hx : p.tables.exec = Jvm.exec) (hlk : meth.locks = false) {pc : Nat} {Ls : Array Slot} (hret : meth.sig.returnType = none) (hd : decode c.code pc = .ok (.return_, 1)) (hC : cells ≤ C) (hSl : slots ≤ S) (N : Fr n0 locs) (hP : P T.heap) (hS : s.Since vm₁ n) (hn : n ≤ T.heap.size) :
    own_Run p e below T (mkF m pc Ls []) (own_Ret ReturnedEndW s below C S (own_Q n0 P none)) :=
  own_leaveW X hS hn (fun _ => rfl) hlk hC hSl N hP fun fs hr => X.returnOut hx hret hd hr
/-- no static's home -/
def own_Pl (h : Heap) (a : Addr) : Prop := ∃ c : Cell, h[a]? = some c ∧ c.vm.isStatics = false
theorem own_plV {ty : FieldType} (F : Arv Z h a k ty n vs d) : own_Pl h a := by obtain ⟨c, A, -⟩ := F; exact ⟨c, A.1, A.plain⟩
theorem own_plE {Cn : String} (F : Exa Z h a Cn) : own_Pl h a := by obtain ⟨c, kk, h1, -, -, h4, -⟩ := F; exact ⟨c, h1, h4⟩
theorem own_keepS {h' : Heap} {ws : List Addr} {Cn fn dn : String} (F : Sta Z h Cn fn dn v) (K : Keep h h' ws) (A : ∀ a ∈ ws, own_Pl h a) : Sta Z h' Cn fn dn v := by
  obtain ⟨cf, i, kk, f, st, cell, h1, h2, h3, h4, h5, h6, h7⟩ := F
  refine ⟨cf, i, kk, f, st, cell, h1, h2, h3, h4, K.2.1 st cell h5 (fun hm => ?_), h6, h7⟩
  obtain ⟨c, q1, q2⟩ := A st hm
  cases h5.symm.trans q1; rw [q2] at h6; cases h6
/-! own: an array's component, by its Arv -/
theorem own_ldI (X : Stand p l e R s m args below meth c T locs cells slots) (hx : p.tables.exec = Jvm.exec) (hZ : Z.Warmed39 s.vm) (eT : T.heap = h) (F : Arv Z h a k .int n vs d) (q : ¬ j < 0 ∧ j < n) (u : vs.getD j.toNatClampNeg d = v) (hg : g.method = m) {rest : List Value} (hs : g.stack = .int j :: .ref a :: rest) (hd : decode c.code g.pc = .ok (.iaload, 1)) :
    ∀ t, Steps p.tables e below (T.setTop { g with pc := g.pc + 1, stack := v :: rest }) t → Steps p.tables e below (T.setTop g) t := by
  obtain ⟨cl, Ar, -, Sz, -, Hs, -⟩ := F
  exact fun t kt => X.iaload hx (by rw [eT]; exact Ar.1) (State.isArrayOf_alike hZ.alike Ar.2.1) Ar.2.2 (inb_of Sz q) (Hs.at (inb_of Sz q) u) hg hs hd t kt
theorem own_ldJ (X : Stand p l e R s m args below meth c T locs cells slots) (hx : p.tables.exec = Jvm.exec) (hZ : Z.Warmed39 s.vm) (eT : T.heap = h) (F : Arv Z h a k .long n vs d) (q : ¬ j < 0 ∧ j < n) (u : vs.getD j.toNatClampNeg d = v) (hg : g.method = m) {rest : List Value} (hs : g.stack = .int j :: .ref a :: rest) (hd : decode c.code g.pc = .ok (.laload, 1)) :
    ∀ t, Steps p.tables e below (T.setTop { g with pc := g.pc + 1, stack := v :: rest }) t → Steps p.tables e below (T.setTop g) t := by
  obtain ⟨cl, Ar, -, Sz, -, Hs, -⟩ := F
  exact fun t kt => X.laload hx (by rw [eT]; exact Ar.1) (State.isArrayOf_alike hZ.alike Ar.2.1) Ar.2.2 (inb_of Sz q) (Hs.at (inb_of Sz q) u) hg hs hd t kt
theorem own_ldB (X : Stand p l e R s m args below meth c T locs cells slots) (hx : p.tables.exec = Jvm.exec) (hZ : Z.Warmed39 s.vm) (eT : T.heap = h) (F : Arv Z h a k .byte n vs d) (q : ¬ j < 0 ∧ j < n) (u : vs.getD j.toNatClampNeg d = v) (hg : g.method = m) {rest : List Value} (hs : g.stack = .int j :: .ref a :: rest) (hd : decode c.code g.pc = .ok (.baload, 1)) :
    ∀ t, Steps p.tables e below (T.setTop { g with pc := g.pc + 1, stack := v :: rest }) t → Steps p.tables e below (T.setTop g) t := by
  obtain ⟨cl, Ar, -, Sz, -, Hs, -⟩ := F
  exact fun t kt => X.baloadBytes hx (by rw [eT]; exact Ar.1) (State.isArrayOf_alike hZ.alike Ar.2.1) Ar.2.2 (inb_of Sz q) (Hs.at (inb_of Sz q) u) hg hs hd t kt
theorem own_len (X : Stand p l e R s m args below meth c T locs cells slots) (hx : p.tables.exec = Jvm.exec) (hZ : Z.Warmed39 s.vm) (eT : T.heap = h) {ty : FieldType} (F : Arv Z h a k ty n vs d) (hg : g.method = m) {rest : List Value} (hs : g.stack = .ref a :: rest) (hd : decode c.code g.pc = .ok (.arraylength, 1)) :
    ∀ t, Steps p.tables e below (T.setTop { g with pc := g.pc + 1, stack := .int n :: rest }) t → Steps p.tables e below (T.setTop g) t := by
  obtain ⟨cl, Ar, -, Sz, Ng, -, -⟩ := F
  intro t kt
  refine X.arraylength hx (by rw [eT]; exact Ar.1) (State.isArrayOf_alike hZ.alike Ar.2.1) hg hs hd t ?_
  rw [len_of Sz Ng]; exact kt
theorem own_stI (X : Stand p l e R s m args below meth c T locs cells slots) (hx : p.tables.exec = Jvm.exec) (hZ : Z.Warmed39 s.vm) (eT : T.heap = h) (F : Arv Z h a k .int n vs d) (N : Fr n0 locs) (ge : n0 ≤ a) {x : Int32} (q : ¬ j < 0 ∧ j < n) (i : Nat) (hi : j.toNatClampNeg = i) (hl : i < vs.length) (hg : g.method = m) {rest : List Value} (hs : g.stack = .int x :: .int j :: .ref a :: rest) (hd : decode c.code g.pc = .ok (.iastore, 1)) :
    ∃ T' h' L, Stand p l e R s m args below meth c T' L cells slots ∧ T'.heap = h' ∧ Fr n0 L ∧ Wr h h' a j.toNatClampNeg (.int x) ∧ Arv Z h' a k .int n (vs.set i (.int x)) d ∧ ∀ t, Steps p.tables e below (T'.setTop { g with pc := g.pc + 1, stack := rest }) t → Steps p.tables e below (T.setTop g) t := by
  obtain ⟨cl, Ar, q1, Sz, Ng, Hs, Gs⟩ := F
  obtain ⟨T', h', X', e', W, st⟩ := stI X hx hZ eT Ar (j := j) (x := x) (inb_of Sz q) hg hs hd
  exact ⟨T', h', _, X', e', Fr.snoc X' N ge, W, Arv.set Ar q1 Sz Ng Hs Gs rfl W i hi hl, st⟩
theorem own_stJ (X : Stand p l e R s m args below meth c T locs cells slots) (hx : p.tables.exec = Jvm.exec) (hZ : Z.Warmed39 s.vm) (eT : T.heap = h) (F : Arv Z h a k .long n vs d) (N : Fr n0 locs) (ge : n0 ≤ a) {x : Int64} (q : ¬ j < 0 ∧ j < n) (i : Nat) (hi : j.toNatClampNeg = i) (hl : i < vs.length) (hg : g.method = m) {rest : List Value} (hs : g.stack = .long x :: .int j :: .ref a :: rest) (hd : decode c.code g.pc = .ok (.lastore, 1)) :
    ∃ T' h' L, Stand p l e R s m args below meth c T' L cells slots ∧ T'.heap = h' ∧ Fr n0 L ∧ Wr h h' a j.toNatClampNeg (.long x) ∧ Arv Z h' a k .long n (vs.set i (.long x)) d ∧ ∀ t, Steps p.tables e below (T'.setTop { g with pc := g.pc + 1, stack := rest }) t → Steps p.tables e below (T.setTop g) t := by
  obtain ⟨cl, Ar, q1, Sz, Ng, Hs, Gs⟩ := F
  obtain ⟨T', h', X', e', W, st⟩ := stJ X hx hZ eT Ar (j := j) (x := x) (inb_of Sz q) hg hs hd
  exact ⟨T', h', _, X', e', Fr.snoc X' N ge, W, Arv.set Ar q1 Sz Ng Hs Gs rfl W i hi hl, st⟩
theorem own_stB (X : Stand p l e R s m args below meth c T locs cells slots) (hx : p.tables.exec = Jvm.exec) (hZ : Z.Warmed39 s.vm) (eT : T.heap = h) (F : Arv Z h a k .byte n vs d) (N : Fr n0 locs) (ge : n0 ≤ a) {x : Int32} (q : ¬ j < 0 ∧ j < n) (i : Nat) (hi : j.toNatClampNeg = i) (hl : i < vs.length) (hg : g.method = m) {rest : List Value} (hs : g.stack = .int x :: .int j :: .ref a :: rest) (hd : decode c.code g.pc = .ok (.bastore, 1)) :
    ∃ T' h' L, Stand p l e R s m args below meth c T' L cells slots ∧ T'.heap = h' ∧ Fr n0 L ∧ Wr h h' a j.toNatClampNeg (.int (nar .byte x)) ∧ Arv Z h' a k .byte n (vs.set i (.int (nar .byte x))) d ∧ ∀ t, Steps p.tables e below (T'.setTop { g with pc := g.pc + 1, stack := rest }) t → Steps p.tables e below (T.setTop g) t := by
  obtain ⟨cl, Ar, q1, Sz, Ng, Hs, Gs⟩ := F
  obtain ⟨T', h', X', e', W, st⟩ := stB X hx hZ eT Ar (j := j) (x := x) (inb_of Sz q) hg hs hd
  exact ⟨T', h', _, X', e', Fr.snoc X' N ge, W, Arv.set Ar q1 Sz Ng Hs Gs (fits_nar_byte _) W i hi hl, st⟩
theorem own_ldR {Cn : String} (X : Stand p l e R s m args below meth c T locs cells slots) (hx : p.tables.exec = Jvm.exec) (hZ : Z.Warmed39 s.vm) (eT : T.heap = h) (F : Arv Z h a k (.object Cn) n vs d) (q : ¬ j < 0 ∧ j < n) (u : vs.getD j.toNatClampNeg d = v) (hg : g.method = m) {rest : List Value} (hs : g.stack = .int j :: .ref a :: rest) (hd : decode c.code g.pc = .ok (.aaload, 1)) :
    ∀ t, Steps p.tables e below (T.setTop { g with pc := g.pc + 1, stack := v :: rest }) t → Steps p.tables e below (T.setTop g) t := by
  obtain ⟨cl, Ar, -, Sz, -, Hs, -⟩ := F
  exact fun t kt => X.aaload hx (by rw [eT]; exact Ar.1) (State.isArrayOf_alike hZ.alike Ar.2.1) rfl Ar.2.2 (inb_of Sz q) (Hs.at (inb_of Sz q) u) hg hs hd t kt
theorem own_stR {Cn : String} {y : Addr} (X : Stand p l e R s m args below meth c T locs cells slots) (hx : p.tables.exec = Jvm.exec) (hZ : Z.Warmed39 s.vm) (eT : T.heap = h) (F : Arv Z h a k (.object Cn) n vs d) (O : Ovr Z k Cn) (I : Ins Z h y Cn true) (N : Fr n0 locs) (ge : n0 ≤ a) (q : ¬ j < 0 ∧ j < n) (i : Nat) (hi : j.toNatClampNeg = i) (hl : i < vs.length) (hg : g.method = m) {rest : List Value} (hs : g.stack = .ref y :: .int j :: .ref a :: rest) (hd : decode c.code g.pc = .ok (.aastore, 1)) :
    ∃ T' h' L, Stand p l e R s m args below meth c T' L cells slots ∧ T'.heap = h' ∧ Fr n0 L ∧ Wr h h' a j.toNatClampNeg (.ref y) ∧ Arv Z h' a k (.object Cn) n (vs.set i (.ref y)) d ∧ ∀ t, Steps p.tables e below (T'.setTop { g with pc := g.pc + 1, stack := rest }) t → Steps p.tables e below (T.setTop g) t := by
  obtain ⟨cl, Ar, q1, Sz, Ng, Hs, Gs⟩ := F
  obtain ⟨T', h', X', e', W, st⟩ := stR X hx hZ eT Ar (j := j) (v := .ref y) (inb_of Sz q) rfl (Sto.ofV Ar q1 O I) hg hs hd
  exact ⟨T', h', _, X', e', Fr.snoc X' N ge, W, Arv.set Ar q1 Sz Ng Hs Gs rfl W i hi hl, st⟩
end OwnRun
theorem own_pn0 : plainName "com/example/surefoot/surefoot/SplitMix" = true := by first | (simp [plainName, overriddenIn]; done) | decide +kernel
theorem own_d2_0 : decode prog_23_method_2_code 0 = .ok (.lload_n 0, 1) := by decide +kernel
theorem own_d2_1 : decode prog_23_method_2_code 1 = .ok (.lstore_n 2, 1) := by decide +kernel
theorem own_d2_2 : decode prog_23_method_2_code 2 = .ok (.lload_n 2, 1) := by decide +kernel
theorem own_d2_3 : decode prog_23_method_2_code 3 = .ok (.lload_n 2, 1) := by decide +kernel
theorem own_d2_4 : decode prog_23_method_2_code 4 = .ok (.bipush 30, 2) := by decide +kernel
theorem own_d2_6 : decode prog_23_method_2_code 6 = .ok (.lushr, 1) := by decide +kernel
theorem own_d2_7 : decode prog_23_method_2_code 7 = .ok (.lxor, 1) := by decide +kernel
theorem own_d2_8 : decode prog_23_method_2_code 8 = .ok (.ldc2_w 7, 3) := by decide +kernel
theorem own_d2_11 : decode prog_23_method_2_code 11 = .ok (.lmul, 1) := by decide +kernel
theorem own_d2_12 : decode prog_23_method_2_code 12 = .ok (.lstore_n 2, 1) := by decide +kernel
theorem own_d2_13 : decode prog_23_method_2_code 13 = .ok (.lload_n 2, 1) := by decide +kernel
theorem own_d2_14 : decode prog_23_method_2_code 14 = .ok (.lload_n 2, 1) := by decide +kernel
theorem own_d2_15 : decode prog_23_method_2_code 15 = .ok (.bipush 27, 2) := by decide +kernel
theorem own_d2_17 : decode prog_23_method_2_code 17 = .ok (.lushr, 1) := by decide +kernel
theorem own_d2_18 : decode prog_23_method_2_code 18 = .ok (.lxor, 1) := by decide +kernel
theorem own_d2_19 : decode prog_23_method_2_code 19 = .ok (.ldc2_w 9, 3) := by decide +kernel
theorem own_d2_22 : decode prog_23_method_2_code 22 = .ok (.lmul, 1) := by decide +kernel
theorem own_d2_23 : decode prog_23_method_2_code 23 = .ok (.lstore_n 2, 1) := by decide +kernel
theorem own_d2_24 : decode prog_23_method_2_code 24 = .ok (.lload_n 2, 1) := by decide +kernel
theorem own_d2_25 : decode prog_23_method_2_code 25 = .ok (.lload_n 2, 1) := by decide +kernel
theorem own_d2_26 : decode prog_23_method_2_code 26 = .ok (.bipush 31, 2) := by decide +kernel
theorem own_d2_28 : decode prog_23_method_2_code 28 = .ok (.lushr, 1) := by decide +kernel
theorem own_d2_29 : decode prog_23_method_2_code 29 = .ok (.lxor, 1) := by decide +kernel
theorem own_d2_30 : decode prog_23_method_2_code 30 = .ok (.lreturn, 1) := by decide +kernel
def own_f2_12 (q0 : Int64) : Int64 := ((q0 ^^^ (own_ushrL q0 (30 : Int32))) * (-4658895280553007687 : Int64))
def own_f2_23 (q0 : Int64) : Int64 := (((own_f2_12 q0) ^^^ (own_ushrL (own_f2_12 q0) (27 : Int32))) * (-7723592293110705685 : Int64))
def own_r2 (q0 : Int64) : Int64 := ((own_f2_23 q0) ^^^ (own_ushrL (own_f2_23 q0) (31 : Int32)))
theorem own_ef2 (m : MethodId) (q0 : Int64) : entryFrame m #[(.long q0)] 4 = (mkF m 0 #[.val (.long q0), .second, .unset, .unset] []) := by first | (simp [entryFrame, mkF, argsToLocals, Value.category]; done) | rfl
set_option maxRecDepth 65536 in
set_option maxHeartbeats 40000000 in
theorem rm2 (l : Launch) (Z : State) (av0 : Array Value) (hw : ∀ d ∈ tables_1, d.before av0 Z = true) (ws : List Jvm.Cond) (q0 : Int64) (h0 : Heap) (n0 : Nat) (Z0 : n0 ≤ h0.size) :
    MetFree l (⟨"com/example/surefoot/surefoot/SplitMix", "mix", "(J)J"⟩ : MethodName) (head1 (Jvm.Cond.code (⟨"com/example/surefoot/surefoot/SplitMix", "mix", "(J)J"⟩ : MethodName) prog_23_method_2_code 4 (some .long) :: ws) ({ frames := 0, cells := 0, slots := 0, locals := 0 } : Room)) (fun a U => a = #[(.long q0)] ∧ Z.Warmed39 U.vm ∧ U.heap = h0) (fun _ _ _ _ _ => True) (fun _ U o U' => ∃ v L, o = .returned v ∧ own_Q n0 (fun h => h = h0) (some (.long (own_r2 q0))) v U'.heap L ∧ FrameEnd U o U' L ({ frames := 0, cells := 0, slots := 0, locals := 0 } : Room).cells ({ frames := 0, cells := 0, slots := 0, locals := 0 } : Room).slots) := by
  refine MetFree.of_bodySF (plainFor_of_name own_pn0) hisR ?_
  intro p e s m args below meth c s₁ Bd hml0 hP hK
  obtain ⟨rfl, hZ, hh⟩ := hP
  have hx := Bd.exec
  have hby := Bd.bytes
  have hml : c.maxLocals = 4 := hml0
  have hown : s.vm.findClass "com/example/surefoot/surefoot/SplitMix" = some m.cls := findClass_of_methodNamed Bd.named
  have hnm := (name_of_methodNamed Bd.named Bd.method).1
  have hret := Bd.returns
  have hlk : meth.locks = false := BodyLoose.notSynchronized Bd
  have X0 : Stand p l e ({ frames := 0, cells := 0, slots := 0, locals := 0 } : Room) s m #[(.long q0)] below meth c s₁ [] 0 0 := Stand.of_body Bd
  have e0 : s₁.heap = h0 := by rw [← hh, Bd.state]; rfl
  have N0 := Fr.nil n0
  clear Bd hh hK
  refine own_fin ?_
  refine own_entry (own_ef2 m q0) ?_
  show own_Run p e below s₁ _ (own_Ret _ s below _ _ (own_Q n0 _ (some (.long ((own_f2_23 q0) ^^^ (own_ushrL (own_f2_23 q0) (31 : Int32)))))))
  show own_Run p e below s₁ (mkF m 0 #[.val (.long q0), .second, .unset, .unset] []) _
  refine own_step (fun t k => XS.lloadN X0.here hx rfl (hb hby own_d2_0) rfl  k) ?_
  show own_Run p e below s₁ (mkF m 1 #[.val (.long q0), .second, .unset, .unset] [(.long q0)]) _
  refine own_step (fun t k => XS.lstoreN X0.here hx rfl (hb hby own_d2_1) rfl (l' := #[.val (.long q0), .second, .val (.long q0), .second]) rfl k) ?_
  show own_Run p e below s₁ (mkF m 2 #[.val (.long q0), .second, .val (.long q0), .second] []) _
  refine own_step (fun t k => XS.lloadN X0.here hx rfl (hb hby own_d2_2) rfl  k) ?_
  show own_Run p e below s₁ (mkF m 3 #[.val (.long q0), .second, .val (.long q0), .second] [(.long q0)]) _
  refine own_step (fun t k => XS.lloadN X0.here hx rfl (hb hby own_d2_3) rfl  k) ?_
  show own_Run p e below s₁ (mkF m 4 #[.val (.long q0), .second, .val (.long q0), .second] [(.long q0), (.long q0)]) _
  refine own_step (fun t k => XS.bipush X0.here hx rfl (hb hby own_d2_4) k) ?_
  show own_Run p e below s₁ (mkF m 6 #[.val (.long q0), .second, .val (.long q0), .second] [(.int (30 : Int32)), (.long q0), (.long q0)]) _
  refine own_step (fun t k => XS.lushr X0.here hx rfl (hb hby own_d2_6) rfl k) ?_
  show own_Run p e below s₁ (mkF m 7 #[.val (.long q0), .second, .val (.long q0), .second] [(.long (own_ushrL q0 (30 : Int32))), (.long q0)]) _
  refine own_step (fun t k => XS.lxor X0.here hx rfl (hb hby own_d2_7) rfl k) ?_
  show own_Run p e below s₁ (mkF m 8 #[.val (.long q0), .second, .val (.long q0), .second] [(.long (q0 ^^^ (own_ushrL q0 (30 : Int32))))]) _
  refine own_step (fun t k => X0.ldc2Long hx hown (mvT hZ (hw _ (List.mem_of_getElem? (i := 8) rfl))) (g := (mkF m 8 #[.val (.long q0), .second, .val (.long q0), .second] [(.long (q0 ^^^ (own_ushrL q0 (30 : Int32))))])) rfl (hb hby own_d2_8) t k) ?_
  show own_Run p e below s₁ (mkF m 11 #[.val (.long q0), .second, .val (.long q0), .second] [(.long (-4658895280553007687 : Int64)), (.long (q0 ^^^ (own_ushrL q0 (30 : Int32))))]) _
  refine own_step (fun t k => XS.lmul X0.here hx rfl (hb hby own_d2_11) rfl k) ?_
  show own_Run p e below s₁ (mkF m 12 #[.val (.long q0), .second, .val (.long q0), .second] [(.long ((q0 ^^^ (own_ushrL q0 (30 : Int32))) * (-4658895280553007687 : Int64)))]) _
  refine own_step (fun t k => XS.lstoreN X0.here hx rfl (hb hby own_d2_12) rfl (l' := #[.val (.long q0), .second, .val (.long (own_f2_12 q0)), .second]) rfl k) ?_
  show own_Run p e below s₁ (mkF m 13 #[.val (.long q0), .second, .val (.long (own_f2_12 q0)), .second] []) _
  refine own_step (fun t k => XS.lloadN X0.here hx rfl (hb hby own_d2_13) rfl  k) ?_
  show own_Run p e below s₁ (mkF m 14 #[.val (.long q0), .second, .val (.long (own_f2_12 q0)), .second] [(.long (own_f2_12 q0))]) _
  refine own_step (fun t k => XS.lloadN X0.here hx rfl (hb hby own_d2_14) rfl  k) ?_
  show own_Run p e below s₁ (mkF m 15 #[.val (.long q0), .second, .val (.long (own_f2_12 q0)), .second] [(.long (own_f2_12 q0)), (.long (own_f2_12 q0))]) _
  refine own_step (fun t k => XS.bipush X0.here hx rfl (hb hby own_d2_15) k) ?_
  show own_Run p e below s₁ (mkF m 17 #[.val (.long q0), .second, .val (.long (own_f2_12 q0)), .second] [(.int (27 : Int32)), (.long (own_f2_12 q0)), (.long (own_f2_12 q0))]) _
  refine own_step (fun t k => XS.lushr X0.here hx rfl (hb hby own_d2_17) rfl k) ?_
  show own_Run p e below s₁ (mkF m 18 #[.val (.long q0), .second, .val (.long (own_f2_12 q0)), .second] [(.long (own_ushrL (own_f2_12 q0) (27 : Int32))), (.long (own_f2_12 q0))]) _
  refine own_step (fun t k => XS.lxor X0.here hx rfl (hb hby own_d2_18) rfl k) ?_
  show own_Run p e below s₁ (mkF m 19 #[.val (.long q0), .second, .val (.long (own_f2_12 q0)), .second] [(.long ((own_f2_12 q0) ^^^ (own_ushrL (own_f2_12 q0) (27 : Int32))))]) _
  refine own_step (fun t k => X0.ldc2Long hx hown (mvT hZ (hw _ (List.mem_of_getElem? (i := 9) rfl))) (g := (mkF m 19 #[.val (.long q0), .second, .val (.long (own_f2_12 q0)), .second] [(.long ((own_f2_12 q0) ^^^ (own_ushrL (own_f2_12 q0) (27 : Int32))))])) rfl (hb hby own_d2_19) t k) ?_
  show own_Run p e below s₁ (mkF m 22 #[.val (.long q0), .second, .val (.long (own_f2_12 q0)), .second] [(.long (-7723592293110705685 : Int64)), (.long ((own_f2_12 q0) ^^^ (own_ushrL (own_f2_12 q0) (27 : Int32))))]) _
  refine own_step (fun t k => XS.lmul X0.here hx rfl (hb hby own_d2_22) rfl k) ?_
  show own_Run p e below s₁ (mkF m 23 #[.val (.long q0), .second, .val (.long (own_f2_12 q0)), .second] [(.long (((own_f2_12 q0) ^^^ (own_ushrL (own_f2_12 q0) (27 : Int32))) * (-7723592293110705685 : Int64)))]) _
  refine own_step (fun t k => XS.lstoreN X0.here hx rfl (hb hby own_d2_23) rfl (l' := #[.val (.long q0), .second, .val (.long (own_f2_23 q0)), .second]) rfl k) ?_
  show own_Run p e below s₁ (mkF m 24 #[.val (.long q0), .second, .val (.long (own_f2_23 q0)), .second] []) _
  refine own_step (fun t k => XS.lloadN X0.here hx rfl (hb hby own_d2_24) rfl  k) ?_
  show own_Run p e below s₁ (mkF m 25 #[.val (.long q0), .second, .val (.long (own_f2_23 q0)), .second] [(.long (own_f2_23 q0))]) _
  refine own_step (fun t k => XS.lloadN X0.here hx rfl (hb hby own_d2_25) rfl  k) ?_
  show own_Run p e below s₁ (mkF m 26 #[.val (.long q0), .second, .val (.long (own_f2_23 q0)), .second] [(.long (own_f2_23 q0)), (.long (own_f2_23 q0))]) _
  refine own_step (fun t k => XS.bipush X0.here hx rfl (hb hby own_d2_26) k) ?_
  show own_Run p e below s₁ (mkF m 28 #[.val (.long q0), .second, .val (.long (own_f2_23 q0)), .second] [(.int (31 : Int32)), (.long (own_f2_23 q0)), (.long (own_f2_23 q0))]) _
  refine own_step (fun t k => XS.lushr X0.here hx rfl (hb hby own_d2_28) rfl k) ?_
  show own_Run p e below s₁ (mkF m 29 #[.val (.long q0), .second, .val (.long (own_f2_23 q0)), .second] [(.long (own_ushrL (own_f2_23 q0) (31 : Int32))), (.long (own_f2_23 q0))]) _
  refine own_step (fun t k => XS.lxor X0.here hx rfl (hb hby own_d2_29) rfl k) ?_
  show own_Run p e below s₁ (mkF m 30 #[.val (.long q0), .second, .val (.long (own_f2_23 q0)), .second] [(.long ((own_f2_23 q0) ^^^ (own_ushrL (own_f2_23 q0) (31 : Int32))))]) _
  exact own_retJ X0 hx hlk hret (hb hby own_d2_30) (by decide) (by decide) N0 e0
theorem own_pd24 : parseMethodDescriptor "(J)J" = some ⟨[.long], some .long⟩ := by decide +kernel
theorem own_pn1 : plainName "com/example/surefoot/surefoot/SplitMixDerivePinLaw" = true := by first | (simp [plainName, overriddenIn]; done) | decide +kernel
theorem own_d3_0 : decode method_2_code 0 = .ok (.lload_n 0, 1) := by decide +kernel
theorem own_d3_1 : decode method_2_code 1 = .ok (.ldc2_w 9, 3) := by decide +kernel
theorem own_d3_4 : decode method_2_code 4 = .ok (.lload_n 2, 1) := by decide +kernel
theorem own_d3_5 : decode method_2_code 5 = .ok (.ldc2_w 9, 3) := by decide +kernel
theorem own_d3_8 : decode method_2_code 8 = .ok (.ladd, 1) := by decide +kernel
theorem own_d3_9 : decode method_2_code 9 = .ok (.invokestatic 11, 3) := by decide +kernel
theorem own_d3_12 : decode method_2_code 12 = .ok (.lmul, 1) := by decide +kernel
theorem own_d3_13 : decode method_2_code 13 = .ok (.ladd, 1) := by decide +kernel
theorem own_d3_14 : decode method_2_code 14 = .ok (.invokestatic 11, 3) := by decide +kernel
theorem own_d3_17 : decode method_2_code 17 = .ok (.lreturn, 1) := by decide +kernel
def own_r3 (q0 : Int64) (q1 : Int64) : Int64 := (own_r2 (q0 + ((-7046029254386353131 : Int64) * (own_r2 (q1 + (-7046029254386353131 : Int64))))))
theorem own_ef3 (m : MethodId) (q0 : Int64) (q1 : Int64) : entryFrame m #[(.long q0), (.long q1)] 4 = (mkF m 0 #[.val (.long q0), .second, .val (.long q1), .second] []) := by first | (simp [entryFrame, mkF, argsToLocals, Value.category]; done) | rfl
set_option maxRecDepth 65536 in
set_option maxHeartbeats 40000000 in
theorem rm3 (l : Launch) (Z : State) (av0 : Array Value) (hw : ∀ d ∈ tables_1, d.before av0 Z = true) (ws : List Jvm.Cond) (q0 : Int64) (q1 : Int64) (h0 : Heap) (n0 : Nat) (Z0 : n0 ≤ h0.size) :
    MetFree l (⟨"com/example/surefoot/surefoot/SplitMixDerivePinLaw", "step", "(JJ)J"⟩ : MethodName) (head1 (Jvm.Cond.code (⟨"com/example/surefoot/surefoot/SplitMixDerivePinLaw", "step", "(JJ)J"⟩ : MethodName) method_2_code 4 (some .long) :: ws) ({ frames := 1, cells := 0, slots := 0, locals := 19 } : Room)) (fun a U => a = #[(.long q0), (.long q1)] ∧ Z.Warmed39 U.vm ∧ U.heap = h0) (fun _ _ _ _ _ => True) (fun _ U o U' => ∃ v L, o = .returned v ∧ own_Q n0 (fun h => h = h0) (some (.long (own_r3 q0 q1))) v U'.heap L ∧ FrameEnd U o U' L ({ frames := 1, cells := 0, slots := 0, locals := 19 } : Room).cells ({ frames := 1, cells := 0, slots := 0, locals := 19 } : Room).slots) := by
  refine MetFree.of_bodySF (plainFor_of_name own_pn1) hisR ?_
  intro p e s m args below meth c s₁ Bd hml0 hP hK
  obtain ⟨rfl, hZ, hh⟩ := hP
  have hx := Bd.exec
  have hby := Bd.bytes
  have hml : c.maxLocals = 4 := hml0
  have hown : s.vm.findClass "com/example/surefoot/surefoot/SplitMixDerivePinLaw" = some m.cls := findClass_of_methodNamed Bd.named
  have hnm := (name_of_methodNamed Bd.named Bd.method).1
  have hret := Bd.returns
  have hlk : meth.locks = false := BodyLoose.notSynchronized Bd
  have X0 : Stand p l e ({ frames := 1, cells := 0, slots := 0, locals := 19 } : Room) s m #[(.long q0), (.long q1)] below meth c s₁ [] 0 0 := Stand.of_body Bd
  have e0 : s₁.heap = h0 := by rw [← hh, Bd.state]; rfl
  have N0 := Fr.nil n0
  clear Bd hh hK
  refine own_fin ?_
  refine own_entry (own_ef3 m q0 q1) ?_
  show own_Run p e below s₁ _ (own_Ret _ s below _ _ (own_Q n0 _ (some (.long (own_r2 (q0 + ((-7046029254386353131 : Int64) * (own_r2 (q1 + (-7046029254386353131 : Int64))))))))))
  show own_Run p e below s₁ (mkF m 0 #[.val (.long q0), .second, .val (.long q1), .second] []) _
  refine own_step (fun t k => XS.lloadN X0.here hx rfl (hb hby own_d3_0) rfl  k) ?_
  show own_Run p e below s₁ (mkF m 1 #[.val (.long q0), .second, .val (.long q1), .second] [(.long q0)]) _
  refine own_step (fun t k => X0.ldc2Long hx hown (mvT hZ (hw _ (List.mem_of_getElem? (i := 16) rfl))) (g := (mkF m 1 #[.val (.long q0), .second, .val (.long q1), .second] [(.long q0)])) rfl (hb hby own_d3_1) t k) ?_
  show own_Run p e below s₁ (mkF m 4 #[.val (.long q0), .second, .val (.long q1), .second] [(.long (-7046029254386353131 : Int64)), (.long q0)]) _
  refine own_step (fun t k => XS.lloadN X0.here hx rfl (hb hby own_d3_4) rfl  k) ?_
  show own_Run p e below s₁ (mkF m 5 #[.val (.long q0), .second, .val (.long q1), .second] [(.long q1), (.long (-7046029254386353131 : Int64)), (.long q0)]) _
  refine own_step (fun t k => X0.ldc2Long hx hown (mvT hZ (hw _ (List.mem_of_getElem? (i := 16) rfl))) (g := (mkF m 5 #[.val (.long q0), .second, .val (.long q1), .second] [(.long q1), (.long (-7046029254386353131 : Int64)), (.long q0)])) rfl (hb hby own_d3_5) t k) ?_
  show own_Run p e below s₁ (mkF m 8 #[.val (.long q0), .second, .val (.long q1), .second] [(.long (-7046029254386353131 : Int64)), (.long q1), (.long (-7046029254386353131 : Int64)), (.long q0)]) _
  refine own_step (fun t k => XS.ladd X0.here hx rfl (hb hby own_d3_8) rfl k) ?_
  show own_Run p e below s₁ (mkF m 9 #[.val (.long q0), .second, .val (.long q1), .second] [(.long (q1 + (-7046029254386353131 : Int64))), (.long (-7046029254386353131 : Int64)), (.long q0)]) _
  obtain ⟨_, _, ⟨T3, L3, kq3, nq3⟩, -, X3, ⟨Lc3, hQ3, lq3, yq3, zq3⟩, st3⟩ := Jvm.LawKit.callS X0 hx (y := (⟨"com/example/surefoot/surefoot/SplitMix", "mix", "(J)J"⟩ : MethodName)) hown (mvT hZ (hw _ (List.mem_of_getElem? (i := 11) rfl))) (mvT hZ (hw _ (List.mem_of_getElem? (i := 6) rfl))) (mvT hZ (hw _ (List.mem_of_getElem? (i := 3) rfl))) (mvT hZ (hw _ (List.mem_of_getElem? (i := 7) rfl))) (by decide) (backOf (W := 4) (rm2 l Z av0 hw [] (q1 + (-7046029254386353131 : Int64)) h0 n0 Z0 ) hZ (hw _ (List.mem_of_getElem? (i := 7) rfl)) (hw _ (List.mem_of_getElem? (i := 3) rfl)) (by decide) (by decide)) (g := (mkF m 9 #[.val (.long q0), .second, .val (.long q1), .second] [(.long (q1 + (-7046029254386353131 : Int64))), (.long (-7046029254386353131 : Int64)), (.long q0)])) rfl (by rw [hml]; rfl) (argsL := [(.long (q1 + (-7046029254386353131 : Int64)))]) (rest := [(.long (-7046029254386353131 : Int64)), (.long q0)]) (lenOf own_pd24 rfl) rfl (by show 2 * 0 + _ ≤ _; exact Nat.le_of_eq rfl) (hb hby own_d3_9) (fun _ _ => ⟨rfl, e0, (by decide : 0 + 0 ≤ _), (by decide : 0 + 0 ≤ _)⟩)
  dsimp only [Pt.U, Pt.locs, Pt.cells, Pt.slots] at X3 lq3 yq3 zq3 st3 hQ3
  subst lq3 yq3 zq3
  obtain ⟨rfl, N3q, e3⟩ := hQ3
  have N3 := Fr.app N0 N3q
  refine own_step st3 ?_
  show own_Run p e below T3 (mkF m 12 #[.val (.long q0), .second, .val (.long q1), .second] [(.long (own_r2 (q1 + (-7046029254386353131 : Int64)))), (.long (-7046029254386353131 : Int64)), (.long q0)]) _
  refine own_step (fun t k => XS.lmul X3.here hx rfl (hb hby own_d3_12) rfl k) ?_
  show own_Run p e below T3 (mkF m 13 #[.val (.long q0), .second, .val (.long q1), .second] [(.long ((-7046029254386353131 : Int64) * (own_r2 (q1 + (-7046029254386353131 : Int64))))), (.long q0)]) _
  refine own_step (fun t k => XS.ladd X3.here hx rfl (hb hby own_d3_13) rfl k) ?_
  show own_Run p e below T3 (mkF m 14 #[.val (.long q0), .second, .val (.long q1), .second] [(.long (q0 + ((-7046029254386353131 : Int64) * (own_r2 (q1 + (-7046029254386353131 : Int64))))))]) _
  obtain ⟨_, _, ⟨T4, L4, kq4, nq4⟩, -, X4, ⟨Lc4, hQ4, lq4, yq4, zq4⟩, st4⟩ := Jvm.LawKit.callS X3 hx (y := (⟨"com/example/surefoot/surefoot/SplitMix", "mix", "(J)J"⟩ : MethodName)) hown (mvT hZ (hw _ (List.mem_of_getElem? (i := 11) rfl))) (mvT hZ (hw _ (List.mem_of_getElem? (i := 6) rfl))) (mvT hZ (hw _ (List.mem_of_getElem? (i := 3) rfl))) (mvT hZ (hw _ (List.mem_of_getElem? (i := 7) rfl))) (by decide) (backOf (W := 0) (rm2 l Z av0 hw [] (q0 + ((-7046029254386353131 : Int64) * (own_r2 (q1 + (-7046029254386353131 : Int64))))) h0 n0 Z0 ) hZ (hw _ (List.mem_of_getElem? (i := 7) rfl)) (hw _ (List.mem_of_getElem? (i := 3) rfl)) (by decide) (by decide)) (g := (mkF m 14 #[.val (.long q0), .second, .val (.long q1), .second] [(.long (q0 + ((-7046029254386353131 : Int64) * (own_r2 (q1 + (-7046029254386353131 : Int64))))))])) rfl (by rw [hml]; rfl) (argsL := [(.long (q0 + ((-7046029254386353131 : Int64) * (own_r2 (q1 + (-7046029254386353131 : Int64))))))]) (rest := []) (lenOf own_pd24 rfl) rfl (by show 2 * 0 + _ ≤ _; exact Nat.le_of_eq rfl) (hb hby own_d3_14) (fun _ _ => ⟨rfl, e3, (by decide : 0 + 0 ≤ _), (by decide : 0 + 0 ≤ _)⟩)
  dsimp only [Pt.U, Pt.locs, Pt.cells, Pt.slots] at X4 lq4 yq4 zq4 st4 hQ4
  subst lq4 yq4 zq4
  obtain ⟨rfl, N4q, e4⟩ := hQ4
  have N4 := Fr.app N3 N4q
  refine own_step st4 ?_
  show own_Run p e below T4 (mkF m 17 #[.val (.long q0), .second, .val (.long q1), .second] [(.long (own_r2 (q0 + ((-7046029254386353131 : Int64) * (own_r2 (q1 + (-7046029254386353131 : Int64)))))))]) _
  exact own_retJ X4 hx hlk hret (hb hby own_d3_17) (by decide) (by decide) N4 e4
theorem own_d1_0 : decode prog_23_method_3_code 0 = .ok (.lload_n 0, 1) := by decide +kernel
theorem own_d1_1 : decode prog_23_method_3_code 1 = .ok (.invokestatic 11, 3) := by decide +kernel
theorem own_d1_4 : decode prog_23_method_3_code 4 = .ok (.lstore_n 3, 1) := by decide +kernel
theorem own_d1_5 : decode prog_23_method_3_code 5 = .ok (.aload_n 2, 1) := by decide +kernel
theorem own_d1_6 : decode prog_23_method_3_code 6 = .ok (.astore 5, 2) := by decide +kernel
theorem own_d1_8 : decode prog_23_method_3_code 8 = .ok (.aload 5, 2) := by decide +kernel
theorem own_d1_10 : decode prog_23_method_3_code 10 = .ok (.arraylength, 1) := by decide +kernel
theorem own_d1_11 : decode prog_23_method_3_code 11 = .ok (.istore 6, 2) := by decide +kernel
theorem own_d1_13 : decode prog_23_method_3_code 13 = .ok (.iconst 0, 1) := by decide +kernel
theorem own_d1_14 : decode prog_23_method_3_code 14 = .ok (.istore 7, 2) := by decide +kernel
theorem own_d1_16 : decode prog_23_method_3_code 16 = .ok (.iload 7, 2) := by decide +kernel
theorem own_d1_18 : decode prog_23_method_3_code 18 = .ok (.iload 6, 2) := by decide +kernel
theorem own_d1_20 : decode prog_23_method_3_code 20 = .ok (.if_icmp .ge 35, 3) := by decide +kernel
theorem own_d1_55 : decode prog_23_method_3_code 55 = .ok (.lload_n 3, 1) := by decide +kernel
theorem own_d1_56 : decode prog_23_method_3_code 56 = .ok (.lreturn, 1) := by decide +kernel
def own_r1c0 (q0 : Int64) : Int64 := (own_r2 q0)
theorem own_ef1c0 (m : MethodId) (q0 : Int64) (a1 : Addr) : entryFrame m #[(.long q0), (.ref a1)] 10 = (mkF m 0 #[.val (.long q0), .second, .val (.ref a1), .unset, .unset, .unset, .unset, .unset, .unset, .unset] []) := by first | (simp [entryFrame, mkF, argsToLocals, Value.category]; done) | rfl
set_option maxRecDepth 65536 in
set_option maxHeartbeats 40000000 in
theorem rm1c0 (l : Launch) (Z : State) (av0 : Array Value) (hw : ∀ d ∈ tables_1, d.before av0 Z = true) (ws : List Jvm.Cond) (q0 : Int64) (a1 : Addr) (k1 : ClassId) (h0 : Heap) (n0 : Nat) (Z0 : n0 ≤ h0.size) (V1 : Arv Z h0 a1 k1 .long (0 : Int32) [] (.long (0 : Int64))) :
    MetFree l (⟨"com/example/surefoot/surefoot/SplitMix", "derive", "(J[J)J"⟩ : MethodName) (head1 (Jvm.Cond.code (⟨"com/example/surefoot/surefoot/SplitMix", "derive", "(J[J)J"⟩ : MethodName) prog_23_method_3_code 10 (some .long) :: ws) ({ frames := 1, cells := 0, slots := 0, locals := 15 } : Room)) (fun a U => a = #[(.long q0), (.ref a1)] ∧ Z.Warmed39 U.vm ∧ U.heap = h0) (fun _ _ _ _ _ => True) (fun _ U o U' => ∃ v L, o = .returned v ∧ own_Q n0 (fun h => h = h0) (some (.long (own_r1c0 q0))) v U'.heap L ∧ FrameEnd U o U' L ({ frames := 1, cells := 0, slots := 0, locals := 15 } : Room).cells ({ frames := 1, cells := 0, slots := 0, locals := 15 } : Room).slots) := by
  refine MetFree.of_bodySF (plainFor_of_name own_pn0) hisR ?_
  intro p e s m args below meth c s₁ Bd hml0 hP hK
  obtain ⟨rfl, hZ, hh⟩ := hP
  have hx := Bd.exec
  have hby := Bd.bytes
  have hml : c.maxLocals = 10 := hml0
  have hown : s.vm.findClass "com/example/surefoot/surefoot/SplitMix" = some m.cls := findClass_of_methodNamed Bd.named
  have hnm := (name_of_methodNamed Bd.named Bd.method).1
  have hret := Bd.returns
  have hlk : meth.locks = false := BodyLoose.notSynchronized Bd
  have X0 : Stand p l e ({ frames := 1, cells := 0, slots := 0, locals := 15 } : Room) s m #[(.long q0), (.ref a1)] below meth c s₁ [] 0 0 := Stand.of_body Bd
  have e0 : s₁.heap = h0 := by rw [← hh, Bd.state]; rfl
  have N0 := Fr.nil n0
  clear Bd hh hK
  refine own_fin ?_
  refine own_entry (own_ef1c0 m q0 a1) ?_
  show own_Run p e below s₁ _ (own_Ret _ s below _ _ (own_Q n0 _ (some (.long (own_r2 q0)))))
  show own_Run p e below s₁ (mkF m 0 #[.val (.long q0), .second, .val (.ref a1), .unset, .unset, .unset, .unset, .unset, .unset, .unset] []) _
  refine own_step (fun t k => XS.lloadN X0.here hx rfl (hb hby own_d1_0) rfl  k) ?_
  show own_Run p e below s₁ (mkF m 1 #[.val (.long q0), .second, .val (.ref a1), .unset, .unset, .unset, .unset, .unset, .unset, .unset] [(.long q0)]) _
  obtain ⟨_, _, ⟨T2, L2, kq2, nq2⟩, -, X2, ⟨Lc2, hQ2, lq2, yq2, zq2⟩, st2⟩ := Jvm.LawKit.callS X0 hx (y := (⟨"com/example/surefoot/surefoot/SplitMix", "mix", "(J)J"⟩ : MethodName)) hown (mvT hZ (hw _ (List.mem_of_getElem? (i := 5) rfl))) (mvT hZ (hw _ (List.mem_of_getElem? (i := 6) rfl))) (mvT hZ (hw _ (List.mem_of_getElem? (i := 3) rfl))) (mvT hZ (hw _ (List.mem_of_getElem? (i := 7) rfl))) (by decide) (backOf (W := 0) (rm2 l Z av0 hw [] q0 h0 n0 Z0 ) hZ (hw _ (List.mem_of_getElem? (i := 7) rfl)) (hw _ (List.mem_of_getElem? (i := 3) rfl)) (by decide) (by decide)) (g := (mkF m 1 #[.val (.long q0), .second, .val (.ref a1), .unset, .unset, .unset, .unset, .unset, .unset, .unset] [(.long q0)])) rfl (by rw [hml]; rfl) (argsL := [(.long q0)]) (rest := []) (lenOf own_pd24 rfl) rfl (by show 2 * 0 + _ ≤ _; exact Nat.le_of_eq rfl) (hb hby own_d1_1) (fun _ _ => ⟨rfl, e0, (by decide : 0 + 0 ≤ _), (by decide : 0 + 0 ≤ _)⟩)
  dsimp only [Pt.U, Pt.locs, Pt.cells, Pt.slots] at X2 lq2 yq2 zq2 st2 hQ2
  subst lq2 yq2 zq2
  obtain ⟨rfl, N2q, e2⟩ := hQ2
  have N2 := Fr.app N0 N2q
  refine own_step st2 ?_
  show own_Run p e below T2 (mkF m 4 #[.val (.long q0), .second, .val (.ref a1), .unset, .unset, .unset, .unset, .unset, .unset, .unset] [(.long (own_r2 q0))]) _
  refine own_step (fun t k => XS.lstoreN X2.here hx rfl (hb hby own_d1_4) rfl (l' := #[.val (.long q0), .second, .val (.ref a1), .val (.long (own_r2 q0)), .second, .unset, .unset, .unset, .unset, .unset]) rfl k) ?_
  show own_Run p e below T2 (mkF m 5 #[.val (.long q0), .second, .val (.ref a1), .val (.long (own_r2 q0)), .second, .unset, .unset, .unset, .unset, .unset] []) _
  refine own_step (fun t k => XS.aloadN X2.here hx rfl (hb hby own_d1_5) rfl rfl k) ?_
  show own_Run p e below T2 (mkF m 6 #[.val (.long q0), .second, .val (.ref a1), .val (.long (own_r2 q0)), .second, .unset, .unset, .unset, .unset, .unset] [(.ref a1)]) _
  refine own_step (fun t k => XS.astore X2.here hx rfl (hb hby own_d1_6) rfl rfl (l' := #[.val (.long q0), .second, .val (.ref a1), .val (.long (own_r2 q0)), .second, .val (.ref a1), .unset, .unset, .unset, .unset]) rfl k) ?_
  show own_Run p e below T2 (mkF m 8 #[.val (.long q0), .second, .val (.ref a1), .val (.long (own_r2 q0)), .second, .val (.ref a1), .unset, .unset, .unset, .unset] []) _
  refine own_step (fun t k => XS.aload X2.here hx rfl (hb hby own_d1_8) rfl rfl k) ?_
  show own_Run p e below T2 (mkF m 10 #[.val (.long q0), .second, .val (.ref a1), .val (.long (own_r2 q0)), .second, .val (.ref a1), .unset, .unset, .unset, .unset] [(.ref a1)]) _
  refine own_step (own_len X2 hx hZ e2 V1 (g := (mkF m 10 #[.val (.long q0), .second, .val (.ref a1), .val (.long (own_r2 q0)), .second, .val (.ref a1), .unset, .unset, .unset, .unset] [(.ref a1)])) rfl rfl (hb hby own_d1_10)) ?_
  show own_Run p e below T2 (mkF m 11 #[.val (.long q0), .second, .val (.ref a1), .val (.long (own_r2 q0)), .second, .val (.ref a1), .unset, .unset, .unset, .unset] [(.int (0 : Int32))]) _
  refine own_step (fun t k => XS.istore X2.here hx rfl (hb hby own_d1_11) rfl (l' := #[.val (.long q0), .second, .val (.ref a1), .val (.long (own_r2 q0)), .second, .val (.ref a1), .val (.int (0 : Int32)), .unset, .unset, .unset]) rfl k) ?_
  show own_Run p e below T2 (mkF m 13 #[.val (.long q0), .second, .val (.ref a1), .val (.long (own_r2 q0)), .second, .val (.ref a1), .val (.int (0 : Int32)), .unset, .unset, .unset] []) _
  refine own_step (fun t k => XS.iconst X2.here hx rfl (hb hby own_d1_13) k) ?_
  show own_Run p e below T2 (mkF m 14 #[.val (.long q0), .second, .val (.ref a1), .val (.long (own_r2 q0)), .second, .val (.ref a1), .val (.int (0 : Int32)), .unset, .unset, .unset] [(.int (0 : Int32))]) _
  refine own_step (fun t k => XS.istore X2.here hx rfl (hb hby own_d1_14) rfl (l' := #[.val (.long q0), .second, .val (.ref a1), .val (.long (own_r2 q0)), .second, .val (.ref a1), .val (.int (0 : Int32)), .val (.int (0 : Int32)), .unset, .unset]) rfl k) ?_
  show own_Run p e below T2 (mkF m 16 #[.val (.long q0), .second, .val (.ref a1), .val (.long (own_r2 q0)), .second, .val (.ref a1), .val (.int (0 : Int32)), .val (.int (0 : Int32)), .unset, .unset] []) _
  refine own_step (fun t k => XS.iload X2.here hx rfl (hb hby own_d1_16) rfl  k) ?_
  show own_Run p e below T2 (mkF m 18 #[.val (.long q0), .second, .val (.ref a1), .val (.long (own_r2 q0)), .second, .val (.ref a1), .val (.int (0 : Int32)), .val (.int (0 : Int32)), .unset, .unset] [(.int (0 : Int32))]) _
  refine own_step (fun t k => XS.iload X2.here hx rfl (hb hby own_d1_18) rfl  k) ?_
  show own_Run p e below T2 (mkF m 20 #[.val (.long q0), .second, .val (.ref a1), .val (.long (own_r2 q0)), .second, .val (.ref a1), .val (.int (0 : Int32)), .val (.int (0 : Int32)), .unset, .unset] [(.int (0 : Int32)), (.int (0 : Int32))]) _
  refine own_step (fun t k => XS.icmpYes X2.here hx rfl (pc0 := 20) (pc' := 55) rfl (hb hby own_d1_20) rfl (flt (by decide : ¬ ((0 : Int32) < (0 : Int32)))).2.1 (by decide) (by decide) k) ?_
  show own_Run p e below T2 (mkF m 55 #[.val (.long q0), .second, .val (.ref a1), .val (.long (own_r2 q0)), .second, .val (.ref a1), .val (.int (0 : Int32)), .val (.int (0 : Int32)), .unset, .unset] []) _
  refine own_step (fun t k => XS.lloadN X2.here hx rfl (hb hby own_d1_55) rfl  k) ?_
  show own_Run p e below T2 (mkF m 56 #[.val (.long q0), .second, .val (.ref a1), .val (.long (own_r2 q0)), .second, .val (.ref a1), .val (.int (0 : Int32)), .val (.int (0 : Int32)), .unset, .unset] [(.long (own_r2 q0))]) _
  exact own_retJ X2 hx hlk hret (hb hby own_d1_56) (by decide) (by decide) N2 e2
theorem own_d1_23 : decode prog_23_method_3_code 23 = .ok (.aload 5, 2) := by decide +kernel
theorem own_d1_25 : decode prog_23_method_3_code 25 = .ok (.iload 7, 2) := by decide +kernel
theorem own_d1_27 : decode prog_23_method_3_code 27 = .ok (.laload, 1) := by decide +kernel
theorem own_d1_28 : decode prog_23_method_3_code 28 = .ok (.lstore 8, 2) := by decide +kernel
theorem own_d1_30 : decode prog_23_method_3_code 30 = .ok (.lload_n 3, 1) := by decide +kernel
theorem own_d1_31 : decode prog_23_method_3_code 31 = .ok (.ldc2_w 17, 3) := by decide +kernel
theorem own_d1_34 : decode prog_23_method_3_code 34 = .ok (.lload 8, 2) := by decide +kernel
theorem own_d1_36 : decode prog_23_method_3_code 36 = .ok (.ldc2_w 17, 3) := by decide +kernel
theorem own_d1_39 : decode prog_23_method_3_code 39 = .ok (.ladd, 1) := by decide +kernel
theorem own_d1_40 : decode prog_23_method_3_code 40 = .ok (.invokestatic 11, 3) := by decide +kernel
theorem own_d1_43 : decode prog_23_method_3_code 43 = .ok (.lmul, 1) := by decide +kernel
theorem own_d1_44 : decode prog_23_method_3_code 44 = .ok (.ladd, 1) := by decide +kernel
theorem own_d1_45 : decode prog_23_method_3_code 45 = .ok (.invokestatic 11, 3) := by decide +kernel
theorem own_d1_48 : decode prog_23_method_3_code 48 = .ok (.lstore_n 3, 1) := by decide +kernel
theorem own_d1_49 : decode prog_23_method_3_code 49 = .ok (.iinc 7 1, 3) := by decide +kernel
theorem own_d1_52 : decode prog_23_method_3_code 52 = .ok (.goto (-36), 3) := by decide +kernel
def own_f1c1_48 (q0 : Int64) (v0 : Int64) : Int64 := (own_r2 ((own_r2 q0) + ((-7046029254386353131 : Int64) * (own_r2 (v0 + (-7046029254386353131 : Int64))))))
def own_r1c1 (q0 : Int64) (v0 : Int64) : Int64 := (own_f1c1_48 q0 v0)
theorem own_ef1c1 (m : MethodId) (q0 : Int64) (a1 : Addr) : entryFrame m #[(.long q0), (.ref a1)] 10 = (mkF m 0 #[.val (.long q0), .second, .val (.ref a1), .unset, .unset, .unset, .unset, .unset, .unset, .unset] []) := by first | (simp [entryFrame, mkF, argsToLocals, Value.category]; done) | rfl
set_option maxRecDepth 65536 in
set_option maxHeartbeats 40000000 in
theorem rm1c1 (l : Launch) (Z : State) (av0 : Array Value) (hw : ∀ d ∈ tables_1, d.before av0 Z = true) (ws : List Jvm.Cond) (q0 : Int64) (a1 : Addr) (k1 : ClassId) (v0 : Int64) (h0 : Heap) (n0 : Nat) (Z0 : n0 ≤ h0.size) (V1 : Arv Z h0 a1 k1 .long (1 : Int32) [(.long v0)] (.long (0 : Int64))) :
    MetFree l (⟨"com/example/surefoot/surefoot/SplitMix", "derive", "(J[J)J"⟩ : MethodName) (head1 (Jvm.Cond.code (⟨"com/example/surefoot/surefoot/SplitMix", "derive", "(J[J)J"⟩ : MethodName) prog_23_method_3_code 10 (some .long) :: ws) ({ frames := 1, cells := 0, slots := 0, locals := 19 } : Room)) (fun a U => a = #[(.long q0), (.ref a1)] ∧ Z.Warmed39 U.vm ∧ U.heap = h0) (fun _ _ _ _ _ => True) (fun _ U o U' => ∃ v L, o = .returned v ∧ own_Q n0 (fun h => h = h0) (some (.long (own_r1c1 q0 v0))) v U'.heap L ∧ FrameEnd U o U' L ({ frames := 1, cells := 0, slots := 0, locals := 19 } : Room).cells ({ frames := 1, cells := 0, slots := 0, locals := 19 } : Room).slots) := by
  refine MetFree.of_bodySF (plainFor_of_name own_pn0) hisR ?_
  intro p e s m args below meth c s₁ Bd hml0 hP hK
  obtain ⟨rfl, hZ, hh⟩ := hP
  have hx := Bd.exec
  have hby := Bd.bytes
  have hml : c.maxLocals = 10 := hml0
  have hown : s.vm.findClass "com/example/surefoot/surefoot/SplitMix" = some m.cls := findClass_of_methodNamed Bd.named
  have hnm := (name_of_methodNamed Bd.named Bd.method).1
  have hret := Bd.returns
  have hlk : meth.locks = false := BodyLoose.notSynchronized Bd
  have X0 : Stand p l e ({ frames := 1, cells := 0, slots := 0, locals := 19 } : Room) s m #[(.long q0), (.ref a1)] below meth c s₁ [] 0 0 := Stand.of_body Bd
  have e0 : s₁.heap = h0 := by rw [← hh, Bd.state]; rfl
  have N0 := Fr.nil n0
  clear Bd hh hK
  refine own_fin ?_
  refine own_entry (own_ef1c1 m q0 a1) ?_
  show own_Run p e below s₁ _ (own_Ret _ s below _ _ (own_Q n0 _ (some (.long (own_f1c1_48 q0 v0)))))
  show own_Run p e below s₁ (mkF m 0 #[.val (.long q0), .second, .val (.ref a1), .unset, .unset, .unset, .unset, .unset, .unset, .unset] []) _
  refine own_step (fun t k => XS.lloadN X0.here hx rfl (hb hby own_d1_0) rfl  k) ?_
  show own_Run p e below s₁ (mkF m 1 #[.val (.long q0), .second, .val (.ref a1), .unset, .unset, .unset, .unset, .unset, .unset, .unset] [(.long q0)]) _
  obtain ⟨_, _, ⟨T4, L4, kq4, nq4⟩, -, X4, ⟨Lc4, hQ4, lq4, yq4, zq4⟩, st4⟩ := Jvm.LawKit.callS X0 hx (y := (⟨"com/example/surefoot/surefoot/SplitMix", "mix", "(J)J"⟩ : MethodName)) hown (mvT hZ (hw _ (List.mem_of_getElem? (i := 5) rfl))) (mvT hZ (hw _ (List.mem_of_getElem? (i := 6) rfl))) (mvT hZ (hw _ (List.mem_of_getElem? (i := 3) rfl))) (mvT hZ (hw _ (List.mem_of_getElem? (i := 7) rfl))) (by decide) (backOf (W := 0) (rm2 l Z av0 hw [] q0 h0 n0 Z0 ) hZ (hw _ (List.mem_of_getElem? (i := 7) rfl)) (hw _ (List.mem_of_getElem? (i := 3) rfl)) (by decide) (by decide)) (g := (mkF m 1 #[.val (.long q0), .second, .val (.ref a1), .unset, .unset, .unset, .unset, .unset, .unset, .unset] [(.long q0)])) rfl (by rw [hml]; rfl) (argsL := [(.long q0)]) (rest := []) (lenOf own_pd24 rfl) rfl (by show 2 * 0 + _ ≤ _; exact Nat.le_of_eq rfl) (hb hby own_d1_1) (fun _ _ => ⟨rfl, e0, (by decide : 0 + 0 ≤ _), (by decide : 0 + 0 ≤ _)⟩)
  dsimp only [Pt.U, Pt.locs, Pt.cells, Pt.slots] at X4 lq4 yq4 zq4 st4 hQ4
  subst lq4 yq4 zq4
  obtain ⟨rfl, N4q, e4⟩ := hQ4
  have N4 := Fr.app N0 N4q
  refine own_step st4 ?_
  show own_Run p e below T4 (mkF m 4 #[.val (.long q0), .second, .val (.ref a1), .unset, .unset, .unset, .unset, .unset, .unset, .unset] [(.long (own_r2 q0))]) _
  refine own_step (fun t k => XS.lstoreN X4.here hx rfl (hb hby own_d1_4) rfl (l' := #[.val (.long q0), .second, .val (.ref a1), .val (.long (own_r2 q0)), .second, .unset, .unset, .unset, .unset, .unset]) rfl k) ?_
  show own_Run p e below T4 (mkF m 5 #[.val (.long q0), .second, .val (.ref a1), .val (.long (own_r2 q0)), .second, .unset, .unset, .unset, .unset, .unset] []) _
  refine own_step (fun t k => XS.aloadN X4.here hx rfl (hb hby own_d1_5) rfl rfl k) ?_
  show own_Run p e below T4 (mkF m 6 #[.val (.long q0), .second, .val (.ref a1), .val (.long (own_r2 q0)), .second, .unset, .unset, .unset, .unset, .unset] [(.ref a1)]) _
  refine own_step (fun t k => XS.astore X4.here hx rfl (hb hby own_d1_6) rfl rfl (l' := #[.val (.long q0), .second, .val (.ref a1), .val (.long (own_r2 q0)), .second, .val (.ref a1), .unset, .unset, .unset, .unset]) rfl k) ?_
  show own_Run p e below T4 (mkF m 8 #[.val (.long q0), .second, .val (.ref a1), .val (.long (own_r2 q0)), .second, .val (.ref a1), .unset, .unset, .unset, .unset] []) _
  refine own_step (fun t k => XS.aload X4.here hx rfl (hb hby own_d1_8) rfl rfl k) ?_
  show own_Run p e below T4 (mkF m 10 #[.val (.long q0), .second, .val (.ref a1), .val (.long (own_r2 q0)), .second, .val (.ref a1), .unset, .unset, .unset, .unset] [(.ref a1)]) _
  refine own_step (own_len X4 hx hZ e4 V1 (g := (mkF m 10 #[.val (.long q0), .second, .val (.ref a1), .val (.long (own_r2 q0)), .second, .val (.ref a1), .unset, .unset, .unset, .unset] [(.ref a1)])) rfl rfl (hb hby own_d1_10)) ?_
  show own_Run p e below T4 (mkF m 11 #[.val (.long q0), .second, .val (.ref a1), .val (.long (own_r2 q0)), .second, .val (.ref a1), .unset, .unset, .unset, .unset] [(.int (1 : Int32))]) _
  refine own_step (fun t k => XS.istore X4.here hx rfl (hb hby own_d1_11) rfl (l' := #[.val (.long q0), .second, .val (.ref a1), .val (.long (own_r2 q0)), .second, .val (.ref a1), .val (.int (1 : Int32)), .unset, .unset, .unset]) rfl k) ?_
  show own_Run p e below T4 (mkF m 13 #[.val (.long q0), .second, .val (.ref a1), .val (.long (own_r2 q0)), .second, .val (.ref a1), .val (.int (1 : Int32)), .unset, .unset, .unset] []) _
  refine own_step (fun t k => XS.iconst X4.here hx rfl (hb hby own_d1_13) k) ?_
  show own_Run p e below T4 (mkF m 14 #[.val (.long q0), .second, .val (.ref a1), .val (.long (own_r2 q0)), .second, .val (.ref a1), .val (.int (1 : Int32)), .unset, .unset, .unset] [(.int (0 : Int32))]) _
  refine own_step (fun t k => XS.istore X4.here hx rfl (hb hby own_d1_14) rfl (l' := #[.val (.long q0), .second, .val (.ref a1), .val (.long (own_r2 q0)), .second, .val (.ref a1), .val (.int (1 : Int32)), .val (.int (0 : Int32)), .unset, .unset]) rfl k) ?_
  show own_Run p e below T4 (mkF m 16 #[.val (.long q0), .second, .val (.ref a1), .val (.long (own_r2 q0)), .second, .val (.ref a1), .val (.int (1 : Int32)), .val (.int (0 : Int32)), .unset, .unset] []) _
  refine own_step (fun t k => XS.iload X4.here hx rfl (hb hby own_d1_16) rfl  k) ?_
  show own_Run p e below T4 (mkF m 18 #[.val (.long q0), .second, .val (.ref a1), .val (.long (own_r2 q0)), .second, .val (.ref a1), .val (.int (1 : Int32)), .val (.int (0 : Int32)), .unset, .unset] [(.int (0 : Int32))]) _
  refine own_step (fun t k => XS.iload X4.here hx rfl (hb hby own_d1_18) rfl  k) ?_
  show own_Run p e below T4 (mkF m 20 #[.val (.long q0), .second, .val (.ref a1), .val (.long (own_r2 q0)), .second, .val (.ref a1), .val (.int (1 : Int32)), .val (.int (0 : Int32)), .unset, .unset] [(.int (1 : Int32)), (.int (0 : Int32))]) _
  refine own_step (fun t k => XS.icmpNo X4.here hx rfl (hb hby own_d1_20) rfl (tlt (by decide : (0 : Int32) < (1 : Int32))).2.1 k) ?_
  show own_Run p e below T4 (mkF m 23 #[.val (.long q0), .second, .val (.ref a1), .val (.long (own_r2 q0)), .second, .val (.ref a1), .val (.int (1 : Int32)), .val (.int (0 : Int32)), .unset, .unset] []) _
  refine own_step (fun t k => XS.aload X4.here hx rfl (hb hby own_d1_23) rfl rfl k) ?_
  show own_Run p e below T4 (mkF m 25 #[.val (.long q0), .second, .val (.ref a1), .val (.long (own_r2 q0)), .second, .val (.ref a1), .val (.int (1 : Int32)), .val (.int (0 : Int32)), .unset, .unset] [(.ref a1)]) _
  refine own_step (fun t k => XS.iload X4.here hx rfl (hb hby own_d1_25) rfl  k) ?_
  show own_Run p e below T4 (mkF m 27 #[.val (.long q0), .second, .val (.ref a1), .val (.long (own_r2 q0)), .second, .val (.ref a1), .val (.int (1 : Int32)), .val (.int (0 : Int32)), .unset, .unset] [(.int (0 : Int32)), (.ref a1)]) _
  refine own_step (own_ldJ X4 hx hZ e4 V1 (j := (0 : Int32)) (v := (.long v0)) ⟨by decide, by decide⟩ rfl (g := (mkF m 27 #[.val (.long q0), .second, .val (.ref a1), .val (.long (own_r2 q0)), .second, .val (.ref a1), .val (.int (1 : Int32)), .val (.int (0 : Int32)), .unset, .unset] [(.int (0 : Int32)), (.ref a1)])) rfl rfl (hb hby own_d1_27)) ?_
  show own_Run p e below T4 (mkF m 28 #[.val (.long q0), .second, .val (.ref a1), .val (.long (own_r2 q0)), .second, .val (.ref a1), .val (.int (1 : Int32)), .val (.int (0 : Int32)), .unset, .unset] [(.long v0)]) _
  refine own_step (fun t k => XS.lstore X4.here hx rfl (hb hby own_d1_28) rfl (l' := #[.val (.long q0), .second, .val (.ref a1), .val (.long (own_r2 q0)), .second, .val (.ref a1), .val (.int (1 : Int32)), .val (.int (0 : Int32)), .val (.long v0), .second]) rfl k) ?_
  show own_Run p e below T4 (mkF m 30 #[.val (.long q0), .second, .val (.ref a1), .val (.long (own_r2 q0)), .second, .val (.ref a1), .val (.int (1 : Int32)), .val (.int (0 : Int32)), .val (.long v0), .second] []) _
  refine own_step (fun t k => XS.lloadN X4.here hx rfl (hb hby own_d1_30) rfl  k) ?_
  show own_Run p e below T4 (mkF m 31 #[.val (.long q0), .second, .val (.ref a1), .val (.long (own_r2 q0)), .second, .val (.ref a1), .val (.int (1 : Int32)), .val (.int (0 : Int32)), .val (.long v0), .second] [(.long (own_r2 q0))]) _
  refine own_step (fun t k => X4.ldc2Long hx hown (mvT hZ (hw _ (List.mem_of_getElem? (i := 10) rfl))) (g := (mkF m 31 #[.val (.long q0), .second, .val (.ref a1), .val (.long (own_r2 q0)), .second, .val (.ref a1), .val (.int (1 : Int32)), .val (.int (0 : Int32)), .val (.long v0), .second] [(.long (own_r2 q0))])) rfl (hb hby own_d1_31) t k) ?_
  show own_Run p e below T4 (mkF m 34 #[.val (.long q0), .second, .val (.ref a1), .val (.long (own_r2 q0)), .second, .val (.ref a1), .val (.int (1 : Int32)), .val (.int (0 : Int32)), .val (.long v0), .second] [(.long (-7046029254386353131 : Int64)), (.long (own_r2 q0))]) _
  refine own_step (fun t k => XS.lload X4.here hx rfl (hb hby own_d1_34) rfl  k) ?_
  show own_Run p e below T4 (mkF m 36 #[.val (.long q0), .second, .val (.ref a1), .val (.long (own_r2 q0)), .second, .val (.ref a1), .val (.int (1 : Int32)), .val (.int (0 : Int32)), .val (.long v0), .second] [(.long v0), (.long (-7046029254386353131 : Int64)), (.long (own_r2 q0))]) _
  refine own_step (fun t k => X4.ldc2Long hx hown (mvT hZ (hw _ (List.mem_of_getElem? (i := 10) rfl))) (g := (mkF m 36 #[.val (.long q0), .second, .val (.ref a1), .val (.long (own_r2 q0)), .second, .val (.ref a1), .val (.int (1 : Int32)), .val (.int (0 : Int32)), .val (.long v0), .second] [(.long v0), (.long (-7046029254386353131 : Int64)), (.long (own_r2 q0))])) rfl (hb hby own_d1_36) t k) ?_
  show own_Run p e below T4 (mkF m 39 #[.val (.long q0), .second, .val (.ref a1), .val (.long (own_r2 q0)), .second, .val (.ref a1), .val (.int (1 : Int32)), .val (.int (0 : Int32)), .val (.long v0), .second] [(.long (-7046029254386353131 : Int64)), (.long v0), (.long (-7046029254386353131 : Int64)), (.long (own_r2 q0))]) _
  refine own_step (fun t k => XS.ladd X4.here hx rfl (hb hby own_d1_39) rfl k) ?_
  show own_Run p e below T4 (mkF m 40 #[.val (.long q0), .second, .val (.ref a1), .val (.long (own_r2 q0)), .second, .val (.ref a1), .val (.int (1 : Int32)), .val (.int (0 : Int32)), .val (.long v0), .second] [(.long (v0 + (-7046029254386353131 : Int64))), (.long (-7046029254386353131 : Int64)), (.long (own_r2 q0))]) _
  obtain ⟨_, _, ⟨T5, L5, kq5, nq5⟩, -, X5, ⟨Lc5, hQ5, lq5, yq5, zq5⟩, st5⟩ := Jvm.LawKit.callS X4 hx (y := (⟨"com/example/surefoot/surefoot/SplitMix", "mix", "(J)J"⟩ : MethodName)) hown (mvT hZ (hw _ (List.mem_of_getElem? (i := 5) rfl))) (mvT hZ (hw _ (List.mem_of_getElem? (i := 6) rfl))) (mvT hZ (hw _ (List.mem_of_getElem? (i := 3) rfl))) (mvT hZ (hw _ (List.mem_of_getElem? (i := 7) rfl))) (by decide) (backOf (W := 4) (rm2 l Z av0 hw [] (v0 + (-7046029254386353131 : Int64)) h0 n0 Z0 ) hZ (hw _ (List.mem_of_getElem? (i := 7) rfl)) (hw _ (List.mem_of_getElem? (i := 3) rfl)) (by decide) (by decide)) (g := (mkF m 40 #[.val (.long q0), .second, .val (.ref a1), .val (.long (own_r2 q0)), .second, .val (.ref a1), .val (.int (1 : Int32)), .val (.int (0 : Int32)), .val (.long v0), .second] [(.long (v0 + (-7046029254386353131 : Int64))), (.long (-7046029254386353131 : Int64)), (.long (own_r2 q0))])) rfl (by rw [hml]; rfl) (argsL := [(.long (v0 + (-7046029254386353131 : Int64)))]) (rest := [(.long (-7046029254386353131 : Int64)), (.long (own_r2 q0))]) (lenOf own_pd24 rfl) rfl (by show 2 * 0 + _ ≤ _; exact Nat.le_of_eq rfl) (hb hby own_d1_40) (fun _ _ => ⟨rfl, e4, (by decide : 0 + 0 ≤ _), (by decide : 0 + 0 ≤ _)⟩)
  dsimp only [Pt.U, Pt.locs, Pt.cells, Pt.slots] at X5 lq5 yq5 zq5 st5 hQ5
  subst lq5 yq5 zq5
  obtain ⟨rfl, N5q, e5⟩ := hQ5
  have N5 := Fr.app N4 N5q
  refine own_step st5 ?_
  show own_Run p e below T5 (mkF m 43 #[.val (.long q0), .second, .val (.ref a1), .val (.long (own_r2 q0)), .second, .val (.ref a1), .val (.int (1 : Int32)), .val (.int (0 : Int32)), .val (.long v0), .second] [(.long (own_r2 (v0 + (-7046029254386353131 : Int64)))), (.long (-7046029254386353131 : Int64)), (.long (own_r2 q0))]) _
  refine own_step (fun t k => XS.lmul X5.here hx rfl (hb hby own_d1_43) rfl k) ?_
  show own_Run p e below T5 (mkF m 44 #[.val (.long q0), .second, .val (.ref a1), .val (.long (own_r2 q0)), .second, .val (.ref a1), .val (.int (1 : Int32)), .val (.int (0 : Int32)), .val (.long v0), .second] [(.long ((-7046029254386353131 : Int64) * (own_r2 (v0 + (-7046029254386353131 : Int64))))), (.long (own_r2 q0))]) _
  refine own_step (fun t k => XS.ladd X5.here hx rfl (hb hby own_d1_44) rfl k) ?_
  show own_Run p e below T5 (mkF m 45 #[.val (.long q0), .second, .val (.ref a1), .val (.long (own_r2 q0)), .second, .val (.ref a1), .val (.int (1 : Int32)), .val (.int (0 : Int32)), .val (.long v0), .second] [(.long ((own_r2 q0) + ((-7046029254386353131 : Int64) * (own_r2 (v0 + (-7046029254386353131 : Int64))))))]) _
  obtain ⟨_, _, ⟨T6, L6, kq6, nq6⟩, -, X6, ⟨Lc6, hQ6, lq6, yq6, zq6⟩, st6⟩ := Jvm.LawKit.callS X5 hx (y := (⟨"com/example/surefoot/surefoot/SplitMix", "mix", "(J)J"⟩ : MethodName)) hown (mvT hZ (hw _ (List.mem_of_getElem? (i := 5) rfl))) (mvT hZ (hw _ (List.mem_of_getElem? (i := 6) rfl))) (mvT hZ (hw _ (List.mem_of_getElem? (i := 3) rfl))) (mvT hZ (hw _ (List.mem_of_getElem? (i := 7) rfl))) (by decide) (backOf (W := 0) (rm2 l Z av0 hw [] ((own_r2 q0) + ((-7046029254386353131 : Int64) * (own_r2 (v0 + (-7046029254386353131 : Int64))))) h0 n0 Z0 ) hZ (hw _ (List.mem_of_getElem? (i := 7) rfl)) (hw _ (List.mem_of_getElem? (i := 3) rfl)) (by decide) (by decide)) (g := (mkF m 45 #[.val (.long q0), .second, .val (.ref a1), .val (.long (own_r2 q0)), .second, .val (.ref a1), .val (.int (1 : Int32)), .val (.int (0 : Int32)), .val (.long v0), .second] [(.long ((own_r2 q0) + ((-7046029254386353131 : Int64) * (own_r2 (v0 + (-7046029254386353131 : Int64))))))])) rfl (by rw [hml]; rfl) (argsL := [(.long ((own_r2 q0) + ((-7046029254386353131 : Int64) * (own_r2 (v0 + (-7046029254386353131 : Int64))))))]) (rest := []) (lenOf own_pd24 rfl) rfl (by show 2 * 0 + _ ≤ _; exact Nat.le_of_eq rfl) (hb hby own_d1_45) (fun _ _ => ⟨rfl, e5, (by decide : 0 + 0 ≤ _), (by decide : 0 + 0 ≤ _)⟩)
  dsimp only [Pt.U, Pt.locs, Pt.cells, Pt.slots] at X6 lq6 yq6 zq6 st6 hQ6
  subst lq6 yq6 zq6
  obtain ⟨rfl, N6q, e6⟩ := hQ6
  have N6 := Fr.app N5 N6q
  refine own_step st6 ?_
  show own_Run p e below T6 (mkF m 48 #[.val (.long q0), .second, .val (.ref a1), .val (.long (own_r2 q0)), .second, .val (.ref a1), .val (.int (1 : Int32)), .val (.int (0 : Int32)), .val (.long v0), .second] [(.long (own_r2 ((own_r2 q0) + ((-7046029254386353131 : Int64) * (own_r2 (v0 + (-7046029254386353131 : Int64)))))))]) _
  refine own_step (fun t k => XS.lstoreN X6.here hx rfl (hb hby own_d1_48) rfl (l' := #[.val (.long q0), .second, .val (.ref a1), .val (.long (own_f1c1_48 q0 v0)), .second, .val (.ref a1), .val (.int (1 : Int32)), .val (.int (0 : Int32)), .val (.long v0), .second]) rfl k) ?_
  show own_Run p e below T6 (mkF m 49 #[.val (.long q0), .second, .val (.ref a1), .val (.long (own_f1c1_48 q0 v0)), .second, .val (.ref a1), .val (.int (1 : Int32)), .val (.int (0 : Int32)), .val (.long v0), .second] []) _
  refine own_step (fun t k => XS.iinc X6.here hx rfl (hb hby own_d1_49) rfl (l' := #[.val (.long q0), .second, .val (.ref a1), .val (.long (own_f1c1_48 q0 v0)), .second, .val (.ref a1), .val (.int (1 : Int32)), .val (.int (1 : Int32)), .val (.long v0), .second]) rfl k) ?_
  show own_Run p e below T6 (mkF m 52 #[.val (.long q0), .second, .val (.ref a1), .val (.long (own_f1c1_48 q0 v0)), .second, .val (.ref a1), .val (.int (1 : Int32)), .val (.int (1 : Int32)), .val (.long v0), .second] []) _
  refine own_step (fun t k => XS.goto X6.here hx rfl (pc0 := 52) (pc' := 16) rfl (hb hby own_d1_52) (by decide) (by decide) k) ?_
  show own_Run p e below T6 (mkF m 16 #[.val (.long q0), .second, .val (.ref a1), .val (.long (own_f1c1_48 q0 v0)), .second, .val (.ref a1), .val (.int (1 : Int32)), .val (.int (1 : Int32)), .val (.long v0), .second] []) _
  refine own_step (fun t k => XS.iload X6.here hx rfl (hb hby own_d1_16) rfl  k) ?_
  show own_Run p e below T6 (mkF m 18 #[.val (.long q0), .second, .val (.ref a1), .val (.long (own_f1c1_48 q0 v0)), .second, .val (.ref a1), .val (.int (1 : Int32)), .val (.int (1 : Int32)), .val (.long v0), .second] [(.int (1 : Int32))]) _
  refine own_step (fun t k => XS.iload X6.here hx rfl (hb hby own_d1_18) rfl  k) ?_
  show own_Run p e below T6 (mkF m 20 #[.val (.long q0), .second, .val (.ref a1), .val (.long (own_f1c1_48 q0 v0)), .second, .val (.ref a1), .val (.int (1 : Int32)), .val (.int (1 : Int32)), .val (.long v0), .second] [(.int (1 : Int32)), (.int (1 : Int32))]) _
  refine own_step (fun t k => XS.icmpYes X6.here hx rfl (pc0 := 20) (pc' := 55) rfl (hb hby own_d1_20) rfl (flt (by decide : ¬ ((1 : Int32) < (1 : Int32)))).2.1 (by decide) (by decide) k) ?_
  show own_Run p e below T6 (mkF m 55 #[.val (.long q0), .second, .val (.ref a1), .val (.long (own_f1c1_48 q0 v0)), .second, .val (.ref a1), .val (.int (1 : Int32)), .val (.int (1 : Int32)), .val (.long v0), .second] []) _
  refine own_step (fun t k => XS.lloadN X6.here hx rfl (hb hby own_d1_55) rfl  k) ?_
  show own_Run p e below T6 (mkF m 56 #[.val (.long q0), .second, .val (.ref a1), .val (.long (own_f1c1_48 q0 v0)), .second, .val (.ref a1), .val (.int (1 : Int32)), .val (.int (1 : Int32)), .val (.long v0), .second] [(.long (own_f1c1_48 q0 v0))]) _
  exact own_retJ X6 hx hlk hret (hb hby own_d1_56) (by decide) (by decide) N6 e6
def own_f1c2_48 (q0 : Int64) (v0 : Int64) : Int64 := (own_r2 ((own_r2 q0) + ((-7046029254386353131 : Int64) * (own_r2 (v0 + (-7046029254386353131 : Int64))))))
def own_f1c2_48' (q0 : Int64) (v0 : Int64) (v1 : Int64) : Int64 := (own_r2 ((own_f1c2_48 q0 v0) + ((-7046029254386353131 : Int64) * (own_r2 (v1 + (-7046029254386353131 : Int64))))))
def own_r1c2 (q0 : Int64) (v0 : Int64) (v1 : Int64) : Int64 := (own_f1c2_48' q0 v0 v1)
theorem own_ef1c2 (m : MethodId) (q0 : Int64) (a1 : Addr) : entryFrame m #[(.long q0), (.ref a1)] 10 = (mkF m 0 #[.val (.long q0), .second, .val (.ref a1), .unset, .unset, .unset, .unset, .unset, .unset, .unset] []) := by first | (simp [entryFrame, mkF, argsToLocals, Value.category]; done) | rfl
set_option maxRecDepth 65536 in
set_option maxHeartbeats 40000000 in
theorem rm1c2 (l : Launch) (Z : State) (av0 : Array Value) (hw : ∀ d ∈ tables_1, d.before av0 Z = true) (ws : List Jvm.Cond) (q0 : Int64) (a1 : Addr) (k1 : ClassId) (v0 : Int64) (v1 : Int64) (h0 : Heap) (n0 : Nat) (Z0 : n0 ≤ h0.size) (V1 : Arv Z h0 a1 k1 .long (2 : Int32) [(.long v0), (.long v1)] (.long (0 : Int64))) :
    MetFree l (⟨"com/example/surefoot/surefoot/SplitMix", "derive", "(J[J)J"⟩ : MethodName) (head1 (Jvm.Cond.code (⟨"com/example/surefoot/surefoot/SplitMix", "derive", "(J[J)J"⟩ : MethodName) prog_23_method_3_code 10 (some .long) :: ws) ({ frames := 1, cells := 0, slots := 0, locals := 19 } : Room)) (fun a U => a = #[(.long q0), (.ref a1)] ∧ Z.Warmed39 U.vm ∧ U.heap = h0) (fun _ _ _ _ _ => True) (fun _ U o U' => ∃ v L, o = .returned v ∧ own_Q n0 (fun h => h = h0) (some (.long (own_r1c2 q0 v0 v1))) v U'.heap L ∧ FrameEnd U o U' L ({ frames := 1, cells := 0, slots := 0, locals := 19 } : Room).cells ({ frames := 1, cells := 0, slots := 0, locals := 19 } : Room).slots) := by
  refine MetFree.of_bodySF (plainFor_of_name own_pn0) hisR ?_
  intro p e s m args below meth c s₁ Bd hml0 hP hK
  obtain ⟨rfl, hZ, hh⟩ := hP
  have hx := Bd.exec
  have hby := Bd.bytes
  have hml : c.maxLocals = 10 := hml0
  have hown : s.vm.findClass "com/example/surefoot/surefoot/SplitMix" = some m.cls := findClass_of_methodNamed Bd.named
  have hnm := (name_of_methodNamed Bd.named Bd.method).1
  have hret := Bd.returns
  have hlk : meth.locks = false := BodyLoose.notSynchronized Bd
  have X0 : Stand p l e ({ frames := 1, cells := 0, slots := 0, locals := 19 } : Room) s m #[(.long q0), (.ref a1)] below meth c s₁ [] 0 0 := Stand.of_body Bd
  have e0 : s₁.heap = h0 := by rw [← hh, Bd.state]; rfl
  have N0 := Fr.nil n0
  clear Bd hh hK
  refine own_fin ?_
  refine own_entry (own_ef1c2 m q0 a1) ?_
  show own_Run p e below s₁ _ (own_Ret _ s below _ _ (own_Q n0 _ (some (.long (own_f1c2_48' q0 v0 v1)))))
  show own_Run p e below s₁ (mkF m 0 #[.val (.long q0), .second, .val (.ref a1), .unset, .unset, .unset, .unset, .unset, .unset, .unset] []) _
  refine own_step (fun t k => XS.lloadN X0.here hx rfl (hb hby own_d1_0) rfl  k) ?_
  show own_Run p e below s₁ (mkF m 1 #[.val (.long q0), .second, .val (.ref a1), .unset, .unset, .unset, .unset, .unset, .unset, .unset] [(.long q0)]) _
  obtain ⟨_, _, ⟨T6, L6, kq6, nq6⟩, -, X6, ⟨Lc6, hQ6, lq6, yq6, zq6⟩, st6⟩ := Jvm.LawKit.callS X0 hx (y := (⟨"com/example/surefoot/surefoot/SplitMix", "mix", "(J)J"⟩ : MethodName)) hown (mvT hZ (hw _ (List.mem_of_getElem? (i := 5) rfl))) (mvT hZ (hw _ (List.mem_of_getElem? (i := 6) rfl))) (mvT hZ (hw _ (List.mem_of_getElem? (i := 3) rfl))) (mvT hZ (hw _ (List.mem_of_getElem? (i := 7) rfl))) (by decide) (backOf (W := 0) (rm2 l Z av0 hw [] q0 h0 n0 Z0 ) hZ (hw _ (List.mem_of_getElem? (i := 7) rfl)) (hw _ (List.mem_of_getElem? (i := 3) rfl)) (by decide) (by decide)) (g := (mkF m 1 #[.val (.long q0), .second, .val (.ref a1), .unset, .unset, .unset, .unset, .unset, .unset, .unset] [(.long q0)])) rfl (by rw [hml]; rfl) (argsL := [(.long q0)]) (rest := []) (lenOf own_pd24 rfl) rfl (by show 2 * 0 + _ ≤ _; exact Nat.le_of_eq rfl) (hb hby own_d1_1) (fun _ _ => ⟨rfl, e0, (by decide : 0 + 0 ≤ _), (by decide : 0 + 0 ≤ _)⟩)
  dsimp only [Pt.U, Pt.locs, Pt.cells, Pt.slots] at X6 lq6 yq6 zq6 st6 hQ6
  subst lq6 yq6 zq6
  obtain ⟨rfl, N6q, e6⟩ := hQ6
  have N6 := Fr.app N0 N6q
  refine own_step st6 ?_
  show own_Run p e below T6 (mkF m 4 #[.val (.long q0), .second, .val (.ref a1), .unset, .unset, .unset, .unset, .unset, .unset, .unset] [(.long (own_r2 q0))]) _
  refine own_step (fun t k => XS.lstoreN X6.here hx rfl (hb hby own_d1_4) rfl (l' := #[.val (.long q0), .second, .val (.ref a1), .val (.long (own_r2 q0)), .second, .unset, .unset, .unset, .unset, .unset]) rfl k) ?_
  show own_Run p e below T6 (mkF m 5 #[.val (.long q0), .second, .val (.ref a1), .val (.long (own_r2 q0)), .second, .unset, .unset, .unset, .unset, .unset] []) _
  refine own_step (fun t k => XS.aloadN X6.here hx rfl (hb hby own_d1_5) rfl rfl k) ?_
  show own_Run p e below T6 (mkF m 6 #[.val (.long q0), .second, .val (.ref a1), .val (.long (own_r2 q0)), .second, .unset, .unset, .unset, .unset, .unset] [(.ref a1)]) _
  refine own_step (fun t k => XS.astore X6.here hx rfl (hb hby own_d1_6) rfl rfl (l' := #[.val (.long q0), .second, .val (.ref a1), .val (.long (own_r2 q0)), .second, .val (.ref a1), .unset, .unset, .unset, .unset]) rfl k) ?_
  show own_Run p e below T6 (mkF m 8 #[.val (.long q0), .second, .val (.ref a1), .val (.long (own_r2 q0)), .second, .val (.ref a1), .unset, .unset, .unset, .unset] []) _
  refine own_step (fun t k => XS.aload X6.here hx rfl (hb hby own_d1_8) rfl rfl k) ?_
  show own_Run p e below T6 (mkF m 10 #[.val (.long q0), .second, .val (.ref a1), .val (.long (own_r2 q0)), .second, .val (.ref a1), .unset, .unset, .unset, .unset] [(.ref a1)]) _
  refine own_step (own_len X6 hx hZ e6 V1 (g := (mkF m 10 #[.val (.long q0), .second, .val (.ref a1), .val (.long (own_r2 q0)), .second, .val (.ref a1), .unset, .unset, .unset, .unset] [(.ref a1)])) rfl rfl (hb hby own_d1_10)) ?_
  show own_Run p e below T6 (mkF m 11 #[.val (.long q0), .second, .val (.ref a1), .val (.long (own_r2 q0)), .second, .val (.ref a1), .unset, .unset, .unset, .unset] [(.int (2 : Int32))]) _
  refine own_step (fun t k => XS.istore X6.here hx rfl (hb hby own_d1_11) rfl (l' := #[.val (.long q0), .second, .val (.ref a1), .val (.long (own_r2 q0)), .second, .val (.ref a1), .val (.int (2 : Int32)), .unset, .unset, .unset]) rfl k) ?_
  show own_Run p e below T6 (mkF m 13 #[.val (.long q0), .second, .val (.ref a1), .val (.long (own_r2 q0)), .second, .val (.ref a1), .val (.int (2 : Int32)), .unset, .unset, .unset] []) _
  refine own_step (fun t k => XS.iconst X6.here hx rfl (hb hby own_d1_13) k) ?_
  show own_Run p e below T6 (mkF m 14 #[.val (.long q0), .second, .val (.ref a1), .val (.long (own_r2 q0)), .second, .val (.ref a1), .val (.int (2 : Int32)), .unset, .unset, .unset] [(.int (0 : Int32))]) _
  refine own_step (fun t k => XS.istore X6.here hx rfl (hb hby own_d1_14) rfl (l' := #[.val (.long q0), .second, .val (.ref a1), .val (.long (own_r2 q0)), .second, .val (.ref a1), .val (.int (2 : Int32)), .val (.int (0 : Int32)), .unset, .unset]) rfl k) ?_
  show own_Run p e below T6 (mkF m 16 #[.val (.long q0), .second, .val (.ref a1), .val (.long (own_r2 q0)), .second, .val (.ref a1), .val (.int (2 : Int32)), .val (.int (0 : Int32)), .unset, .unset] []) _
  refine own_step (fun t k => XS.iload X6.here hx rfl (hb hby own_d1_16) rfl  k) ?_
  show own_Run p e below T6 (mkF m 18 #[.val (.long q0), .second, .val (.ref a1), .val (.long (own_r2 q0)), .second, .val (.ref a1), .val (.int (2 : Int32)), .val (.int (0 : Int32)), .unset, .unset] [(.int (0 : Int32))]) _
  refine own_step (fun t k => XS.iload X6.here hx rfl (hb hby own_d1_18) rfl  k) ?_
  show own_Run p e below T6 (mkF m 20 #[.val (.long q0), .second, .val (.ref a1), .val (.long (own_r2 q0)), .second, .val (.ref a1), .val (.int (2 : Int32)), .val (.int (0 : Int32)), .unset, .unset] [(.int (2 : Int32)), (.int (0 : Int32))]) _
  refine own_step (fun t k => XS.icmpNo X6.here hx rfl (hb hby own_d1_20) rfl (tlt (by decide : (0 : Int32) < (2 : Int32))).2.1 k) ?_
  show own_Run p e below T6 (mkF m 23 #[.val (.long q0), .second, .val (.ref a1), .val (.long (own_r2 q0)), .second, .val (.ref a1), .val (.int (2 : Int32)), .val (.int (0 : Int32)), .unset, .unset] []) _
  refine own_step (fun t k => XS.aload X6.here hx rfl (hb hby own_d1_23) rfl rfl k) ?_
  show own_Run p e below T6 (mkF m 25 #[.val (.long q0), .second, .val (.ref a1), .val (.long (own_r2 q0)), .second, .val (.ref a1), .val (.int (2 : Int32)), .val (.int (0 : Int32)), .unset, .unset] [(.ref a1)]) _
  refine own_step (fun t k => XS.iload X6.here hx rfl (hb hby own_d1_25) rfl  k) ?_
  show own_Run p e below T6 (mkF m 27 #[.val (.long q0), .second, .val (.ref a1), .val (.long (own_r2 q0)), .second, .val (.ref a1), .val (.int (2 : Int32)), .val (.int (0 : Int32)), .unset, .unset] [(.int (0 : Int32)), (.ref a1)]) _
  refine own_step (own_ldJ X6 hx hZ e6 V1 (j := (0 : Int32)) (v := (.long v0)) ⟨by decide, by decide⟩ rfl (g := (mkF m 27 #[.val (.long q0), .second, .val (.ref a1), .val (.long (own_r2 q0)), .second, .val (.ref a1), .val (.int (2 : Int32)), .val (.int (0 : Int32)), .unset, .unset] [(.int (0 : Int32)), (.ref a1)])) rfl rfl (hb hby own_d1_27)) ?_
  show own_Run p e below T6 (mkF m 28 #[.val (.long q0), .second, .val (.ref a1), .val (.long (own_r2 q0)), .second, .val (.ref a1), .val (.int (2 : Int32)), .val (.int (0 : Int32)), .unset, .unset] [(.long v0)]) _
  refine own_step (fun t k => XS.lstore X6.here hx rfl (hb hby own_d1_28) rfl (l' := #[.val (.long q0), .second, .val (.ref a1), .val (.long (own_r2 q0)), .second, .val (.ref a1), .val (.int (2 : Int32)), .val (.int (0 : Int32)), .val (.long v0), .second]) rfl k) ?_
  show own_Run p e below T6 (mkF m 30 #[.val (.long q0), .second, .val (.ref a1), .val (.long (own_r2 q0)), .second, .val (.ref a1), .val (.int (2 : Int32)), .val (.int (0 : Int32)), .val (.long v0), .second] []) _
  refine own_step (fun t k => XS.lloadN X6.here hx rfl (hb hby own_d1_30) rfl  k) ?_
  show own_Run p e below T6 (mkF m 31 #[.val (.long q0), .second, .val (.ref a1), .val (.long (own_r2 q0)), .second, .val (.ref a1), .val (.int (2 : Int32)), .val (.int (0 : Int32)), .val (.long v0), .second] [(.long (own_r2 q0))]) _
  refine own_step (fun t k => X6.ldc2Long hx hown (mvT hZ (hw _ (List.mem_of_getElem? (i := 10) rfl))) (g := (mkF m 31 #[.val (.long q0), .second, .val (.ref a1), .val (.long (own_r2 q0)), .second, .val (.ref a1), .val (.int (2 : Int32)), .val (.int (0 : Int32)), .val (.long v0), .second] [(.long (own_r2 q0))])) rfl (hb hby own_d1_31) t k) ?_
  show own_Run p e below T6 (mkF m 34 #[.val (.long q0), .second, .val (.ref a1), .val (.long (own_r2 q0)), .second, .val (.ref a1), .val (.int (2 : Int32)), .val (.int (0 : Int32)), .val (.long v0), .second] [(.long (-7046029254386353131 : Int64)), (.long (own_r2 q0))]) _
  refine own_step (fun t k => XS.lload X6.here hx rfl (hb hby own_d1_34) rfl  k) ?_
  show own_Run p e below T6 (mkF m 36 #[.val (.long q0), .second, .val (.ref a1), .val (.long (own_r2 q0)), .second, .val (.ref a1), .val (.int (2 : Int32)), .val (.int (0 : Int32)), .val (.long v0), .second] [(.long v0), (.long (-7046029254386353131 : Int64)), (.long (own_r2 q0))]) _
  refine own_step (fun t k => X6.ldc2Long hx hown (mvT hZ (hw _ (List.mem_of_getElem? (i := 10) rfl))) (g := (mkF m 36 #[.val (.long q0), .second, .val (.ref a1), .val (.long (own_r2 q0)), .second, .val (.ref a1), .val (.int (2 : Int32)), .val (.int (0 : Int32)), .val (.long v0), .second] [(.long v0), (.long (-7046029254386353131 : Int64)), (.long (own_r2 q0))])) rfl (hb hby own_d1_36) t k) ?_
  show own_Run p e below T6 (mkF m 39 #[.val (.long q0), .second, .val (.ref a1), .val (.long (own_r2 q0)), .second, .val (.ref a1), .val (.int (2 : Int32)), .val (.int (0 : Int32)), .val (.long v0), .second] [(.long (-7046029254386353131 : Int64)), (.long v0), (.long (-7046029254386353131 : Int64)), (.long (own_r2 q0))]) _
  refine own_step (fun t k => XS.ladd X6.here hx rfl (hb hby own_d1_39) rfl k) ?_
  show own_Run p e below T6 (mkF m 40 #[.val (.long q0), .second, .val (.ref a1), .val (.long (own_r2 q0)), .second, .val (.ref a1), .val (.int (2 : Int32)), .val (.int (0 : Int32)), .val (.long v0), .second] [(.long (v0 + (-7046029254386353131 : Int64))), (.long (-7046029254386353131 : Int64)), (.long (own_r2 q0))]) _
  obtain ⟨_, _, ⟨T7, L7, kq7, nq7⟩, -, X7, ⟨Lc7, hQ7, lq7, yq7, zq7⟩, st7⟩ := Jvm.LawKit.callS X6 hx (y := (⟨"com/example/surefoot/surefoot/SplitMix", "mix", "(J)J"⟩ : MethodName)) hown (mvT hZ (hw _ (List.mem_of_getElem? (i := 5) rfl))) (mvT hZ (hw _ (List.mem_of_getElem? (i := 6) rfl))) (mvT hZ (hw _ (List.mem_of_getElem? (i := 3) rfl))) (mvT hZ (hw _ (List.mem_of_getElem? (i := 7) rfl))) (by decide) (backOf (W := 4) (rm2 l Z av0 hw [] (v0 + (-7046029254386353131 : Int64)) h0 n0 Z0 ) hZ (hw _ (List.mem_of_getElem? (i := 7) rfl)) (hw _ (List.mem_of_getElem? (i := 3) rfl)) (by decide) (by decide)) (g := (mkF m 40 #[.val (.long q0), .second, .val (.ref a1), .val (.long (own_r2 q0)), .second, .val (.ref a1), .val (.int (2 : Int32)), .val (.int (0 : Int32)), .val (.long v0), .second] [(.long (v0 + (-7046029254386353131 : Int64))), (.long (-7046029254386353131 : Int64)), (.long (own_r2 q0))])) rfl (by rw [hml]; rfl) (argsL := [(.long (v0 + (-7046029254386353131 : Int64)))]) (rest := [(.long (-7046029254386353131 : Int64)), (.long (own_r2 q0))]) (lenOf own_pd24 rfl) rfl (by show 2 * 0 + _ ≤ _; exact Nat.le_of_eq rfl) (hb hby own_d1_40) (fun _ _ => ⟨rfl, e6, (by decide : 0 + 0 ≤ _), (by decide : 0 + 0 ≤ _)⟩)
  dsimp only [Pt.U, Pt.locs, Pt.cells, Pt.slots] at X7 lq7 yq7 zq7 st7 hQ7
  subst lq7 yq7 zq7
  obtain ⟨rfl, N7q, e7⟩ := hQ7
  have N7 := Fr.app N6 N7q
  refine own_step st7 ?_
  show own_Run p e below T7 (mkF m 43 #[.val (.long q0), .second, .val (.ref a1), .val (.long (own_r2 q0)), .second, .val (.ref a1), .val (.int (2 : Int32)), .val (.int (0 : Int32)), .val (.long v0), .second] [(.long (own_r2 (v0 + (-7046029254386353131 : Int64)))), (.long (-7046029254386353131 : Int64)), (.long (own_r2 q0))]) _
  refine own_step (fun t k => XS.lmul X7.here hx rfl (hb hby own_d1_43) rfl k) ?_
  show own_Run p e below T7 (mkF m 44 #[.val (.long q0), .second, .val (.ref a1), .val (.long (own_r2 q0)), .second, .val (.ref a1), .val (.int (2 : Int32)), .val (.int (0 : Int32)), .val (.long v0), .second] [(.long ((-7046029254386353131 : Int64) * (own_r2 (v0 + (-7046029254386353131 : Int64))))), (.long (own_r2 q0))]) _
  refine own_step (fun t k => XS.ladd X7.here hx rfl (hb hby own_d1_44) rfl k) ?_
  show own_Run p e below T7 (mkF m 45 #[.val (.long q0), .second, .val (.ref a1), .val (.long (own_r2 q0)), .second, .val (.ref a1), .val (.int (2 : Int32)), .val (.int (0 : Int32)), .val (.long v0), .second] [(.long ((own_r2 q0) + ((-7046029254386353131 : Int64) * (own_r2 (v0 + (-7046029254386353131 : Int64))))))]) _
  obtain ⟨_, _, ⟨T8, L8, kq8, nq8⟩, -, X8, ⟨Lc8, hQ8, lq8, yq8, zq8⟩, st8⟩ := Jvm.LawKit.callS X7 hx (y := (⟨"com/example/surefoot/surefoot/SplitMix", "mix", "(J)J"⟩ : MethodName)) hown (mvT hZ (hw _ (List.mem_of_getElem? (i := 5) rfl))) (mvT hZ (hw _ (List.mem_of_getElem? (i := 6) rfl))) (mvT hZ (hw _ (List.mem_of_getElem? (i := 3) rfl))) (mvT hZ (hw _ (List.mem_of_getElem? (i := 7) rfl))) (by decide) (backOf (W := 0) (rm2 l Z av0 hw [] ((own_r2 q0) + ((-7046029254386353131 : Int64) * (own_r2 (v0 + (-7046029254386353131 : Int64))))) h0 n0 Z0 ) hZ (hw _ (List.mem_of_getElem? (i := 7) rfl)) (hw _ (List.mem_of_getElem? (i := 3) rfl)) (by decide) (by decide)) (g := (mkF m 45 #[.val (.long q0), .second, .val (.ref a1), .val (.long (own_r2 q0)), .second, .val (.ref a1), .val (.int (2 : Int32)), .val (.int (0 : Int32)), .val (.long v0), .second] [(.long ((own_r2 q0) + ((-7046029254386353131 : Int64) * (own_r2 (v0 + (-7046029254386353131 : Int64))))))])) rfl (by rw [hml]; rfl) (argsL := [(.long ((own_r2 q0) + ((-7046029254386353131 : Int64) * (own_r2 (v0 + (-7046029254386353131 : Int64))))))]) (rest := []) (lenOf own_pd24 rfl) rfl (by show 2 * 0 + _ ≤ _; exact Nat.le_of_eq rfl) (hb hby own_d1_45) (fun _ _ => ⟨rfl, e7, (by decide : 0 + 0 ≤ _), (by decide : 0 + 0 ≤ _)⟩)
  dsimp only [Pt.U, Pt.locs, Pt.cells, Pt.slots] at X8 lq8 yq8 zq8 st8 hQ8
  subst lq8 yq8 zq8
  obtain ⟨rfl, N8q, e8⟩ := hQ8
  have N8 := Fr.app N7 N8q
  refine own_step st8 ?_
  show own_Run p e below T8 (mkF m 48 #[.val (.long q0), .second, .val (.ref a1), .val (.long (own_r2 q0)), .second, .val (.ref a1), .val (.int (2 : Int32)), .val (.int (0 : Int32)), .val (.long v0), .second] [(.long (own_r2 ((own_r2 q0) + ((-7046029254386353131 : Int64) * (own_r2 (v0 + (-7046029254386353131 : Int64)))))))]) _
  refine own_step (fun t k => XS.lstoreN X8.here hx rfl (hb hby own_d1_48) rfl (l' := #[.val (.long q0), .second, .val (.ref a1), .val (.long (own_f1c2_48 q0 v0)), .second, .val (.ref a1), .val (.int (2 : Int32)), .val (.int (0 : Int32)), .val (.long v0), .second]) rfl k) ?_
  show own_Run p e below T8 (mkF m 49 #[.val (.long q0), .second, .val (.ref a1), .val (.long (own_f1c2_48 q0 v0)), .second, .val (.ref a1), .val (.int (2 : Int32)), .val (.int (0 : Int32)), .val (.long v0), .second] []) _
  refine own_step (fun t k => XS.iinc X8.here hx rfl (hb hby own_d1_49) rfl (l' := #[.val (.long q0), .second, .val (.ref a1), .val (.long (own_f1c2_48 q0 v0)), .second, .val (.ref a1), .val (.int (2 : Int32)), .val (.int (1 : Int32)), .val (.long v0), .second]) rfl k) ?_
  show own_Run p e below T8 (mkF m 52 #[.val (.long q0), .second, .val (.ref a1), .val (.long (own_f1c2_48 q0 v0)), .second, .val (.ref a1), .val (.int (2 : Int32)), .val (.int (1 : Int32)), .val (.long v0), .second] []) _
  refine own_step (fun t k => XS.goto X8.here hx rfl (pc0 := 52) (pc' := 16) rfl (hb hby own_d1_52) (by decide) (by decide) k) ?_
  show own_Run p e below T8 (mkF m 16 #[.val (.long q0), .second, .val (.ref a1), .val (.long (own_f1c2_48 q0 v0)), .second, .val (.ref a1), .val (.int (2 : Int32)), .val (.int (1 : Int32)), .val (.long v0), .second] []) _
  refine own_step (fun t k => XS.iload X8.here hx rfl (hb hby own_d1_16) rfl  k) ?_
  show own_Run p e below T8 (mkF m 18 #[.val (.long q0), .second, .val (.ref a1), .val (.long (own_f1c2_48 q0 v0)), .second, .val (.ref a1), .val (.int (2 : Int32)), .val (.int (1 : Int32)), .val (.long v0), .second] [(.int (1 : Int32))]) _
  refine own_step (fun t k => XS.iload X8.here hx rfl (hb hby own_d1_18) rfl  k) ?_
  show own_Run p e below T8 (mkF m 20 #[.val (.long q0), .second, .val (.ref a1), .val (.long (own_f1c2_48 q0 v0)), .second, .val (.ref a1), .val (.int (2 : Int32)), .val (.int (1 : Int32)), .val (.long v0), .second] [(.int (2 : Int32)), (.int (1 : Int32))]) _
  refine own_step (fun t k => XS.icmpNo X8.here hx rfl (hb hby own_d1_20) rfl (tlt (by decide : (1 : Int32) < (2 : Int32))).2.1 k) ?_
  show own_Run p e below T8 (mkF m 23 #[.val (.long q0), .second, .val (.ref a1), .val (.long (own_f1c2_48 q0 v0)), .second, .val (.ref a1), .val (.int (2 : Int32)), .val (.int (1 : Int32)), .val (.long v0), .second] []) _
  refine own_step (fun t k => XS.aload X8.here hx rfl (hb hby own_d1_23) rfl rfl k) ?_
  show own_Run p e below T8 (mkF m 25 #[.val (.long q0), .second, .val (.ref a1), .val (.long (own_f1c2_48 q0 v0)), .second, .val (.ref a1), .val (.int (2 : Int32)), .val (.int (1 : Int32)), .val (.long v0), .second] [(.ref a1)]) _
  refine own_step (fun t k => XS.iload X8.here hx rfl (hb hby own_d1_25) rfl  k) ?_
  show own_Run p e below T8 (mkF m 27 #[.val (.long q0), .second, .val (.ref a1), .val (.long (own_f1c2_48 q0 v0)), .second, .val (.ref a1), .val (.int (2 : Int32)), .val (.int (1 : Int32)), .val (.long v0), .second] [(.int (1 : Int32)), (.ref a1)]) _
  refine own_step (own_ldJ X8 hx hZ e8 V1 (j := (1 : Int32)) (v := (.long v1)) ⟨by decide, by decide⟩ rfl (g := (mkF m 27 #[.val (.long q0), .second, .val (.ref a1), .val (.long (own_f1c2_48 q0 v0)), .second, .val (.ref a1), .val (.int (2 : Int32)), .val (.int (1 : Int32)), .val (.long v0), .second] [(.int (1 : Int32)), (.ref a1)])) rfl rfl (hb hby own_d1_27)) ?_
  show own_Run p e below T8 (mkF m 28 #[.val (.long q0), .second, .val (.ref a1), .val (.long (own_f1c2_48 q0 v0)), .second, .val (.ref a1), .val (.int (2 : Int32)), .val (.int (1 : Int32)), .val (.long v0), .second] [(.long v1)]) _
  refine own_step (fun t k => XS.lstore X8.here hx rfl (hb hby own_d1_28) rfl (l' := #[.val (.long q0), .second, .val (.ref a1), .val (.long (own_f1c2_48 q0 v0)), .second, .val (.ref a1), .val (.int (2 : Int32)), .val (.int (1 : Int32)), .val (.long v1), .second]) rfl k) ?_
  show own_Run p e below T8 (mkF m 30 #[.val (.long q0), .second, .val (.ref a1), .val (.long (own_f1c2_48 q0 v0)), .second, .val (.ref a1), .val (.int (2 : Int32)), .val (.int (1 : Int32)), .val (.long v1), .second] []) _
  refine own_step (fun t k => XS.lloadN X8.here hx rfl (hb hby own_d1_30) rfl  k) ?_
  show own_Run p e below T8 (mkF m 31 #[.val (.long q0), .second, .val (.ref a1), .val (.long (own_f1c2_48 q0 v0)), .second, .val (.ref a1), .val (.int (2 : Int32)), .val (.int (1 : Int32)), .val (.long v1), .second] [(.long (own_f1c2_48 q0 v0))]) _
  refine own_step (fun t k => X8.ldc2Long hx hown (mvT hZ (hw _ (List.mem_of_getElem? (i := 10) rfl))) (g := (mkF m 31 #[.val (.long q0), .second, .val (.ref a1), .val (.long (own_f1c2_48 q0 v0)), .second, .val (.ref a1), .val (.int (2 : Int32)), .val (.int (1 : Int32)), .val (.long v1), .second] [(.long (own_f1c2_48 q0 v0))])) rfl (hb hby own_d1_31) t k) ?_
  show own_Run p e below T8 (mkF m 34 #[.val (.long q0), .second, .val (.ref a1), .val (.long (own_f1c2_48 q0 v0)), .second, .val (.ref a1), .val (.int (2 : Int32)), .val (.int (1 : Int32)), .val (.long v1), .second] [(.long (-7046029254386353131 : Int64)), (.long (own_f1c2_48 q0 v0))]) _
  refine own_step (fun t k => XS.lload X8.here hx rfl (hb hby own_d1_34) rfl  k) ?_
  show own_Run p e below T8 (mkF m 36 #[.val (.long q0), .second, .val (.ref a1), .val (.long (own_f1c2_48 q0 v0)), .second, .val (.ref a1), .val (.int (2 : Int32)), .val (.int (1 : Int32)), .val (.long v1), .second] [(.long v1), (.long (-7046029254386353131 : Int64)), (.long (own_f1c2_48 q0 v0))]) _
  refine own_step (fun t k => X8.ldc2Long hx hown (mvT hZ (hw _ (List.mem_of_getElem? (i := 10) rfl))) (g := (mkF m 36 #[.val (.long q0), .second, .val (.ref a1), .val (.long (own_f1c2_48 q0 v0)), .second, .val (.ref a1), .val (.int (2 : Int32)), .val (.int (1 : Int32)), .val (.long v1), .second] [(.long v1), (.long (-7046029254386353131 : Int64)), (.long (own_f1c2_48 q0 v0))])) rfl (hb hby own_d1_36) t k) ?_
  show own_Run p e below T8 (mkF m 39 #[.val (.long q0), .second, .val (.ref a1), .val (.long (own_f1c2_48 q0 v0)), .second, .val (.ref a1), .val (.int (2 : Int32)), .val (.int (1 : Int32)), .val (.long v1), .second] [(.long (-7046029254386353131 : Int64)), (.long v1), (.long (-7046029254386353131 : Int64)), (.long (own_f1c2_48 q0 v0))]) _
  refine own_step (fun t k => XS.ladd X8.here hx rfl (hb hby own_d1_39) rfl k) ?_
  show own_Run p e below T8 (mkF m 40 #[.val (.long q0), .second, .val (.ref a1), .val (.long (own_f1c2_48 q0 v0)), .second, .val (.ref a1), .val (.int (2 : Int32)), .val (.int (1 : Int32)), .val (.long v1), .second] [(.long (v1 + (-7046029254386353131 : Int64))), (.long (-7046029254386353131 : Int64)), (.long (own_f1c2_48 q0 v0))]) _
  obtain ⟨_, _, ⟨T9, L9, kq9, nq9⟩, -, X9, ⟨Lc9, hQ9, lq9, yq9, zq9⟩, st9⟩ := Jvm.LawKit.callS X8 hx (y := (⟨"com/example/surefoot/surefoot/SplitMix", "mix", "(J)J"⟩ : MethodName)) hown (mvT hZ (hw _ (List.mem_of_getElem? (i := 5) rfl))) (mvT hZ (hw _ (List.mem_of_getElem? (i := 6) rfl))) (mvT hZ (hw _ (List.mem_of_getElem? (i := 3) rfl))) (mvT hZ (hw _ (List.mem_of_getElem? (i := 7) rfl))) (by decide) (backOf (W := 4) (rm2 l Z av0 hw [] (v1 + (-7046029254386353131 : Int64)) h0 n0 Z0 ) hZ (hw _ (List.mem_of_getElem? (i := 7) rfl)) (hw _ (List.mem_of_getElem? (i := 3) rfl)) (by decide) (by decide)) (g := (mkF m 40 #[.val (.long q0), .second, .val (.ref a1), .val (.long (own_f1c2_48 q0 v0)), .second, .val (.ref a1), .val (.int (2 : Int32)), .val (.int (1 : Int32)), .val (.long v1), .second] [(.long (v1 + (-7046029254386353131 : Int64))), (.long (-7046029254386353131 : Int64)), (.long (own_f1c2_48 q0 v0))])) rfl (by rw [hml]; rfl) (argsL := [(.long (v1 + (-7046029254386353131 : Int64)))]) (rest := [(.long (-7046029254386353131 : Int64)), (.long (own_f1c2_48 q0 v0))]) (lenOf own_pd24 rfl) rfl (by show 2 * 0 + _ ≤ _; exact Nat.le_of_eq rfl) (hb hby own_d1_40) (fun _ _ => ⟨rfl, e8, (by decide : 0 + 0 ≤ _), (by decide : 0 + 0 ≤ _)⟩)
  dsimp only [Pt.U, Pt.locs, Pt.cells, Pt.slots] at X9 lq9 yq9 zq9 st9 hQ9
  subst lq9 yq9 zq9
  obtain ⟨rfl, N9q, e9⟩ := hQ9
  have N9 := Fr.app N8 N9q
  refine own_step st9 ?_
  show own_Run p e below T9 (mkF m 43 #[.val (.long q0), .second, .val (.ref a1), .val (.long (own_f1c2_48 q0 v0)), .second, .val (.ref a1), .val (.int (2 : Int32)), .val (.int (1 : Int32)), .val (.long v1), .second] [(.long (own_r2 (v1 + (-7046029254386353131 : Int64)))), (.long (-7046029254386353131 : Int64)), (.long (own_f1c2_48 q0 v0))]) _
  refine own_step (fun t k => XS.lmul X9.here hx rfl (hb hby own_d1_43) rfl k) ?_
  show own_Run p e below T9 (mkF m 44 #[.val (.long q0), .second, .val (.ref a1), .val (.long (own_f1c2_48 q0 v0)), .second, .val (.ref a1), .val (.int (2 : Int32)), .val (.int (1 : Int32)), .val (.long v1), .second] [(.long ((-7046029254386353131 : Int64) * (own_r2 (v1 + (-7046029254386353131 : Int64))))), (.long (own_f1c2_48 q0 v0))]) _
  refine own_step (fun t k => XS.ladd X9.here hx rfl (hb hby own_d1_44) rfl k) ?_
  show own_Run p e below T9 (mkF m 45 #[.val (.long q0), .second, .val (.ref a1), .val (.long (own_f1c2_48 q0 v0)), .second, .val (.ref a1), .val (.int (2 : Int32)), .val (.int (1 : Int32)), .val (.long v1), .second] [(.long ((own_f1c2_48 q0 v0) + ((-7046029254386353131 : Int64) * (own_r2 (v1 + (-7046029254386353131 : Int64))))))]) _
  obtain ⟨_, _, ⟨T10, L10, kq10, nq10⟩, -, X10, ⟨Lc10, hQ10, lq10, yq10, zq10⟩, st10⟩ := Jvm.LawKit.callS X9 hx (y := (⟨"com/example/surefoot/surefoot/SplitMix", "mix", "(J)J"⟩ : MethodName)) hown (mvT hZ (hw _ (List.mem_of_getElem? (i := 5) rfl))) (mvT hZ (hw _ (List.mem_of_getElem? (i := 6) rfl))) (mvT hZ (hw _ (List.mem_of_getElem? (i := 3) rfl))) (mvT hZ (hw _ (List.mem_of_getElem? (i := 7) rfl))) (by decide) (backOf (W := 0) (rm2 l Z av0 hw [] ((own_f1c2_48 q0 v0) + ((-7046029254386353131 : Int64) * (own_r2 (v1 + (-7046029254386353131 : Int64))))) h0 n0 Z0 ) hZ (hw _ (List.mem_of_getElem? (i := 7) rfl)) (hw _ (List.mem_of_getElem? (i := 3) rfl)) (by decide) (by decide)) (g := (mkF m 45 #[.val (.long q0), .second, .val (.ref a1), .val (.long (own_f1c2_48 q0 v0)), .second, .val (.ref a1), .val (.int (2 : Int32)), .val (.int (1 : Int32)), .val (.long v1), .second] [(.long ((own_f1c2_48 q0 v0) + ((-7046029254386353131 : Int64) * (own_r2 (v1 + (-7046029254386353131 : Int64))))))])) rfl (by rw [hml]; rfl) (argsL := [(.long ((own_f1c2_48 q0 v0) + ((-7046029254386353131 : Int64) * (own_r2 (v1 + (-7046029254386353131 : Int64))))))]) (rest := []) (lenOf own_pd24 rfl) rfl (by show 2 * 0 + _ ≤ _; exact Nat.le_of_eq rfl) (hb hby own_d1_45) (fun _ _ => ⟨rfl, e9, (by decide : 0 + 0 ≤ _), (by decide : 0 + 0 ≤ _)⟩)
  dsimp only [Pt.U, Pt.locs, Pt.cells, Pt.slots] at X10 lq10 yq10 zq10 st10 hQ10
  subst lq10 yq10 zq10
  obtain ⟨rfl, N10q, e10⟩ := hQ10
  have N10 := Fr.app N9 N10q
  refine own_step st10 ?_
  show own_Run p e below T10 (mkF m 48 #[.val (.long q0), .second, .val (.ref a1), .val (.long (own_f1c2_48 q0 v0)), .second, .val (.ref a1), .val (.int (2 : Int32)), .val (.int (1 : Int32)), .val (.long v1), .second] [(.long (own_r2 ((own_f1c2_48 q0 v0) + ((-7046029254386353131 : Int64) * (own_r2 (v1 + (-7046029254386353131 : Int64)))))))]) _
  refine own_step (fun t k => XS.lstoreN X10.here hx rfl (hb hby own_d1_48) rfl (l' := #[.val (.long q0), .second, .val (.ref a1), .val (.long (own_f1c2_48' q0 v0 v1)), .second, .val (.ref a1), .val (.int (2 : Int32)), .val (.int (1 : Int32)), .val (.long v1), .second]) rfl k) ?_
  show own_Run p e below T10 (mkF m 49 #[.val (.long q0), .second, .val (.ref a1), .val (.long (own_f1c2_48' q0 v0 v1)), .second, .val (.ref a1), .val (.int (2 : Int32)), .val (.int (1 : Int32)), .val (.long v1), .second] []) _
  refine own_step (fun t k => XS.iinc X10.here hx rfl (hb hby own_d1_49) rfl (l' := #[.val (.long q0), .second, .val (.ref a1), .val (.long (own_f1c2_48' q0 v0 v1)), .second, .val (.ref a1), .val (.int (2 : Int32)), .val (.int (2 : Int32)), .val (.long v1), .second]) rfl k) ?_
  show own_Run p e below T10 (mkF m 52 #[.val (.long q0), .second, .val (.ref a1), .val (.long (own_f1c2_48' q0 v0 v1)), .second, .val (.ref a1), .val (.int (2 : Int32)), .val (.int (2 : Int32)), .val (.long v1), .second] []) _
  refine own_step (fun t k => XS.goto X10.here hx rfl (pc0 := 52) (pc' := 16) rfl (hb hby own_d1_52) (by decide) (by decide) k) ?_
  show own_Run p e below T10 (mkF m 16 #[.val (.long q0), .second, .val (.ref a1), .val (.long (own_f1c2_48' q0 v0 v1)), .second, .val (.ref a1), .val (.int (2 : Int32)), .val (.int (2 : Int32)), .val (.long v1), .second] []) _
  refine own_step (fun t k => XS.iload X10.here hx rfl (hb hby own_d1_16) rfl  k) ?_
  show own_Run p e below T10 (mkF m 18 #[.val (.long q0), .second, .val (.ref a1), .val (.long (own_f1c2_48' q0 v0 v1)), .second, .val (.ref a1), .val (.int (2 : Int32)), .val (.int (2 : Int32)), .val (.long v1), .second] [(.int (2 : Int32))]) _
  refine own_step (fun t k => XS.iload X10.here hx rfl (hb hby own_d1_18) rfl  k) ?_
  show own_Run p e below T10 (mkF m 20 #[.val (.long q0), .second, .val (.ref a1), .val (.long (own_f1c2_48' q0 v0 v1)), .second, .val (.ref a1), .val (.int (2 : Int32)), .val (.int (2 : Int32)), .val (.long v1), .second] [(.int (2 : Int32)), (.int (2 : Int32))]) _
  refine own_step (fun t k => XS.icmpYes X10.here hx rfl (pc0 := 20) (pc' := 55) rfl (hb hby own_d1_20) rfl (flt (by decide : ¬ ((2 : Int32) < (2 : Int32)))).2.1 (by decide) (by decide) k) ?_
  show own_Run p e below T10 (mkF m 55 #[.val (.long q0), .second, .val (.ref a1), .val (.long (own_f1c2_48' q0 v0 v1)), .second, .val (.ref a1), .val (.int (2 : Int32)), .val (.int (2 : Int32)), .val (.long v1), .second] []) _
  refine own_step (fun t k => XS.lloadN X10.here hx rfl (hb hby own_d1_55) rfl  k) ?_
  show own_Run p e below T10 (mkF m 56 #[.val (.long q0), .second, .val (.ref a1), .val (.long (own_f1c2_48' q0 v0 v1)), .second, .val (.ref a1), .val (.int (2 : Int32)), .val (.int (2 : Int32)), .val (.long v1), .second] [(.long (own_f1c2_48' q0 v0 v1))]) _
  exact own_retJ X10 hx hlk hret (hb hby own_d1_56) (by decide) (by decide) N10 e10
def own_f1c3_48 (q0 : Int64) (v0 : Int64) : Int64 := (own_r2 ((own_r2 q0) + ((-7046029254386353131 : Int64) * (own_r2 (v0 + (-7046029254386353131 : Int64))))))
def own_f1c3_48' (q0 : Int64) (v0 : Int64) (v1 : Int64) : Int64 := (own_r2 ((own_f1c3_48 q0 v0) + ((-7046029254386353131 : Int64) * (own_r2 (v1 + (-7046029254386353131 : Int64))))))
def own_f1c3_48'' (q0 : Int64) (v0 : Int64) (v1 : Int64) (v2 : Int64) : Int64 := (own_r2 ((own_f1c3_48' q0 v0 v1) + ((-7046029254386353131 : Int64) * (own_r2 (v2 + (-7046029254386353131 : Int64))))))
def own_r1c3 (q0 : Int64) (v0 : Int64) (v1 : Int64) (v2 : Int64) : Int64 := (own_f1c3_48'' q0 v0 v1 v2)
theorem own_ef1c3 (m : MethodId) (q0 : Int64) (a1 : Addr) : entryFrame m #[(.long q0), (.ref a1)] 10 = (mkF m 0 #[.val (.long q0), .second, .val (.ref a1), .unset, .unset, .unset, .unset, .unset, .unset, .unset] []) := by first | (simp [entryFrame, mkF, argsToLocals, Value.category]; done) | rfl
set_option maxRecDepth 65536 in
set_option maxHeartbeats 40000000 in
theorem rm1c3 (l : Launch) (Z : State) (av0 : Array Value) (hw : ∀ d ∈ tables_1, d.before av0 Z = true) (ws : List Jvm.Cond) (q0 : Int64) (a1 : Addr) (k1 : ClassId) (v0 : Int64) (v1 : Int64) (v2 : Int64) (h0 : Heap) (n0 : Nat) (Z0 : n0 ≤ h0.size) (V1 : Arv Z h0 a1 k1 .long (3 : Int32) [(.long v0), (.long v1), (.long v2)] (.long (0 : Int64))) :
    MetFree l (⟨"com/example/surefoot/surefoot/SplitMix", "derive", "(J[J)J"⟩ : MethodName) (head1 (Jvm.Cond.code (⟨"com/example/surefoot/surefoot/SplitMix", "derive", "(J[J)J"⟩ : MethodName) prog_23_method_3_code 10 (some .long) :: ws) ({ frames := 1, cells := 0, slots := 0, locals := 19 } : Room)) (fun a U => a = #[(.long q0), (.ref a1)] ∧ Z.Warmed39 U.vm ∧ U.heap = h0) (fun _ _ _ _ _ => True) (fun _ U o U' => ∃ v L, o = .returned v ∧ own_Q n0 (fun h => h = h0) (some (.long (own_r1c3 q0 v0 v1 v2))) v U'.heap L ∧ FrameEnd U o U' L ({ frames := 1, cells := 0, slots := 0, locals := 19 } : Room).cells ({ frames := 1, cells := 0, slots := 0, locals := 19 } : Room).slots) := by
  refine MetFree.of_bodySF (plainFor_of_name own_pn0) hisR ?_
  intro p e s m args below meth c s₁ Bd hml0 hP hK
  obtain ⟨rfl, hZ, hh⟩ := hP
  have hx := Bd.exec
  have hby := Bd.bytes
  have hml : c.maxLocals = 10 := hml0
  have hown : s.vm.findClass "com/example/surefoot/surefoot/SplitMix" = some m.cls := findClass_of_methodNamed Bd.named
  have hnm := (name_of_methodNamed Bd.named Bd.method).1
  have hret := Bd.returns
  have hlk : meth.locks = false := BodyLoose.notSynchronized Bd
  have X0 : Stand p l e ({ frames := 1, cells := 0, slots := 0, locals := 19 } : Room) s m #[(.long q0), (.ref a1)] below meth c s₁ [] 0 0 := Stand.of_body Bd
  have e0 : s₁.heap = h0 := by rw [← hh, Bd.state]; rfl
  have N0 := Fr.nil n0
  clear Bd hh hK
  refine own_fin ?_
  refine own_entry (own_ef1c3 m q0 a1) ?_
  show own_Run p e below s₁ _ (own_Ret _ s below _ _ (own_Q n0 _ (some (.long (own_f1c3_48'' q0 v0 v1 v2)))))
  show own_Run p e below s₁ (mkF m 0 #[.val (.long q0), .second, .val (.ref a1), .unset, .unset, .unset, .unset, .unset, .unset, .unset] []) _
  refine own_step (fun t k => XS.lloadN X0.here hx rfl (hb hby own_d1_0) rfl  k) ?_
  show own_Run p e below s₁ (mkF m 1 #[.val (.long q0), .second, .val (.ref a1), .unset, .unset, .unset, .unset, .unset, .unset, .unset] [(.long q0)]) _
  obtain ⟨_, _, ⟨T8, L8, kq8, nq8⟩, -, X8, ⟨Lc8, hQ8, lq8, yq8, zq8⟩, st8⟩ := Jvm.LawKit.callS X0 hx (y := (⟨"com/example/surefoot/surefoot/SplitMix", "mix", "(J)J"⟩ : MethodName)) hown (mvT hZ (hw _ (List.mem_of_getElem? (i := 5) rfl))) (mvT hZ (hw _ (List.mem_of_getElem? (i := 6) rfl))) (mvT hZ (hw _ (List.mem_of_getElem? (i := 3) rfl))) (mvT hZ (hw _ (List.mem_of_getElem? (i := 7) rfl))) (by decide) (backOf (W := 0) (rm2 l Z av0 hw [] q0 h0 n0 Z0 ) hZ (hw _ (List.mem_of_getElem? (i := 7) rfl)) (hw _ (List.mem_of_getElem? (i := 3) rfl)) (by decide) (by decide)) (g := (mkF m 1 #[.val (.long q0), .second, .val (.ref a1), .unset, .unset, .unset, .unset, .unset, .unset, .unset] [(.long q0)])) rfl (by rw [hml]; rfl) (argsL := [(.long q0)]) (rest := []) (lenOf own_pd24 rfl) rfl (by show 2 * 0 + _ ≤ _; exact Nat.le_of_eq rfl) (hb hby own_d1_1) (fun _ _ => ⟨rfl, e0, (by decide : 0 + 0 ≤ _), (by decide : 0 + 0 ≤ _)⟩)
  dsimp only [Pt.U, Pt.locs, Pt.cells, Pt.slots] at X8 lq8 yq8 zq8 st8 hQ8
  subst lq8 yq8 zq8
  obtain ⟨rfl, N8q, e8⟩ := hQ8
  have N8 := Fr.app N0 N8q
  refine own_step st8 ?_
  show own_Run p e below T8 (mkF m 4 #[.val (.long q0), .second, .val (.ref a1), .unset, .unset, .unset, .unset, .unset, .unset, .unset] [(.long (own_r2 q0))]) _
  refine own_step (fun t k => XS.lstoreN X8.here hx rfl (hb hby own_d1_4) rfl (l' := #[.val (.long q0), .second, .val (.ref a1), .val (.long (own_r2 q0)), .second, .unset, .unset, .unset, .unset, .unset]) rfl k) ?_
  show own_Run p e below T8 (mkF m 5 #[.val (.long q0), .second, .val (.ref a1), .val (.long (own_r2 q0)), .second, .unset, .unset, .unset, .unset, .unset] []) _
  refine own_step (fun t k => XS.aloadN X8.here hx rfl (hb hby own_d1_5) rfl rfl k) ?_
  show own_Run p e below T8 (mkF m 6 #[.val (.long q0), .second, .val (.ref a1), .val (.long (own_r2 q0)), .second, .unset, .unset, .unset, .unset, .unset] [(.ref a1)]) _
  refine own_step (fun t k => XS.astore X8.here hx rfl (hb hby own_d1_6) rfl rfl (l' := #[.val (.long q0), .second, .val (.ref a1), .val (.long (own_r2 q0)), .second, .val (.ref a1), .unset, .unset, .unset, .unset]) rfl k) ?_
  show own_Run p e below T8 (mkF m 8 #[.val (.long q0), .second, .val (.ref a1), .val (.long (own_r2 q0)), .second, .val (.ref a1), .unset, .unset, .unset, .unset] []) _
  refine own_step (fun t k => XS.aload X8.here hx rfl (hb hby own_d1_8) rfl rfl k) ?_
  show own_Run p e below T8 (mkF m 10 #[.val (.long q0), .second, .val (.ref a1), .val (.long (own_r2 q0)), .second, .val (.ref a1), .unset, .unset, .unset, .unset] [(.ref a1)]) _
  refine own_step (own_len X8 hx hZ e8 V1 (g := (mkF m 10 #[.val (.long q0), .second, .val (.ref a1), .val (.long (own_r2 q0)), .second, .val (.ref a1), .unset, .unset, .unset, .unset] [(.ref a1)])) rfl rfl (hb hby own_d1_10)) ?_
  show own_Run p e below T8 (mkF m 11 #[.val (.long q0), .second, .val (.ref a1), .val (.long (own_r2 q0)), .second, .val (.ref a1), .unset, .unset, .unset, .unset] [(.int (3 : Int32))]) _
  refine own_step (fun t k => XS.istore X8.here hx rfl (hb hby own_d1_11) rfl (l' := #[.val (.long q0), .second, .val (.ref a1), .val (.long (own_r2 q0)), .second, .val (.ref a1), .val (.int (3 : Int32)), .unset, .unset, .unset]) rfl k) ?_
  show own_Run p e below T8 (mkF m 13 #[.val (.long q0), .second, .val (.ref a1), .val (.long (own_r2 q0)), .second, .val (.ref a1), .val (.int (3 : Int32)), .unset, .unset, .unset] []) _
  refine own_step (fun t k => XS.iconst X8.here hx rfl (hb hby own_d1_13) k) ?_
  show own_Run p e below T8 (mkF m 14 #[.val (.long q0), .second, .val (.ref a1), .val (.long (own_r2 q0)), .second, .val (.ref a1), .val (.int (3 : Int32)), .unset, .unset, .unset] [(.int (0 : Int32))]) _
  refine own_step (fun t k => XS.istore X8.here hx rfl (hb hby own_d1_14) rfl (l' := #[.val (.long q0), .second, .val (.ref a1), .val (.long (own_r2 q0)), .second, .val (.ref a1), .val (.int (3 : Int32)), .val (.int (0 : Int32)), .unset, .unset]) rfl k) ?_
  show own_Run p e below T8 (mkF m 16 #[.val (.long q0), .second, .val (.ref a1), .val (.long (own_r2 q0)), .second, .val (.ref a1), .val (.int (3 : Int32)), .val (.int (0 : Int32)), .unset, .unset] []) _
  refine own_step (fun t k => XS.iload X8.here hx rfl (hb hby own_d1_16) rfl  k) ?_
  show own_Run p e below T8 (mkF m 18 #[.val (.long q0), .second, .val (.ref a1), .val (.long (own_r2 q0)), .second, .val (.ref a1), .val (.int (3 : Int32)), .val (.int (0 : Int32)), .unset, .unset] [(.int (0 : Int32))]) _
  refine own_step (fun t k => XS.iload X8.here hx rfl (hb hby own_d1_18) rfl  k) ?_
  show own_Run p e below T8 (mkF m 20 #[.val (.long q0), .second, .val (.ref a1), .val (.long (own_r2 q0)), .second, .val (.ref a1), .val (.int (3 : Int32)), .val (.int (0 : Int32)), .unset, .unset] [(.int (3 : Int32)), (.int (0 : Int32))]) _
  refine own_step (fun t k => XS.icmpNo X8.here hx rfl (hb hby own_d1_20) rfl (tlt (by decide : (0 : Int32) < (3 : Int32))).2.1 k) ?_
  show own_Run p e below T8 (mkF m 23 #[.val (.long q0), .second, .val (.ref a1), .val (.long (own_r2 q0)), .second, .val (.ref a1), .val (.int (3 : Int32)), .val (.int (0 : Int32)), .unset, .unset] []) _
  refine own_step (fun t k => XS.aload X8.here hx rfl (hb hby own_d1_23) rfl rfl k) ?_
  show own_Run p e below T8 (mkF m 25 #[.val (.long q0), .second, .val (.ref a1), .val (.long (own_r2 q0)), .second, .val (.ref a1), .val (.int (3 : Int32)), .val (.int (0 : Int32)), .unset, .unset] [(.ref a1)]) _
  refine own_step (fun t k => XS.iload X8.here hx rfl (hb hby own_d1_25) rfl  k) ?_
  show own_Run p e below T8 (mkF m 27 #[.val (.long q0), .second, .val (.ref a1), .val (.long (own_r2 q0)), .second, .val (.ref a1), .val (.int (3 : Int32)), .val (.int (0 : Int32)), .unset, .unset] [(.int (0 : Int32)), (.ref a1)]) _
  refine own_step (own_ldJ X8 hx hZ e8 V1 (j := (0 : Int32)) (v := (.long v0)) ⟨by decide, by decide⟩ rfl (g := (mkF m 27 #[.val (.long q0), .second, .val (.ref a1), .val (.long (own_r2 q0)), .second, .val (.ref a1), .val (.int (3 : Int32)), .val (.int (0 : Int32)), .unset, .unset] [(.int (0 : Int32)), (.ref a1)])) rfl rfl (hb hby own_d1_27)) ?_
  show own_Run p e below T8 (mkF m 28 #[.val (.long q0), .second, .val (.ref a1), .val (.long (own_r2 q0)), .second, .val (.ref a1), .val (.int (3 : Int32)), .val (.int (0 : Int32)), .unset, .unset] [(.long v0)]) _
  refine own_step (fun t k => XS.lstore X8.here hx rfl (hb hby own_d1_28) rfl (l' := #[.val (.long q0), .second, .val (.ref a1), .val (.long (own_r2 q0)), .second, .val (.ref a1), .val (.int (3 : Int32)), .val (.int (0 : Int32)), .val (.long v0), .second]) rfl k) ?_
  show own_Run p e below T8 (mkF m 30 #[.val (.long q0), .second, .val (.ref a1), .val (.long (own_r2 q0)), .second, .val (.ref a1), .val (.int (3 : Int32)), .val (.int (0 : Int32)), .val (.long v0), .second] []) _
  refine own_step (fun t k => XS.lloadN X8.here hx rfl (hb hby own_d1_30) rfl  k) ?_
  show own_Run p e below T8 (mkF m 31 #[.val (.long q0), .second, .val (.ref a1), .val (.long (own_r2 q0)), .second, .val (.ref a1), .val (.int (3 : Int32)), .val (.int (0 : Int32)), .val (.long v0), .second] [(.long (own_r2 q0))]) _
  refine own_step (fun t k => X8.ldc2Long hx hown (mvT hZ (hw _ (List.mem_of_getElem? (i := 10) rfl))) (g := (mkF m 31 #[.val (.long q0), .second, .val (.ref a1), .val (.long (own_r2 q0)), .second, .val (.ref a1), .val (.int (3 : Int32)), .val (.int (0 : Int32)), .val (.long v0), .second] [(.long (own_r2 q0))])) rfl (hb hby own_d1_31) t k) ?_
  show own_Run p e below T8 (mkF m 34 #[.val (.long q0), .second, .val (.ref a1), .val (.long (own_r2 q0)), .second, .val (.ref a1), .val (.int (3 : Int32)), .val (.int (0 : Int32)), .val (.long v0), .second] [(.long (-7046029254386353131 : Int64)), (.long (own_r2 q0))]) _
  refine own_step (fun t k => XS.lload X8.here hx rfl (hb hby own_d1_34) rfl  k) ?_
  show own_Run p e below T8 (mkF m 36 #[.val (.long q0), .second, .val (.ref a1), .val (.long (own_r2 q0)), .second, .val (.ref a1), .val (.int (3 : Int32)), .val (.int (0 : Int32)), .val (.long v0), .second] [(.long v0), (.long (-7046029254386353131 : Int64)), (.long (own_r2 q0))]) _
  refine own_step (fun t k => X8.ldc2Long hx hown (mvT hZ (hw _ (List.mem_of_getElem? (i := 10) rfl))) (g := (mkF m 36 #[.val (.long q0), .second, .val (.ref a1), .val (.long (own_r2 q0)), .second, .val (.ref a1), .val (.int (3 : Int32)), .val (.int (0 : Int32)), .val (.long v0), .second] [(.long v0), (.long (-7046029254386353131 : Int64)), (.long (own_r2 q0))])) rfl (hb hby own_d1_36) t k) ?_
  show own_Run p e below T8 (mkF m 39 #[.val (.long q0), .second, .val (.ref a1), .val (.long (own_r2 q0)), .second, .val (.ref a1), .val (.int (3 : Int32)), .val (.int (0 : Int32)), .val (.long v0), .second] [(.long (-7046029254386353131 : Int64)), (.long v0), (.long (-7046029254386353131 : Int64)), (.long (own_r2 q0))]) _
  refine own_step (fun t k => XS.ladd X8.here hx rfl (hb hby own_d1_39) rfl k) ?_
  show own_Run p e below T8 (mkF m 40 #[.val (.long q0), .second, .val (.ref a1), .val (.long (own_r2 q0)), .second, .val (.ref a1), .val (.int (3 : Int32)), .val (.int (0 : Int32)), .val (.long v0), .second] [(.long (v0 + (-7046029254386353131 : Int64))), (.long (-7046029254386353131 : Int64)), (.long (own_r2 q0))]) _
  obtain ⟨_, _, ⟨T9, L9, kq9, nq9⟩, -, X9, ⟨Lc9, hQ9, lq9, yq9, zq9⟩, st9⟩ := Jvm.LawKit.callS X8 hx (y := (⟨"com/example/surefoot/surefoot/SplitMix", "mix", "(J)J"⟩ : MethodName)) hown (mvT hZ (hw _ (List.mem_of_getElem? (i := 5) rfl))) (mvT hZ (hw _ (List.mem_of_getElem? (i := 6) rfl))) (mvT hZ (hw _ (List.mem_of_getElem? (i := 3) rfl))) (mvT hZ (hw _ (List.mem_of_getElem? (i := 7) rfl))) (by decide) (backOf (W := 4) (rm2 l Z av0 hw [] (v0 + (-7046029254386353131 : Int64)) h0 n0 Z0 ) hZ (hw _ (List.mem_of_getElem? (i := 7) rfl)) (hw _ (List.mem_of_getElem? (i := 3) rfl)) (by decide) (by decide)) (g := (mkF m 40 #[.val (.long q0), .second, .val (.ref a1), .val (.long (own_r2 q0)), .second, .val (.ref a1), .val (.int (3 : Int32)), .val (.int (0 : Int32)), .val (.long v0), .second] [(.long (v0 + (-7046029254386353131 : Int64))), (.long (-7046029254386353131 : Int64)), (.long (own_r2 q0))])) rfl (by rw [hml]; rfl) (argsL := [(.long (v0 + (-7046029254386353131 : Int64)))]) (rest := [(.long (-7046029254386353131 : Int64)), (.long (own_r2 q0))]) (lenOf own_pd24 rfl) rfl (by show 2 * 0 + _ ≤ _; exact Nat.le_of_eq rfl) (hb hby own_d1_40) (fun _ _ => ⟨rfl, e8, (by decide : 0 + 0 ≤ _), (by decide : 0 + 0 ≤ _)⟩)
  dsimp only [Pt.U, Pt.locs, Pt.cells, Pt.slots] at X9 lq9 yq9 zq9 st9 hQ9
  subst lq9 yq9 zq9
  obtain ⟨rfl, N9q, e9⟩ := hQ9
  have N9 := Fr.app N8 N9q
  refine own_step st9 ?_
  show own_Run p e below T9 (mkF m 43 #[.val (.long q0), .second, .val (.ref a1), .val (.long (own_r2 q0)), .second, .val (.ref a1), .val (.int (3 : Int32)), .val (.int (0 : Int32)), .val (.long v0), .second] [(.long (own_r2 (v0 + (-7046029254386353131 : Int64)))), (.long (-7046029254386353131 : Int64)), (.long (own_r2 q0))]) _
  refine own_step (fun t k => XS.lmul X9.here hx rfl (hb hby own_d1_43) rfl k) ?_
  show own_Run p e below T9 (mkF m 44 #[.val (.long q0), .second, .val (.ref a1), .val (.long (own_r2 q0)), .second, .val (.ref a1), .val (.int (3 : Int32)), .val (.int (0 : Int32)), .val (.long v0), .second] [(.long ((-7046029254386353131 : Int64) * (own_r2 (v0 + (-7046029254386353131 : Int64))))), (.long (own_r2 q0))]) _
  refine own_step (fun t k => XS.ladd X9.here hx rfl (hb hby own_d1_44) rfl k) ?_
  show own_Run p e below T9 (mkF m 45 #[.val (.long q0), .second, .val (.ref a1), .val (.long (own_r2 q0)), .second, .val (.ref a1), .val (.int (3 : Int32)), .val (.int (0 : Int32)), .val (.long v0), .second] [(.long ((own_r2 q0) + ((-7046029254386353131 : Int64) * (own_r2 (v0 + (-7046029254386353131 : Int64))))))]) _
  obtain ⟨_, _, ⟨T10, L10, kq10, nq10⟩, -, X10, ⟨Lc10, hQ10, lq10, yq10, zq10⟩, st10⟩ := Jvm.LawKit.callS X9 hx (y := (⟨"com/example/surefoot/surefoot/SplitMix", "mix", "(J)J"⟩ : MethodName)) hown (mvT hZ (hw _ (List.mem_of_getElem? (i := 5) rfl))) (mvT hZ (hw _ (List.mem_of_getElem? (i := 6) rfl))) (mvT hZ (hw _ (List.mem_of_getElem? (i := 3) rfl))) (mvT hZ (hw _ (List.mem_of_getElem? (i := 7) rfl))) (by decide) (backOf (W := 0) (rm2 l Z av0 hw [] ((own_r2 q0) + ((-7046029254386353131 : Int64) * (own_r2 (v0 + (-7046029254386353131 : Int64))))) h0 n0 Z0 ) hZ (hw _ (List.mem_of_getElem? (i := 7) rfl)) (hw _ (List.mem_of_getElem? (i := 3) rfl)) (by decide) (by decide)) (g := (mkF m 45 #[.val (.long q0), .second, .val (.ref a1), .val (.long (own_r2 q0)), .second, .val (.ref a1), .val (.int (3 : Int32)), .val (.int (0 : Int32)), .val (.long v0), .second] [(.long ((own_r2 q0) + ((-7046029254386353131 : Int64) * (own_r2 (v0 + (-7046029254386353131 : Int64))))))])) rfl (by rw [hml]; rfl) (argsL := [(.long ((own_r2 q0) + ((-7046029254386353131 : Int64) * (own_r2 (v0 + (-7046029254386353131 : Int64))))))]) (rest := []) (lenOf own_pd24 rfl) rfl (by show 2 * 0 + _ ≤ _; exact Nat.le_of_eq rfl) (hb hby own_d1_45) (fun _ _ => ⟨rfl, e9, (by decide : 0 + 0 ≤ _), (by decide : 0 + 0 ≤ _)⟩)
  dsimp only [Pt.U, Pt.locs, Pt.cells, Pt.slots] at X10 lq10 yq10 zq10 st10 hQ10
  subst lq10 yq10 zq10
  obtain ⟨rfl, N10q, e10⟩ := hQ10
  have N10 := Fr.app N9 N10q
  refine own_step st10 ?_
  show own_Run p e below T10 (mkF m 48 #[.val (.long q0), .second, .val (.ref a1), .val (.long (own_r2 q0)), .second, .val (.ref a1), .val (.int (3 : Int32)), .val (.int (0 : Int32)), .val (.long v0), .second] [(.long (own_r2 ((own_r2 q0) + ((-7046029254386353131 : Int64) * (own_r2 (v0 + (-7046029254386353131 : Int64)))))))]) _
  refine own_step (fun t k => XS.lstoreN X10.here hx rfl (hb hby own_d1_48) rfl (l' := #[.val (.long q0), .second, .val (.ref a1), .val (.long (own_f1c3_48 q0 v0)), .second, .val (.ref a1), .val (.int (3 : Int32)), .val (.int (0 : Int32)), .val (.long v0), .second]) rfl k) ?_
  show own_Run p e below T10 (mkF m 49 #[.val (.long q0), .second, .val (.ref a1), .val (.long (own_f1c3_48 q0 v0)), .second, .val (.ref a1), .val (.int (3 : Int32)), .val (.int (0 : Int32)), .val (.long v0), .second] []) _
  refine own_step (fun t k => XS.iinc X10.here hx rfl (hb hby own_d1_49) rfl (l' := #[.val (.long q0), .second, .val (.ref a1), .val (.long (own_f1c3_48 q0 v0)), .second, .val (.ref a1), .val (.int (3 : Int32)), .val (.int (1 : Int32)), .val (.long v0), .second]) rfl k) ?_
  show own_Run p e below T10 (mkF m 52 #[.val (.long q0), .second, .val (.ref a1), .val (.long (own_f1c3_48 q0 v0)), .second, .val (.ref a1), .val (.int (3 : Int32)), .val (.int (1 : Int32)), .val (.long v0), .second] []) _
  refine own_step (fun t k => XS.goto X10.here hx rfl (pc0 := 52) (pc' := 16) rfl (hb hby own_d1_52) (by decide) (by decide) k) ?_
  show own_Run p e below T10 (mkF m 16 #[.val (.long q0), .second, .val (.ref a1), .val (.long (own_f1c3_48 q0 v0)), .second, .val (.ref a1), .val (.int (3 : Int32)), .val (.int (1 : Int32)), .val (.long v0), .second] []) _
  refine own_step (fun t k => XS.iload X10.here hx rfl (hb hby own_d1_16) rfl  k) ?_
  show own_Run p e below T10 (mkF m 18 #[.val (.long q0), .second, .val (.ref a1), .val (.long (own_f1c3_48 q0 v0)), .second, .val (.ref a1), .val (.int (3 : Int32)), .val (.int (1 : Int32)), .val (.long v0), .second] [(.int (1 : Int32))]) _
  refine own_step (fun t k => XS.iload X10.here hx rfl (hb hby own_d1_18) rfl  k) ?_
  show own_Run p e below T10 (mkF m 20 #[.val (.long q0), .second, .val (.ref a1), .val (.long (own_f1c3_48 q0 v0)), .second, .val (.ref a1), .val (.int (3 : Int32)), .val (.int (1 : Int32)), .val (.long v0), .second] [(.int (3 : Int32)), (.int (1 : Int32))]) _
  refine own_step (fun t k => XS.icmpNo X10.here hx rfl (hb hby own_d1_20) rfl (tlt (by decide : (1 : Int32) < (3 : Int32))).2.1 k) ?_
  show own_Run p e below T10 (mkF m 23 #[.val (.long q0), .second, .val (.ref a1), .val (.long (own_f1c3_48 q0 v0)), .second, .val (.ref a1), .val (.int (3 : Int32)), .val (.int (1 : Int32)), .val (.long v0), .second] []) _
  refine own_step (fun t k => XS.aload X10.here hx rfl (hb hby own_d1_23) rfl rfl k) ?_
  show own_Run p e below T10 (mkF m 25 #[.val (.long q0), .second, .val (.ref a1), .val (.long (own_f1c3_48 q0 v0)), .second, .val (.ref a1), .val (.int (3 : Int32)), .val (.int (1 : Int32)), .val (.long v0), .second] [(.ref a1)]) _
  refine own_step (fun t k => XS.iload X10.here hx rfl (hb hby own_d1_25) rfl  k) ?_
  show own_Run p e below T10 (mkF m 27 #[.val (.long q0), .second, .val (.ref a1), .val (.long (own_f1c3_48 q0 v0)), .second, .val (.ref a1), .val (.int (3 : Int32)), .val (.int (1 : Int32)), .val (.long v0), .second] [(.int (1 : Int32)), (.ref a1)]) _
  refine own_step (own_ldJ X10 hx hZ e10 V1 (j := (1 : Int32)) (v := (.long v1)) ⟨by decide, by decide⟩ rfl (g := (mkF m 27 #[.val (.long q0), .second, .val (.ref a1), .val (.long (own_f1c3_48 q0 v0)), .second, .val (.ref a1), .val (.int (3 : Int32)), .val (.int (1 : Int32)), .val (.long v0), .second] [(.int (1 : Int32)), (.ref a1)])) rfl rfl (hb hby own_d1_27)) ?_
  show own_Run p e below T10 (mkF m 28 #[.val (.long q0), .second, .val (.ref a1), .val (.long (own_f1c3_48 q0 v0)), .second, .val (.ref a1), .val (.int (3 : Int32)), .val (.int (1 : Int32)), .val (.long v0), .second] [(.long v1)]) _
  refine own_step (fun t k => XS.lstore X10.here hx rfl (hb hby own_d1_28) rfl (l' := #[.val (.long q0), .second, .val (.ref a1), .val (.long (own_f1c3_48 q0 v0)), .second, .val (.ref a1), .val (.int (3 : Int32)), .val (.int (1 : Int32)), .val (.long v1), .second]) rfl k) ?_
  show own_Run p e below T10 (mkF m 30 #[.val (.long q0), .second, .val (.ref a1), .val (.long (own_f1c3_48 q0 v0)), .second, .val (.ref a1), .val (.int (3 : Int32)), .val (.int (1 : Int32)), .val (.long v1), .second] []) _
  refine own_step (fun t k => XS.lloadN X10.here hx rfl (hb hby own_d1_30) rfl  k) ?_
  show own_Run p e below T10 (mkF m 31 #[.val (.long q0), .second, .val (.ref a1), .val (.long (own_f1c3_48 q0 v0)), .second, .val (.ref a1), .val (.int (3 : Int32)), .val (.int (1 : Int32)), .val (.long v1), .second] [(.long (own_f1c3_48 q0 v0))]) _
  refine own_step (fun t k => X10.ldc2Long hx hown (mvT hZ (hw _ (List.mem_of_getElem? (i := 10) rfl))) (g := (mkF m 31 #[.val (.long q0), .second, .val (.ref a1), .val (.long (own_f1c3_48 q0 v0)), .second, .val (.ref a1), .val (.int (3 : Int32)), .val (.int (1 : Int32)), .val (.long v1), .second] [(.long (own_f1c3_48 q0 v0))])) rfl (hb hby own_d1_31) t k) ?_
  show own_Run p e below T10 (mkF m 34 #[.val (.long q0), .second, .val (.ref a1), .val (.long (own_f1c3_48 q0 v0)), .second, .val (.ref a1), .val (.int (3 : Int32)), .val (.int (1 : Int32)), .val (.long v1), .second] [(.long (-7046029254386353131 : Int64)), (.long (own_f1c3_48 q0 v0))]) _
  refine own_step (fun t k => XS.lload X10.here hx rfl (hb hby own_d1_34) rfl  k) ?_
  show own_Run p e below T10 (mkF m 36 #[.val (.long q0), .second, .val (.ref a1), .val (.long (own_f1c3_48 q0 v0)), .second, .val (.ref a1), .val (.int (3 : Int32)), .val (.int (1 : Int32)), .val (.long v1), .second] [(.long v1), (.long (-7046029254386353131 : Int64)), (.long (own_f1c3_48 q0 v0))]) _
  refine own_step (fun t k => X10.ldc2Long hx hown (mvT hZ (hw _ (List.mem_of_getElem? (i := 10) rfl))) (g := (mkF m 36 #[.val (.long q0), .second, .val (.ref a1), .val (.long (own_f1c3_48 q0 v0)), .second, .val (.ref a1), .val (.int (3 : Int32)), .val (.int (1 : Int32)), .val (.long v1), .second] [(.long v1), (.long (-7046029254386353131 : Int64)), (.long (own_f1c3_48 q0 v0))])) rfl (hb hby own_d1_36) t k) ?_
  show own_Run p e below T10 (mkF m 39 #[.val (.long q0), .second, .val (.ref a1), .val (.long (own_f1c3_48 q0 v0)), .second, .val (.ref a1), .val (.int (3 : Int32)), .val (.int (1 : Int32)), .val (.long v1), .second] [(.long (-7046029254386353131 : Int64)), (.long v1), (.long (-7046029254386353131 : Int64)), (.long (own_f1c3_48 q0 v0))]) _
  refine own_step (fun t k => XS.ladd X10.here hx rfl (hb hby own_d1_39) rfl k) ?_
  show own_Run p e below T10 (mkF m 40 #[.val (.long q0), .second, .val (.ref a1), .val (.long (own_f1c3_48 q0 v0)), .second, .val (.ref a1), .val (.int (3 : Int32)), .val (.int (1 : Int32)), .val (.long v1), .second] [(.long (v1 + (-7046029254386353131 : Int64))), (.long (-7046029254386353131 : Int64)), (.long (own_f1c3_48 q0 v0))]) _
  obtain ⟨_, _, ⟨T11, L11, kq11, nq11⟩, -, X11, ⟨Lc11, hQ11, lq11, yq11, zq11⟩, st11⟩ := Jvm.LawKit.callS X10 hx (y := (⟨"com/example/surefoot/surefoot/SplitMix", "mix", "(J)J"⟩ : MethodName)) hown (mvT hZ (hw _ (List.mem_of_getElem? (i := 5) rfl))) (mvT hZ (hw _ (List.mem_of_getElem? (i := 6) rfl))) (mvT hZ (hw _ (List.mem_of_getElem? (i := 3) rfl))) (mvT hZ (hw _ (List.mem_of_getElem? (i := 7) rfl))) (by decide) (backOf (W := 4) (rm2 l Z av0 hw [] (v1 + (-7046029254386353131 : Int64)) h0 n0 Z0 ) hZ (hw _ (List.mem_of_getElem? (i := 7) rfl)) (hw _ (List.mem_of_getElem? (i := 3) rfl)) (by decide) (by decide)) (g := (mkF m 40 #[.val (.long q0), .second, .val (.ref a1), .val (.long (own_f1c3_48 q0 v0)), .second, .val (.ref a1), .val (.int (3 : Int32)), .val (.int (1 : Int32)), .val (.long v1), .second] [(.long (v1 + (-7046029254386353131 : Int64))), (.long (-7046029254386353131 : Int64)), (.long (own_f1c3_48 q0 v0))])) rfl (by rw [hml]; rfl) (argsL := [(.long (v1 + (-7046029254386353131 : Int64)))]) (rest := [(.long (-7046029254386353131 : Int64)), (.long (own_f1c3_48 q0 v0))]) (lenOf own_pd24 rfl) rfl (by show 2 * 0 + _ ≤ _; exact Nat.le_of_eq rfl) (hb hby own_d1_40) (fun _ _ => ⟨rfl, e10, (by decide : 0 + 0 ≤ _), (by decide : 0 + 0 ≤ _)⟩)
  dsimp only [Pt.U, Pt.locs, Pt.cells, Pt.slots] at X11 lq11 yq11 zq11 st11 hQ11
  subst lq11 yq11 zq11
  obtain ⟨rfl, N11q, e11⟩ := hQ11
  have N11 := Fr.app N10 N11q
  refine own_step st11 ?_
  show own_Run p e below T11 (mkF m 43 #[.val (.long q0), .second, .val (.ref a1), .val (.long (own_f1c3_48 q0 v0)), .second, .val (.ref a1), .val (.int (3 : Int32)), .val (.int (1 : Int32)), .val (.long v1), .second] [(.long (own_r2 (v1 + (-7046029254386353131 : Int64)))), (.long (-7046029254386353131 : Int64)), (.long (own_f1c3_48 q0 v0))]) _
  refine own_step (fun t k => XS.lmul X11.here hx rfl (hb hby own_d1_43) rfl k) ?_
  show own_Run p e below T11 (mkF m 44 #[.val (.long q0), .second, .val (.ref a1), .val (.long (own_f1c3_48 q0 v0)), .second, .val (.ref a1), .val (.int (3 : Int32)), .val (.int (1 : Int32)), .val (.long v1), .second] [(.long ((-7046029254386353131 : Int64) * (own_r2 (v1 + (-7046029254386353131 : Int64))))), (.long (own_f1c3_48 q0 v0))]) _
  refine own_step (fun t k => XS.ladd X11.here hx rfl (hb hby own_d1_44) rfl k) ?_
  show own_Run p e below T11 (mkF m 45 #[.val (.long q0), .second, .val (.ref a1), .val (.long (own_f1c3_48 q0 v0)), .second, .val (.ref a1), .val (.int (3 : Int32)), .val (.int (1 : Int32)), .val (.long v1), .second] [(.long ((own_f1c3_48 q0 v0) + ((-7046029254386353131 : Int64) * (own_r2 (v1 + (-7046029254386353131 : Int64))))))]) _
  obtain ⟨_, _, ⟨T12, L12, kq12, nq12⟩, -, X12, ⟨Lc12, hQ12, lq12, yq12, zq12⟩, st12⟩ := Jvm.LawKit.callS X11 hx (y := (⟨"com/example/surefoot/surefoot/SplitMix", "mix", "(J)J"⟩ : MethodName)) hown (mvT hZ (hw _ (List.mem_of_getElem? (i := 5) rfl))) (mvT hZ (hw _ (List.mem_of_getElem? (i := 6) rfl))) (mvT hZ (hw _ (List.mem_of_getElem? (i := 3) rfl))) (mvT hZ (hw _ (List.mem_of_getElem? (i := 7) rfl))) (by decide) (backOf (W := 0) (rm2 l Z av0 hw [] ((own_f1c3_48 q0 v0) + ((-7046029254386353131 : Int64) * (own_r2 (v1 + (-7046029254386353131 : Int64))))) h0 n0 Z0 ) hZ (hw _ (List.mem_of_getElem? (i := 7) rfl)) (hw _ (List.mem_of_getElem? (i := 3) rfl)) (by decide) (by decide)) (g := (mkF m 45 #[.val (.long q0), .second, .val (.ref a1), .val (.long (own_f1c3_48 q0 v0)), .second, .val (.ref a1), .val (.int (3 : Int32)), .val (.int (1 : Int32)), .val (.long v1), .second] [(.long ((own_f1c3_48 q0 v0) + ((-7046029254386353131 : Int64) * (own_r2 (v1 + (-7046029254386353131 : Int64))))))])) rfl (by rw [hml]; rfl) (argsL := [(.long ((own_f1c3_48 q0 v0) + ((-7046029254386353131 : Int64) * (own_r2 (v1 + (-7046029254386353131 : Int64))))))]) (rest := []) (lenOf own_pd24 rfl) rfl (by show 2 * 0 + _ ≤ _; exact Nat.le_of_eq rfl) (hb hby own_d1_45) (fun _ _ => ⟨rfl, e11, (by decide : 0 + 0 ≤ _), (by decide : 0 + 0 ≤ _)⟩)
  dsimp only [Pt.U, Pt.locs, Pt.cells, Pt.slots] at X12 lq12 yq12 zq12 st12 hQ12
  subst lq12 yq12 zq12
  obtain ⟨rfl, N12q, e12⟩ := hQ12
  have N12 := Fr.app N11 N12q
  refine own_step st12 ?_
  show own_Run p e below T12 (mkF m 48 #[.val (.long q0), .second, .val (.ref a1), .val (.long (own_f1c3_48 q0 v0)), .second, .val (.ref a1), .val (.int (3 : Int32)), .val (.int (1 : Int32)), .val (.long v1), .second] [(.long (own_r2 ((own_f1c3_48 q0 v0) + ((-7046029254386353131 : Int64) * (own_r2 (v1 + (-7046029254386353131 : Int64)))))))]) _
  refine own_step (fun t k => XS.lstoreN X12.here hx rfl (hb hby own_d1_48) rfl (l' := #[.val (.long q0), .second, .val (.ref a1), .val (.long (own_f1c3_48' q0 v0 v1)), .second, .val (.ref a1), .val (.int (3 : Int32)), .val (.int (1 : Int32)), .val (.long v1), .second]) rfl k) ?_
  show own_Run p e below T12 (mkF m 49 #[.val (.long q0), .second, .val (.ref a1), .val (.long (own_f1c3_48' q0 v0 v1)), .second, .val (.ref a1), .val (.int (3 : Int32)), .val (.int (1 : Int32)), .val (.long v1), .second] []) _
  refine own_step (fun t k => XS.iinc X12.here hx rfl (hb hby own_d1_49) rfl (l' := #[.val (.long q0), .second, .val (.ref a1), .val (.long (own_f1c3_48' q0 v0 v1)), .second, .val (.ref a1), .val (.int (3 : Int32)), .val (.int (2 : Int32)), .val (.long v1), .second]) rfl k) ?_
  show own_Run p e below T12 (mkF m 52 #[.val (.long q0), .second, .val (.ref a1), .val (.long (own_f1c3_48' q0 v0 v1)), .second, .val (.ref a1), .val (.int (3 : Int32)), .val (.int (2 : Int32)), .val (.long v1), .second] []) _
  refine own_step (fun t k => XS.goto X12.here hx rfl (pc0 := 52) (pc' := 16) rfl (hb hby own_d1_52) (by decide) (by decide) k) ?_
  show own_Run p e below T12 (mkF m 16 #[.val (.long q0), .second, .val (.ref a1), .val (.long (own_f1c3_48' q0 v0 v1)), .second, .val (.ref a1), .val (.int (3 : Int32)), .val (.int (2 : Int32)), .val (.long v1), .second] []) _
  refine own_step (fun t k => XS.iload X12.here hx rfl (hb hby own_d1_16) rfl  k) ?_
  show own_Run p e below T12 (mkF m 18 #[.val (.long q0), .second, .val (.ref a1), .val (.long (own_f1c3_48' q0 v0 v1)), .second, .val (.ref a1), .val (.int (3 : Int32)), .val (.int (2 : Int32)), .val (.long v1), .second] [(.int (2 : Int32))]) _
  refine own_step (fun t k => XS.iload X12.here hx rfl (hb hby own_d1_18) rfl  k) ?_
  show own_Run p e below T12 (mkF m 20 #[.val (.long q0), .second, .val (.ref a1), .val (.long (own_f1c3_48' q0 v0 v1)), .second, .val (.ref a1), .val (.int (3 : Int32)), .val (.int (2 : Int32)), .val (.long v1), .second] [(.int (3 : Int32)), (.int (2 : Int32))]) _
  refine own_step (fun t k => XS.icmpNo X12.here hx rfl (hb hby own_d1_20) rfl (tlt (by decide : (2 : Int32) < (3 : Int32))).2.1 k) ?_
  show own_Run p e below T12 (mkF m 23 #[.val (.long q0), .second, .val (.ref a1), .val (.long (own_f1c3_48' q0 v0 v1)), .second, .val (.ref a1), .val (.int (3 : Int32)), .val (.int (2 : Int32)), .val (.long v1), .second] []) _
  refine own_step (fun t k => XS.aload X12.here hx rfl (hb hby own_d1_23) rfl rfl k) ?_
  show own_Run p e below T12 (mkF m 25 #[.val (.long q0), .second, .val (.ref a1), .val (.long (own_f1c3_48' q0 v0 v1)), .second, .val (.ref a1), .val (.int (3 : Int32)), .val (.int (2 : Int32)), .val (.long v1), .second] [(.ref a1)]) _
  refine own_step (fun t k => XS.iload X12.here hx rfl (hb hby own_d1_25) rfl  k) ?_
  show own_Run p e below T12 (mkF m 27 #[.val (.long q0), .second, .val (.ref a1), .val (.long (own_f1c3_48' q0 v0 v1)), .second, .val (.ref a1), .val (.int (3 : Int32)), .val (.int (2 : Int32)), .val (.long v1), .second] [(.int (2 : Int32)), (.ref a1)]) _
  refine own_step (own_ldJ X12 hx hZ e12 V1 (j := (2 : Int32)) (v := (.long v2)) ⟨by decide, by decide⟩ rfl (g := (mkF m 27 #[.val (.long q0), .second, .val (.ref a1), .val (.long (own_f1c3_48' q0 v0 v1)), .second, .val (.ref a1), .val (.int (3 : Int32)), .val (.int (2 : Int32)), .val (.long v1), .second] [(.int (2 : Int32)), (.ref a1)])) rfl rfl (hb hby own_d1_27)) ?_
  show own_Run p e below T12 (mkF m 28 #[.val (.long q0), .second, .val (.ref a1), .val (.long (own_f1c3_48' q0 v0 v1)), .second, .val (.ref a1), .val (.int (3 : Int32)), .val (.int (2 : Int32)), .val (.long v1), .second] [(.long v2)]) _
  refine own_step (fun t k => XS.lstore X12.here hx rfl (hb hby own_d1_28) rfl (l' := #[.val (.long q0), .second, .val (.ref a1), .val (.long (own_f1c3_48' q0 v0 v1)), .second, .val (.ref a1), .val (.int (3 : Int32)), .val (.int (2 : Int32)), .val (.long v2), .second]) rfl k) ?_
  show own_Run p e below T12 (mkF m 30 #[.val (.long q0), .second, .val (.ref a1), .val (.long (own_f1c3_48' q0 v0 v1)), .second, .val (.ref a1), .val (.int (3 : Int32)), .val (.int (2 : Int32)), .val (.long v2), .second] []) _
  refine own_step (fun t k => XS.lloadN X12.here hx rfl (hb hby own_d1_30) rfl  k) ?_
  show own_Run p e below T12 (mkF m 31 #[.val (.long q0), .second, .val (.ref a1), .val (.long (own_f1c3_48' q0 v0 v1)), .second, .val (.ref a1), .val (.int (3 : Int32)), .val (.int (2 : Int32)), .val (.long v2), .second] [(.long (own_f1c3_48' q0 v0 v1))]) _
  refine own_step (fun t k => X12.ldc2Long hx hown (mvT hZ (hw _ (List.mem_of_getElem? (i := 10) rfl))) (g := (mkF m 31 #[.val (.long q0), .second, .val (.ref a1), .val (.long (own_f1c3_48' q0 v0 v1)), .second, .val (.ref a1), .val (.int (3 : Int32)), .val (.int (2 : Int32)), .val (.long v2), .second] [(.long (own_f1c3_48' q0 v0 v1))])) rfl (hb hby own_d1_31) t k) ?_
  show own_Run p e below T12 (mkF m 34 #[.val (.long q0), .second, .val (.ref a1), .val (.long (own_f1c3_48' q0 v0 v1)), .second, .val (.ref a1), .val (.int (3 : Int32)), .val (.int (2 : Int32)), .val (.long v2), .second] [(.long (-7046029254386353131 : Int64)), (.long (own_f1c3_48' q0 v0 v1))]) _
  refine own_step (fun t k => XS.lload X12.here hx rfl (hb hby own_d1_34) rfl  k) ?_
  show own_Run p e below T12 (mkF m 36 #[.val (.long q0), .second, .val (.ref a1), .val (.long (own_f1c3_48' q0 v0 v1)), .second, .val (.ref a1), .val (.int (3 : Int32)), .val (.int (2 : Int32)), .val (.long v2), .second] [(.long v2), (.long (-7046029254386353131 : Int64)), (.long (own_f1c3_48' q0 v0 v1))]) _
  refine own_step (fun t k => X12.ldc2Long hx hown (mvT hZ (hw _ (List.mem_of_getElem? (i := 10) rfl))) (g := (mkF m 36 #[.val (.long q0), .second, .val (.ref a1), .val (.long (own_f1c3_48' q0 v0 v1)), .second, .val (.ref a1), .val (.int (3 : Int32)), .val (.int (2 : Int32)), .val (.long v2), .second] [(.long v2), (.long (-7046029254386353131 : Int64)), (.long (own_f1c3_48' q0 v0 v1))])) rfl (hb hby own_d1_36) t k) ?_
  show own_Run p e below T12 (mkF m 39 #[.val (.long q0), .second, .val (.ref a1), .val (.long (own_f1c3_48' q0 v0 v1)), .second, .val (.ref a1), .val (.int (3 : Int32)), .val (.int (2 : Int32)), .val (.long v2), .second] [(.long (-7046029254386353131 : Int64)), (.long v2), (.long (-7046029254386353131 : Int64)), (.long (own_f1c3_48' q0 v0 v1))]) _
  refine own_step (fun t k => XS.ladd X12.here hx rfl (hb hby own_d1_39) rfl k) ?_
  show own_Run p e below T12 (mkF m 40 #[.val (.long q0), .second, .val (.ref a1), .val (.long (own_f1c3_48' q0 v0 v1)), .second, .val (.ref a1), .val (.int (3 : Int32)), .val (.int (2 : Int32)), .val (.long v2), .second] [(.long (v2 + (-7046029254386353131 : Int64))), (.long (-7046029254386353131 : Int64)), (.long (own_f1c3_48' q0 v0 v1))]) _
  obtain ⟨_, _, ⟨T13, L13, kq13, nq13⟩, -, X13, ⟨Lc13, hQ13, lq13, yq13, zq13⟩, st13⟩ := Jvm.LawKit.callS X12 hx (y := (⟨"com/example/surefoot/surefoot/SplitMix", "mix", "(J)J"⟩ : MethodName)) hown (mvT hZ (hw _ (List.mem_of_getElem? (i := 5) rfl))) (mvT hZ (hw _ (List.mem_of_getElem? (i := 6) rfl))) (mvT hZ (hw _ (List.mem_of_getElem? (i := 3) rfl))) (mvT hZ (hw _ (List.mem_of_getElem? (i := 7) rfl))) (by decide) (backOf (W := 4) (rm2 l Z av0 hw [] (v2 + (-7046029254386353131 : Int64)) h0 n0 Z0 ) hZ (hw _ (List.mem_of_getElem? (i := 7) rfl)) (hw _ (List.mem_of_getElem? (i := 3) rfl)) (by decide) (by decide)) (g := (mkF m 40 #[.val (.long q0), .second, .val (.ref a1), .val (.long (own_f1c3_48' q0 v0 v1)), .second, .val (.ref a1), .val (.int (3 : Int32)), .val (.int (2 : Int32)), .val (.long v2), .second] [(.long (v2 + (-7046029254386353131 : Int64))), (.long (-7046029254386353131 : Int64)), (.long (own_f1c3_48' q0 v0 v1))])) rfl (by rw [hml]; rfl) (argsL := [(.long (v2 + (-7046029254386353131 : Int64)))]) (rest := [(.long (-7046029254386353131 : Int64)), (.long (own_f1c3_48' q0 v0 v1))]) (lenOf own_pd24 rfl) rfl (by show 2 * 0 + _ ≤ _; exact Nat.le_of_eq rfl) (hb hby own_d1_40) (fun _ _ => ⟨rfl, e12, (by decide : 0 + 0 ≤ _), (by decide : 0 + 0 ≤ _)⟩)
  dsimp only [Pt.U, Pt.locs, Pt.cells, Pt.slots] at X13 lq13 yq13 zq13 st13 hQ13
  subst lq13 yq13 zq13
  obtain ⟨rfl, N13q, e13⟩ := hQ13
  have N13 := Fr.app N12 N13q
  refine own_step st13 ?_
  show own_Run p e below T13 (mkF m 43 #[.val (.long q0), .second, .val (.ref a1), .val (.long (own_f1c3_48' q0 v0 v1)), .second, .val (.ref a1), .val (.int (3 : Int32)), .val (.int (2 : Int32)), .val (.long v2), .second] [(.long (own_r2 (v2 + (-7046029254386353131 : Int64)))), (.long (-7046029254386353131 : Int64)), (.long (own_f1c3_48' q0 v0 v1))]) _
  refine own_step (fun t k => XS.lmul X13.here hx rfl (hb hby own_d1_43) rfl k) ?_
  show own_Run p e below T13 (mkF m 44 #[.val (.long q0), .second, .val (.ref a1), .val (.long (own_f1c3_48' q0 v0 v1)), .second, .val (.ref a1), .val (.int (3 : Int32)), .val (.int (2 : Int32)), .val (.long v2), .second] [(.long ((-7046029254386353131 : Int64) * (own_r2 (v2 + (-7046029254386353131 : Int64))))), (.long (own_f1c3_48' q0 v0 v1))]) _
  refine own_step (fun t k => XS.ladd X13.here hx rfl (hb hby own_d1_44) rfl k) ?_
  show own_Run p e below T13 (mkF m 45 #[.val (.long q0), .second, .val (.ref a1), .val (.long (own_f1c3_48' q0 v0 v1)), .second, .val (.ref a1), .val (.int (3 : Int32)), .val (.int (2 : Int32)), .val (.long v2), .second] [(.long ((own_f1c3_48' q0 v0 v1) + ((-7046029254386353131 : Int64) * (own_r2 (v2 + (-7046029254386353131 : Int64))))))]) _
  obtain ⟨_, _, ⟨T14, L14, kq14, nq14⟩, -, X14, ⟨Lc14, hQ14, lq14, yq14, zq14⟩, st14⟩ := Jvm.LawKit.callS X13 hx (y := (⟨"com/example/surefoot/surefoot/SplitMix", "mix", "(J)J"⟩ : MethodName)) hown (mvT hZ (hw _ (List.mem_of_getElem? (i := 5) rfl))) (mvT hZ (hw _ (List.mem_of_getElem? (i := 6) rfl))) (mvT hZ (hw _ (List.mem_of_getElem? (i := 3) rfl))) (mvT hZ (hw _ (List.mem_of_getElem? (i := 7) rfl))) (by decide) (backOf (W := 0) (rm2 l Z av0 hw [] ((own_f1c3_48' q0 v0 v1) + ((-7046029254386353131 : Int64) * (own_r2 (v2 + (-7046029254386353131 : Int64))))) h0 n0 Z0 ) hZ (hw _ (List.mem_of_getElem? (i := 7) rfl)) (hw _ (List.mem_of_getElem? (i := 3) rfl)) (by decide) (by decide)) (g := (mkF m 45 #[.val (.long q0), .second, .val (.ref a1), .val (.long (own_f1c3_48' q0 v0 v1)), .second, .val (.ref a1), .val (.int (3 : Int32)), .val (.int (2 : Int32)), .val (.long v2), .second] [(.long ((own_f1c3_48' q0 v0 v1) + ((-7046029254386353131 : Int64) * (own_r2 (v2 + (-7046029254386353131 : Int64))))))])) rfl (by rw [hml]; rfl) (argsL := [(.long ((own_f1c3_48' q0 v0 v1) + ((-7046029254386353131 : Int64) * (own_r2 (v2 + (-7046029254386353131 : Int64))))))]) (rest := []) (lenOf own_pd24 rfl) rfl (by show 2 * 0 + _ ≤ _; exact Nat.le_of_eq rfl) (hb hby own_d1_45) (fun _ _ => ⟨rfl, e13, (by decide : 0 + 0 ≤ _), (by decide : 0 + 0 ≤ _)⟩)
  dsimp only [Pt.U, Pt.locs, Pt.cells, Pt.slots] at X14 lq14 yq14 zq14 st14 hQ14
  subst lq14 yq14 zq14
  obtain ⟨rfl, N14q, e14⟩ := hQ14
  have N14 := Fr.app N13 N14q
  refine own_step st14 ?_
  show own_Run p e below T14 (mkF m 48 #[.val (.long q0), .second, .val (.ref a1), .val (.long (own_f1c3_48' q0 v0 v1)), .second, .val (.ref a1), .val (.int (3 : Int32)), .val (.int (2 : Int32)), .val (.long v2), .second] [(.long (own_r2 ((own_f1c3_48' q0 v0 v1) + ((-7046029254386353131 : Int64) * (own_r2 (v2 + (-7046029254386353131 : Int64)))))))]) _
  refine own_step (fun t k => XS.lstoreN X14.here hx rfl (hb hby own_d1_48) rfl (l' := #[.val (.long q0), .second, .val (.ref a1), .val (.long (own_f1c3_48'' q0 v0 v1 v2)), .second, .val (.ref a1), .val (.int (3 : Int32)), .val (.int (2 : Int32)), .val (.long v2), .second]) rfl k) ?_
  show own_Run p e below T14 (mkF m 49 #[.val (.long q0), .second, .val (.ref a1), .val (.long (own_f1c3_48'' q0 v0 v1 v2)), .second, .val (.ref a1), .val (.int (3 : Int32)), .val (.int (2 : Int32)), .val (.long v2), .second] []) _
  refine own_step (fun t k => XS.iinc X14.here hx rfl (hb hby own_d1_49) rfl (l' := #[.val (.long q0), .second, .val (.ref a1), .val (.long (own_f1c3_48'' q0 v0 v1 v2)), .second, .val (.ref a1), .val (.int (3 : Int32)), .val (.int (3 : Int32)), .val (.long v2), .second]) rfl k) ?_
  show own_Run p e below T14 (mkF m 52 #[.val (.long q0), .second, .val (.ref a1), .val (.long (own_f1c3_48'' q0 v0 v1 v2)), .second, .val (.ref a1), .val (.int (3 : Int32)), .val (.int (3 : Int32)), .val (.long v2), .second] []) _
  refine own_step (fun t k => XS.goto X14.here hx rfl (pc0 := 52) (pc' := 16) rfl (hb hby own_d1_52) (by decide) (by decide) k) ?_
  show own_Run p e below T14 (mkF m 16 #[.val (.long q0), .second, .val (.ref a1), .val (.long (own_f1c3_48'' q0 v0 v1 v2)), .second, .val (.ref a1), .val (.int (3 : Int32)), .val (.int (3 : Int32)), .val (.long v2), .second] []) _
  refine own_step (fun t k => XS.iload X14.here hx rfl (hb hby own_d1_16) rfl  k) ?_
  show own_Run p e below T14 (mkF m 18 #[.val (.long q0), .second, .val (.ref a1), .val (.long (own_f1c3_48'' q0 v0 v1 v2)), .second, .val (.ref a1), .val (.int (3 : Int32)), .val (.int (3 : Int32)), .val (.long v2), .second] [(.int (3 : Int32))]) _
  refine own_step (fun t k => XS.iload X14.here hx rfl (hb hby own_d1_18) rfl  k) ?_
  show own_Run p e below T14 (mkF m 20 #[.val (.long q0), .second, .val (.ref a1), .val (.long (own_f1c3_48'' q0 v0 v1 v2)), .second, .val (.ref a1), .val (.int (3 : Int32)), .val (.int (3 : Int32)), .val (.long v2), .second] [(.int (3 : Int32)), (.int (3 : Int32))]) _
  refine own_step (fun t k => XS.icmpYes X14.here hx rfl (pc0 := 20) (pc' := 55) rfl (hb hby own_d1_20) rfl (flt (by decide : ¬ ((3 : Int32) < (3 : Int32)))).2.1 (by decide) (by decide) k) ?_
  show own_Run p e below T14 (mkF m 55 #[.val (.long q0), .second, .val (.ref a1), .val (.long (own_f1c3_48'' q0 v0 v1 v2)), .second, .val (.ref a1), .val (.int (3 : Int32)), .val (.int (3 : Int32)), .val (.long v2), .second] []) _
  refine own_step (fun t k => XS.lloadN X14.here hx rfl (hb hby own_d1_55) rfl  k) ?_
  show own_Run p e below T14 (mkF m 56 #[.val (.long q0), .second, .val (.ref a1), .val (.long (own_f1c3_48'' q0 v0 v1 v2)), .second, .val (.ref a1), .val (.int (3 : Int32)), .val (.int (3 : Int32)), .val (.long v2), .second] [(.long (own_f1c3_48'' q0 v0 v1 v2))]) _
  exact own_retJ X14 hx hlk hret (hb hby own_d1_56) (by decide) (by decide) N14 e14
theorem own_pd66 : parseMethodDescriptor "(J[J)J" = some ⟨[.long, (.array .long)], some .long⟩ := by decide +kernel
def own_f0c0_j185_S0 (q0 : Int64) : Int32 := (if (lcmpW (own_r1c0 q0) (own_r2 q0)) = (0 : Int32) then (1 : Int32) else (0 : Int32))
def own_r0c0 (q0 : Int64) (q1 : Int64) (q2 : Int64) (q3 : Int64) (p4 : Int32) : Int32 := (nar .boolean (own_f0c0_j185_S0 q0))
theorem own_ef0c0 (m : MethodId) (q0 : Int64) (q1 : Int64) (q2 : Int64) (q3 : Int64) (p4 : Int32) : entryFrame m #[(.long q0), (.long q1), (.long q2), (.long q3), (.int p4)] maxLocals = (mkF m 0 #[.val (.long q0), .second, .val (.long q1), .second, .val (.long q2), .second, .val (.long q3), .second, .val (.int p4), .unset, .unset, .unset, .unset, .unset, .unset, .unset] []) := by first | (simp [entryFrame, mkF, argsToLocals, Value.category, maxLocals]; done) | rfl
set_option maxRecDepth 65536 in
set_option maxHeartbeats 40000000 in
theorem rm0c0 (l : Launch) (Z : State) (av0 : Array Value) (hw : ∀ d ∈ tables_1, d.before av0 Z = true) (ws : List Jvm.Cond) (q0 : Int64) (q1 : Int64) (q2 : Int64) (q3 : Int64) (p4 : Int32) (h0 : Heap) (n0 : Nat) (Z0 : n0 ≤ h0.size) (hn : (p4 &&& (3 : Int32)) = (0 : Int32)) :
    MetFree l x (head1 (Jvm.Cond.code x code maxLocals ret :: ws) room_1) (fun a U => a = #[(.long q0), (.long q1), (.long q2), (.long q3), (.int p4)] ∧ Z.Warmed39 U.vm ∧ U.heap = h0) (fun _ _ _ _ _ => True) (fun _ U o U' => ∃ v L, o = .returned v ∧ own_Q n0 (fun _ => True) (some (.int (own_r0c0 q0 q1 q2 q3 p4))) v U'.heap L ∧ FrameEnd U o U' L room_1.cells room_1.slots) := by
  refine MetFree.of_bodySF (plainFor_of_name own_pn1) hisR ?_
  intro p e s m args below meth c s₁ Bd hml0 hP hK
  obtain ⟨rfl, hZ, hh⟩ := hP
  have hx := Bd.exec
  have hby := Bd.bytes
  have hml : c.maxLocals = 16 := hml0
  have hown : s.vm.findClass "com/example/surefoot/surefoot/SplitMixDerivePinLaw" = some m.cls := findClass_of_methodNamed Bd.named
  have hnm := (name_of_methodNamed Bd.named Bd.method).1
  have hret := Bd.returns
  have hlk : meth.locks = false := BodyLoose.notSynchronized Bd
  have X0 : Stand p l e room_1 s m #[(.long q0), (.long q1), (.long q2), (.long q3), (.int p4)] below meth c s₁ [] 0 0 := Stand.of_body Bd
  have e0 : s₁.heap = h0 := by rw [← hh, Bd.state]; rfl
  have N0 := Fr.nil n0
  clear Bd hh hK
  refine own_fin ?_
  refine own_entry (own_ef0c0 m q0 q1 q2 q3 p4) ?_
  show own_Run p e below s₁ _ (own_Ret _ s below _ _ (own_Q n0 _ (some (.int (nar .boolean (own_f0c0_j185_S0 q0))))))
  show own_Run p e below s₁ (mkF m 0 #[.val (.long q0), .second, .val (.long q1), .second, .val (.long q2), .second, .val (.long q3), .second, .val (.int p4), .unset, .unset, .unset, .unset, .unset, .unset, .unset] []) _
  refine own_step (fun t k => XS.iload X0.here hx rfl (hb hby at_0) rfl  k) ?_
  show own_Run p e below s₁ (mkF m 2 #[.val (.long q0), .second, .val (.long q1), .second, .val (.long q2), .second, .val (.long q3), .second, .val (.int p4), .unset, .unset, .unset, .unset, .unset, .unset, .unset] [(.int p4)]) _
  refine own_step (fun t k => XS.iconst X0.here hx rfl (hb hby at_2) k) ?_
  show own_Run p e below s₁ (mkF m 3 #[.val (.long q0), .second, .val (.long q1), .second, .val (.long q2), .second, .val (.long q3), .second, .val (.int p4), .unset, .unset, .unset, .unset, .unset, .unset, .unset] [(.int (3 : Int32)), (.int p4)]) _
  refine own_step (fun t k => XS.iand X0.here hx rfl (hb hby at_3) rfl k) ?_
  show own_Run p e below s₁ (mkF m 4 #[.val (.long q0), .second, .val (.long q1), .second, .val (.long q2), .second, .val (.long q3), .second, .val (.int p4), .unset, .unset, .unset, .unset, .unset, .unset, .unset] [(.int (p4 &&& (3 : Int32)))]) _
  rw [hn]
  show own_Run p e below s₁ (mkF m 4 #[.val (.long q0), .second, .val (.long q1), .second, .val (.long q2), .second, .val (.long q3), .second, .val (.int p4), .unset, .unset, .unset, .unset, .unset, .unset, .unset] [(.int (0 : Int32))]) _
  refine own_step (fun t k => XS.istore X0.here hx rfl (hb hby at_4) rfl (l' := #[.val (.long q0), .second, .val (.long q1), .second, .val (.long q2), .second, .val (.long q3), .second, .val (.int p4), .val (.int (0 : Int32)), .unset, .unset, .unset, .unset, .unset, .unset]) rfl k) ?_
  show own_Run p e below s₁ (mkF m 6 #[.val (.long q0), .second, .val (.long q1), .second, .val (.long q2), .second, .val (.long q3), .second, .val (.int p4), .val (.int (0 : Int32)), .unset, .unset, .unset, .unset, .unset, .unset] []) _
  refine own_step (fun t k => XS.iload X0.here hx rfl (hb hby at_6) rfl  k) ?_
  show own_Run p e below s₁ (mkF m 8 #[.val (.long q0), .second, .val (.long q1), .second, .val (.long q2), .second, .val (.long q3), .second, .val (.int p4), .val (.int (0 : Int32)), .unset, .unset, .unset, .unset, .unset, .unset] [(.int (0 : Int32))]) _
  obtain ⟨T6, h6, k6, X6, e6, E6, A6, st6⟩ := newP X0 hx hZ (hw _ (List.mem_of_getElem? (i := 0) rfl)) e0 (g := (mkF m 8 #[.val (.long q0), .second, .val (.long q1), .second, .val (.long q2), .second, .val (.long q3), .second, .val (.int p4), .val (.int (0 : Int32)), .unset, .unset, .unset, .unset, .unset, .unset] [(.int (0 : Int32))])) rfl (hb hby at_8) rfl (by decide) (cap := 0) (by decide) (by decide) (by decide) (by decide)
  obtain ⟨b6, g6⟩ : ∃ z, z = h0.size := ⟨_, rfl⟩
  rw [← g6] at A6 st6
  have geb6 : n0 ≤ b6 := Nat.le_trans Z0 (Nat.le_of_eq g6.symm)
  have Zn6 : n0 ≤ h6.size := Nat.le_trans Z0 E6.1
  have V6 : Arv Z h6 b6 k6 .long (0 : Int32) [] (.long (0 : Int64)) := Arv.new A6 (by decide)
  refine own_step st6 ?_
  show own_Run p e below T6 (mkF m 10 #[.val (.long q0), .second, .val (.long q1), .second, .val (.long q2), .second, .val (.long q3), .second, .val (.int p4), .val (.int (0 : Int32)), .unset, .unset, .unset, .unset, .unset, .unset] [(.ref b6)]) _
  refine own_step (fun t k => XS.astore X6.here hx rfl (hb hby at_10) rfl rfl (l' := #[.val (.long q0), .second, .val (.long q1), .second, .val (.long q2), .second, .val (.long q3), .second, .val (.int p4), .val (.int (0 : Int32)), .val (.ref b6), .unset, .unset, .unset, .unset, .unset]) rfl k) ?_
  show own_Run p e below T6 (mkF m 12 #[.val (.long q0), .second, .val (.long q1), .second, .val (.long q2), .second, .val (.long q3), .second, .val (.int p4), .val (.int (0 : Int32)), .val (.ref b6), .unset, .unset, .unset, .unset, .unset] []) _
  refine own_step (fun t k => XS.iload X6.here hx rfl (hb hby at_12) rfl  k) ?_
  show own_Run p e below T6 (mkF m 14 #[.val (.long q0), .second, .val (.long q1), .second, .val (.long q2), .second, .val (.long q3), .second, .val (.int p4), .val (.int (0 : Int32)), .val (.ref b6), .unset, .unset, .unset, .unset, .unset] [(.int (0 : Int32))]) _
  refine own_step (fun t k => XS.iconst X6.here hx rfl (hb hby at_14) k) ?_
  show own_Run p e below T6 (mkF m 15 #[.val (.long q0), .second, .val (.long q1), .second, .val (.long q2), .second, .val (.long q3), .second, .val (.int p4), .val (.int (0 : Int32)), .val (.ref b6), .unset, .unset, .unset, .unset, .unset] [(.int (1 : Int32)), (.int (0 : Int32))]) _
  refine own_step (fun t k => XS.icmpYes X6.here hx rfl (pc0 := 15) (pc' := 23) rfl (hb hby at_15) rfl (tlt (by decide : (0 : Int32) < (1 : Int32))).1 (by decide) (by decide) k) ?_
  show own_Run p e below T6 (mkF m 23 #[.val (.long q0), .second, .val (.long q1), .second, .val (.long q2), .second, .val (.long q3), .second, .val (.int p4), .val (.int (0 : Int32)), .val (.ref b6), .unset, .unset, .unset, .unset, .unset] []) _
  refine own_step (fun t k => XS.iload X6.here hx rfl (hb hby at_23) rfl  k) ?_
  show own_Run p e below T6 (mkF m 25 #[.val (.long q0), .second, .val (.long q1), .second, .val (.long q2), .second, .val (.long q3), .second, .val (.int p4), .val (.int (0 : Int32)), .val (.ref b6), .unset, .unset, .unset, .unset, .unset] [(.int (0 : Int32))]) _
  refine own_step (fun t k => XS.iconst X6.here hx rfl (hb hby at_25) k) ?_
  show own_Run p e below T6 (mkF m 26 #[.val (.long q0), .second, .val (.long q1), .second, .val (.long q2), .second, .val (.long q3), .second, .val (.int p4), .val (.int (0 : Int32)), .val (.ref b6), .unset, .unset, .unset, .unset, .unset] [(.int (2 : Int32)), (.int (0 : Int32))]) _
  refine own_step (fun t k => XS.icmpYes X6.here hx rfl (pc0 := 26) (pc' := 35) rfl (hb hby at_26) rfl (tlt (by decide : (0 : Int32) < (2 : Int32))).1 (by decide) (by decide) k) ?_
  show own_Run p e below T6 (mkF m 35 #[.val (.long q0), .second, .val (.long q1), .second, .val (.long q2), .second, .val (.long q3), .second, .val (.int p4), .val (.int (0 : Int32)), .val (.ref b6), .unset, .unset, .unset, .unset, .unset] []) _
  refine own_step (fun t k => XS.iload X6.here hx rfl (hb hby at_35) rfl  k) ?_
  show own_Run p e below T6 (mkF m 37 #[.val (.long q0), .second, .val (.long q1), .second, .val (.long q2), .second, .val (.long q3), .second, .val (.int p4), .val (.int (0 : Int32)), .val (.ref b6), .unset, .unset, .unset, .unset, .unset] [(.int (0 : Int32))]) _
  refine own_step (fun t k => XS.iconst X6.here hx rfl (hb hby at_37) k) ?_
  show own_Run p e below T6 (mkF m 38 #[.val (.long q0), .second, .val (.long q1), .second, .val (.long q2), .second, .val (.long q3), .second, .val (.int p4), .val (.int (0 : Int32)), .val (.ref b6), .unset, .unset, .unset, .unset, .unset] [(.int (3 : Int32)), (.int (0 : Int32))]) _
  refine own_step (fun t k => XS.icmpYes X6.here hx rfl (pc0 := 38) (pc' := 47) rfl (hb hby at_38) rfl (tlt (by decide : (0 : Int32) < (3 : Int32))).1 (by decide) (by decide) k) ?_
  show own_Run p e below T6 (mkF m 47 #[.val (.long q0), .second, .val (.long q1), .second, .val (.long q2), .second, .val (.long q3), .second, .val (.int p4), .val (.int (0 : Int32)), .val (.ref b6), .unset, .unset, .unset, .unset, .unset] []) _
  refine own_step (fun t k => XS.lloadN X6.here hx rfl (hb hby at_47) rfl  k) ?_
  show own_Run p e below T6 (mkF m 48 #[.val (.long q0), .second, .val (.long q1), .second, .val (.long q2), .second, .val (.long q3), .second, .val (.int p4), .val (.int (0 : Int32)), .val (.ref b6), .unset, .unset, .unset, .unset, .unset] [(.long q0)]) _
  refine own_step (fun t k => XS.aload X6.here hx rfl (hb hby at_48) rfl rfl k) ?_
  show own_Run p e below T6 (mkF m 50 #[.val (.long q0), .second, .val (.long q1), .second, .val (.long q2), .second, .val (.long q3), .second, .val (.int p4), .val (.int (0 : Int32)), .val (.ref b6), .unset, .unset, .unset, .unset, .unset] [(.ref b6), (.long q0)]) _
  obtain ⟨_, _, ⟨T7, L7, kq7, nq7⟩, -, X7, ⟨Lc7, hQ7, lq7, yq7, zq7⟩, st7⟩ := Jvm.LawKit.callS X6 hx (y := (⟨"com/example/surefoot/surefoot/SplitMix", "derive", "(J[J)J"⟩ : MethodName)) hown (mvT hZ (hw _ (List.mem_of_getElem? (i := 1) rfl))) (mvT hZ (hw _ (List.mem_of_getElem? (i := 2) rfl))) (mvT hZ (hw _ (List.mem_of_getElem? (i := 3) rfl))) (mvT hZ (hw _ (List.mem_of_getElem? (i := 4) rfl))) (by decide) (backOf (W := 0) (rm1c0 l Z av0 hw [] q0 b6 k6 h6 n0 Zn6 V6) hZ (hw _ (List.mem_of_getElem? (i := 4) rfl)) (hw _ (List.mem_of_getElem? (i := 3) rfl)) (by decide) (by decide)) (g := (mkF m 50 #[.val (.long q0), .second, .val (.long q1), .second, .val (.long q2), .second, .val (.long q3), .second, .val (.int p4), .val (.int (0 : Int32)), .val (.ref b6), .unset, .unset, .unset, .unset, .unset] [(.ref b6), (.long q0)])) rfl (by rw [hml]; rfl) (argsL := [(.long q0), (.ref b6)]) (rest := []) (lenOf own_pd66 rfl) rfl (by show 2 * 0 + _ ≤ _; exact Nat.le_of_eq rfl) (hb hby at_50) (fun _ _ => ⟨rfl, e6, (by decide : 1 + 0 ≤ _), (by decide : 0 + 0 ≤ _)⟩)
  dsimp only [Pt.U, Pt.locs, Pt.cells, Pt.slots] at X7 lq7 yq7 zq7 st7 hQ7
  subst lq7 yq7 zq7
  obtain ⟨rfl, N7q, e7⟩ := hQ7
  have N7 := Fr.app N0 N7q
  refine own_step st7 ?_
  show own_Run p e below T7 (mkF m 53 #[.val (.long q0), .second, .val (.long q1), .second, .val (.long q2), .second, .val (.long q3), .second, .val (.int p4), .val (.int (0 : Int32)), .val (.ref b6), .unset, .unset, .unset, .unset, .unset] [(.long (own_r1c0 q0))]) _
  refine own_step (fun t k => XS.lstore X7.here hx rfl (hb hby at_53) rfl (l' := #[.val (.long q0), .second, .val (.long q1), .second, .val (.long q2), .second, .val (.long q3), .second, .val (.int p4), .val (.int (0 : Int32)), .val (.ref b6), .val (.long (own_r1c0 q0)), .second, .unset, .unset, .unset]) rfl k) ?_
  show own_Run p e below T7 (mkF m 55 #[.val (.long q0), .second, .val (.long q1), .second, .val (.long q2), .second, .val (.long q3), .second, .val (.int p4), .val (.int (0 : Int32)), .val (.ref b6), .val (.long (own_r1c0 q0)), .second, .unset, .unset, .unset] []) _
  refine own_step (fun t k => XS.lloadN X7.here hx rfl (hb hby at_55) rfl  k) ?_
  show own_Run p e below T7 (mkF m 56 #[.val (.long q0), .second, .val (.long q1), .second, .val (.long q2), .second, .val (.long q3), .second, .val (.int p4), .val (.int (0 : Int32)), .val (.ref b6), .val (.long (own_r1c0 q0)), .second, .unset, .unset, .unset] [(.long q0)]) _
  obtain ⟨_, _, ⟨T8, L8, kq8, nq8⟩, -, X8, ⟨Lc8, hQ8, lq8, yq8, zq8⟩, st8⟩ := Jvm.LawKit.callS X7 hx (y := (⟨"com/example/surefoot/surefoot/SplitMix", "mix", "(J)J"⟩ : MethodName)) hown (mvT hZ (hw _ (List.mem_of_getElem? (i := 11) rfl))) (mvT hZ (hw _ (List.mem_of_getElem? (i := 6) rfl))) (mvT hZ (hw _ (List.mem_of_getElem? (i := 3) rfl))) (mvT hZ (hw _ (List.mem_of_getElem? (i := 7) rfl))) (by decide) (backOf (W := 0) (rm2 l Z av0 hw [] q0 h6 n0 Zn6 ) hZ (hw _ (List.mem_of_getElem? (i := 7) rfl)) (hw _ (List.mem_of_getElem? (i := 3) rfl)) (by decide) (by decide)) (g := (mkF m 56 #[.val (.long q0), .second, .val (.long q1), .second, .val (.long q2), .second, .val (.long q3), .second, .val (.int p4), .val (.int (0 : Int32)), .val (.ref b6), .val (.long (own_r1c0 q0)), .second, .unset, .unset, .unset] [(.long q0)])) rfl (by rw [hml]; rfl) (argsL := [(.long q0)]) (rest := []) (lenOf own_pd24 rfl) rfl (by show 2 * 0 + _ ≤ _; exact Nat.le_of_eq rfl) (hb hby at_56) (fun _ _ => ⟨rfl, e7, (by decide : 1 + 0 ≤ _), (by decide : 0 + 0 ≤ _)⟩)
  dsimp only [Pt.U, Pt.locs, Pt.cells, Pt.slots] at X8 lq8 yq8 zq8 st8 hQ8
  subst lq8 yq8 zq8
  obtain ⟨rfl, N8q, e8⟩ := hQ8
  have N8 := Fr.app N7 N8q
  refine own_step st8 ?_
  show own_Run p e below T8 (mkF m 59 #[.val (.long q0), .second, .val (.long q1), .second, .val (.long q2), .second, .val (.long q3), .second, .val (.int p4), .val (.int (0 : Int32)), .val (.ref b6), .val (.long (own_r1c0 q0)), .second, .unset, .unset, .unset] [(.long (own_r2 q0))]) _
  refine own_step (fun t k => XS.lstore X8.here hx rfl (hb hby at_59) rfl (l' := #[.val (.long q0), .second, .val (.long q1), .second, .val (.long q2), .second, .val (.long q3), .second, .val (.int p4), .val (.int (0 : Int32)), .val (.ref b6), .val (.long (own_r1c0 q0)), .second, .val (.long (own_r2 q0)), .second, .unset]) rfl k) ?_
  show own_Run p e below T8 (mkF m 61 #[.val (.long q0), .second, .val (.long q1), .second, .val (.long q2), .second, .val (.long q3), .second, .val (.int p4), .val (.int (0 : Int32)), .val (.ref b6), .val (.long (own_r1c0 q0)), .second, .val (.long (own_r2 q0)), .second, .unset] []) _
  refine own_step (fun t k => XS.iload X8.here hx rfl (hb hby at_61) rfl  k) ?_
  show own_Run p e below T8 (mkF m 63 #[.val (.long q0), .second, .val (.long q1), .second, .val (.long q2), .second, .val (.long q3), .second, .val (.int p4), .val (.int (0 : Int32)), .val (.ref b6), .val (.long (own_r1c0 q0)), .second, .val (.long (own_r2 q0)), .second, .unset] [(.int (0 : Int32))]) _
  refine own_step (fun t k => XS.iconst X8.here hx rfl (hb hby at_63) k) ?_
  show own_Run p e below T8 (mkF m 64 #[.val (.long q0), .second, .val (.long q1), .second, .val (.long q2), .second, .val (.long q3), .second, .val (.int p4), .val (.int (0 : Int32)), .val (.ref b6), .val (.long (own_r1c0 q0)), .second, .val (.long (own_r2 q0)), .second, .unset] [(.int (1 : Int32)), (.int (0 : Int32))]) _
  refine own_step (fun t k => XS.icmpYes X8.here hx rfl (pc0 := 64) (pc' := 75) rfl (hb hby at_64) rfl (tlt (by decide : (0 : Int32) < (1 : Int32))).1 (by decide) (by decide) k) ?_
  show own_Run p e below T8 (mkF m 75 #[.val (.long q0), .second, .val (.long q1), .second, .val (.long q2), .second, .val (.long q3), .second, .val (.int p4), .val (.int (0 : Int32)), .val (.ref b6), .val (.long (own_r1c0 q0)), .second, .val (.long (own_r2 q0)), .second, .unset] []) _
  refine own_step (fun t k => XS.iload X8.here hx rfl (hb hby at_75) rfl  k) ?_
  show own_Run p e below T8 (mkF m 77 #[.val (.long q0), .second, .val (.long q1), .second, .val (.long q2), .second, .val (.long q3), .second, .val (.int p4), .val (.int (0 : Int32)), .val (.ref b6), .val (.long (own_r1c0 q0)), .second, .val (.long (own_r2 q0)), .second, .unset] [(.int (0 : Int32))]) _
  refine own_step (fun t k => XS.iconst X8.here hx rfl (hb hby at_77) k) ?_
  show own_Run p e below T8 (mkF m 78 #[.val (.long q0), .second, .val (.long q1), .second, .val (.long q2), .second, .val (.long q3), .second, .val (.int p4), .val (.int (0 : Int32)), .val (.ref b6), .val (.long (own_r1c0 q0)), .second, .val (.long (own_r2 q0)), .second, .unset] [(.int (2 : Int32)), (.int (0 : Int32))]) _
  refine own_step (fun t k => XS.icmpYes X8.here hx rfl (pc0 := 78) (pc' := 90) rfl (hb hby at_78) rfl (tlt (by decide : (0 : Int32) < (2 : Int32))).1 (by decide) (by decide) k) ?_
  show own_Run p e below T8 (mkF m 90 #[.val (.long q0), .second, .val (.long q1), .second, .val (.long q2), .second, .val (.long q3), .second, .val (.int p4), .val (.int (0 : Int32)), .val (.ref b6), .val (.long (own_r1c0 q0)), .second, .val (.long (own_r2 q0)), .second, .unset] []) _
  refine own_step (fun t k => XS.iload X8.here hx rfl (hb hby at_90) rfl  k) ?_
  show own_Run p e below T8 (mkF m 92 #[.val (.long q0), .second, .val (.long q1), .second, .val (.long q2), .second, .val (.long q3), .second, .val (.int p4), .val (.int (0 : Int32)), .val (.ref b6), .val (.long (own_r1c0 q0)), .second, .val (.long (own_r2 q0)), .second, .unset] [(.int (0 : Int32))]) _
  refine own_step (fun t k => XS.iconst X8.here hx rfl (hb hby at_92) k) ?_
  show own_Run p e below T8 (mkF m 93 #[.val (.long q0), .second, .val (.long q1), .second, .val (.long q2), .second, .val (.long q3), .second, .val (.int p4), .val (.int (0 : Int32)), .val (.ref b6), .val (.long (own_r1c0 q0)), .second, .val (.long (own_r2 q0)), .second, .unset] [(.int (3 : Int32)), (.int (0 : Int32))]) _
  refine own_step (fun t k => XS.icmpYes X8.here hx rfl (pc0 := 93) (pc' := 105) rfl (hb hby at_93) rfl (tlt (by decide : (0 : Int32) < (3 : Int32))).1 (by decide) (by decide) k) ?_
  show own_Run p e below T8 (mkF m 105 #[.val (.long q0), .second, .val (.long q1), .second, .val (.long q2), .second, .val (.long q3), .second, .val (.int p4), .val (.int (0 : Int32)), .val (.ref b6), .val (.long (own_r1c0 q0)), .second, .val (.long (own_r2 q0)), .second, .unset] []) _
  refine own_step (fun t k => XS.iload X8.here hx rfl (hb hby at_105) rfl  k) ?_
  show own_Run p e below T8 (mkF m 107 #[.val (.long q0), .second, .val (.long q1), .second, .val (.long q2), .second, .val (.long q3), .second, .val (.int p4), .val (.int (0 : Int32)), .val (.ref b6), .val (.long (own_r1c0 q0)), .second, .val (.long (own_r2 q0)), .second, .unset] [(.int (0 : Int32))]) _
  refine own_step (fun t k => XS.iconst X8.here hx rfl (hb hby at_107) k) ?_
  show own_Run p e below T8 (mkF m 108 #[.val (.long q0), .second, .val (.long q1), .second, .val (.long q2), .second, .val (.long q3), .second, .val (.int p4), .val (.int (0 : Int32)), .val (.ref b6), .val (.long (own_r1c0 q0)), .second, .val (.long (own_r2 q0)), .second, .unset] [(.int (1 : Int32)), (.int (0 : Int32))]) _
  refine own_step (fun t k => XS.icmpYes X8.here hx rfl (pc0 := 108) (pc' := 120) rfl (hb hby at_108) rfl (tlt (by decide : (0 : Int32) < (1 : Int32))).1 (by decide) (by decide) k) ?_
  show own_Run p e below T8 (mkF m 120 #[.val (.long q0), .second, .val (.long q1), .second, .val (.long q2), .second, .val (.long q3), .second, .val (.int p4), .val (.int (0 : Int32)), .val (.ref b6), .val (.long (own_r1c0 q0)), .second, .val (.long (own_r2 q0)), .second, .unset] []) _
  refine own_step (fun t k => XS.iload X8.here hx rfl (hb hby at_120) rfl  k) ?_
  show own_Run p e below T8 (mkF m 122 #[.val (.long q0), .second, .val (.long q1), .second, .val (.long q2), .second, .val (.long q3), .second, .val (.int p4), .val (.int (0 : Int32)), .val (.ref b6), .val (.long (own_r1c0 q0)), .second, .val (.long (own_r2 q0)), .second, .unset] [(.int (0 : Int32))]) _
  refine own_step (fun t k => XS.iconst X8.here hx rfl (hb hby at_122) k) ?_
  show own_Run p e below T8 (mkF m 123 #[.val (.long q0), .second, .val (.long q1), .second, .val (.long q2), .second, .val (.long q3), .second, .val (.int p4), .val (.int (0 : Int32)), .val (.ref b6), .val (.long (own_r1c0 q0)), .second, .val (.long (own_r2 q0)), .second, .unset] [(.int (2 : Int32)), (.int (0 : Int32))]) _
  refine own_step (fun t k => XS.icmpYes X8.here hx rfl (pc0 := 123) (pc' := 136) rfl (hb hby at_123) rfl (tlt (by decide : (0 : Int32) < (2 : Int32))).1 (by decide) (by decide) k) ?_
  show own_Run p e below T8 (mkF m 136 #[.val (.long q0), .second, .val (.long q1), .second, .val (.long q2), .second, .val (.long q3), .second, .val (.int p4), .val (.int (0 : Int32)), .val (.ref b6), .val (.long (own_r1c0 q0)), .second, .val (.long (own_r2 q0)), .second, .unset] []) _
  refine own_step (fun t k => XS.iload X8.here hx rfl (hb hby at_136) rfl  k) ?_
  show own_Run p e below T8 (mkF m 138 #[.val (.long q0), .second, .val (.long q1), .second, .val (.long q2), .second, .val (.long q3), .second, .val (.int p4), .val (.int (0 : Int32)), .val (.ref b6), .val (.long (own_r1c0 q0)), .second, .val (.long (own_r2 q0)), .second, .unset] [(.int (0 : Int32))]) _
  refine own_step (fun t k => XS.iconst X8.here hx rfl (hb hby at_138) k) ?_
  show own_Run p e below T8 (mkF m 139 #[.val (.long q0), .second, .val (.long q1), .second, .val (.long q2), .second, .val (.long q3), .second, .val (.int p4), .val (.int (0 : Int32)), .val (.ref b6), .val (.long (own_r1c0 q0)), .second, .val (.long (own_r2 q0)), .second, .unset] [(.int (3 : Int32)), (.int (0 : Int32))]) _
  refine own_step (fun t k => XS.icmpYes X8.here hx rfl (pc0 := 139) (pc' := 152) rfl (hb hby at_139) rfl (tlt (by decide : (0 : Int32) < (3 : Int32))).1 (by decide) (by decide) k) ?_
  show own_Run p e below T8 (mkF m 152 #[.val (.long q0), .second, .val (.long q1), .second, .val (.long q2), .second, .val (.long q3), .second, .val (.int p4), .val (.int (0 : Int32)), .val (.ref b6), .val (.long (own_r1c0 q0)), .second, .val (.long (own_r2 q0)), .second, .unset] []) _
  refine own_step (fun t k => XS.iconst X8.here hx rfl (hb hby at_152) k) ?_
  show own_Run p e below T8 (mkF m 153 #[.val (.long q0), .second, .val (.long q1), .second, .val (.long q2), .second, .val (.long q3), .second, .val (.int p4), .val (.int (0 : Int32)), .val (.ref b6), .val (.long (own_r1c0 q0)), .second, .val (.long (own_r2 q0)), .second, .unset] [(.int (1 : Int32))]) _
  refine own_step (fun t k => XS.goto X8.here hx rfl (pc0 := 153) (pc' := 157) rfl (hb hby at_153) (by decide) (by decide) k) ?_
  show own_Run p e below T8 (mkF m 157 #[.val (.long q0), .second, .val (.long q1), .second, .val (.long q2), .second, .val (.long q3), .second, .val (.int p4), .val (.int (0 : Int32)), .val (.ref b6), .val (.long (own_r1c0 q0)), .second, .val (.long (own_r2 q0)), .second, .unset] [(.int (1 : Int32))]) _
  refine own_step (fun t k => XS.istore X8.here hx rfl (hb hby at_157) rfl (l' := #[.val (.long q0), .second, .val (.long q1), .second, .val (.long q2), .second, .val (.long q3), .second, .val (.int p4), .val (.int (0 : Int32)), .val (.ref b6), .val (.long (own_r1c0 q0)), .second, .val (.long (own_r2 q0)), .second, .val (.int (1 : Int32))]) rfl k) ?_
  show own_Run p e below T8 (mkF m 159 #[.val (.long q0), .second, .val (.long q1), .second, .val (.long q2), .second, .val (.long q3), .second, .val (.int p4), .val (.int (0 : Int32)), .val (.ref b6), .val (.long (own_r1c0 q0)), .second, .val (.long (own_r2 q0)), .second, .val (.int (1 : Int32))] []) _
  refine own_step (fun t k => XS.lload X8.here hx rfl (hb hby at_159) rfl  k) ?_
  show own_Run p e below T8 (mkF m 161 #[.val (.long q0), .second, .val (.long q1), .second, .val (.long q2), .second, .val (.long q3), .second, .val (.int p4), .val (.int (0 : Int32)), .val (.ref b6), .val (.long (own_r1c0 q0)), .second, .val (.long (own_r2 q0)), .second, .val (.int (1 : Int32))] [(.long (own_r1c0 q0))]) _
  refine own_step (fun t k => XS.lload X8.here hx rfl (hb hby at_161) rfl  k) ?_
  show own_Run p e below T8 (mkF m 163 #[.val (.long q0), .second, .val (.long q1), .second, .val (.long q2), .second, .val (.long q3), .second, .val (.int p4), .val (.int (0 : Int32)), .val (.ref b6), .val (.long (own_r1c0 q0)), .second, .val (.long (own_r2 q0)), .second, .val (.int (1 : Int32))] [(.long (own_r2 q0)), (.long (own_r1c0 q0))]) _
  refine own_step (fun t k => XS.lcmp X8.here hx rfl (hb hby at_163) rfl k) ?_
  show own_Run p e below T8 (mkF m 164 #[.val (.long q0), .second, .val (.long q1), .second, .val (.long q2), .second, .val (.long q3), .second, .val (.int p4), .val (.int (0 : Int32)), .val (.ref b6), .val (.long (own_r1c0 q0)), .second, .val (.long (own_r2 q0)), .second, .val (.int (1 : Int32))] [(.int (lcmpW (own_r1c0 q0) (own_r2 q0)))]) _
  obtain ⟨_, st9, rfl⟩ : own_Run p e below T8 (mkF m 164 #[.val (.long q0), .second, .val (.long q1), .second, .val (.long q2), .second, .val (.long q3), .second, .val (.int p4), .val (.int (0 : Int32)), .val (.ref b6), .val (.long (own_r1c0 q0)), .second, .val (.long (own_r2 q0)), .second, .val (.int (1 : Int32))] [(.int (lcmpW (own_r1c0 q0) (own_r2 q0)))]) (fun t => t = T8.setTop (mkF m 185 #[.val (.long q0), .second, .val (.long q1), .second, .val (.long q2), .second, .val (.long q3), .second, .val (.int p4), .val (.int (0 : Int32)), .val (.ref b6), .val (.long (own_r1c0 q0)), .second, .val (.long (own_r2 q0)), .second, .val (.int (1 : Int32))] [(.int (own_f0c0_j185_S0 q0))])) := by
    by_cases hc10 : (lcmpW (own_r1c0 q0) (own_r2 q0)) = (0 : Int32)
    · refine own_step (fun t k => XS.ifNo X8.here hx rfl (hb hby at_164) rfl ((if0 _ _).trans (teq hc10).2) k) ?_
      show own_Run p e below T8 (mkF m 167 #[.val (.long q0), .second, .val (.long q1), .second, .val (.long q2), .second, .val (.long q3), .second, .val (.int p4), .val (.int (0 : Int32)), .val (.ref b6), .val (.long (own_r1c0 q0)), .second, .val (.long (own_r2 q0)), .second, .val (.int (1 : Int32))] []) _
      refine own_step (fun t k => XS.iload X8.here hx rfl (hb hby at_167) rfl  k) ?_
      show own_Run p e below T8 (mkF m 169 #[.val (.long q0), .second, .val (.long q1), .second, .val (.long q2), .second, .val (.long q3), .second, .val (.int p4), .val (.int (0 : Int32)), .val (.ref b6), .val (.long (own_r1c0 q0)), .second, .val (.long (own_r2 q0)), .second, .val (.int (1 : Int32))] [(.int (1 : Int32))]) _
      refine own_step (fun t k => XS.ifNo X8.here hx rfl (hb hby at_169) rfl ((if0 _ _).trans (feq (by decide : ¬ ((1 : Int32) = (0 : Int32)))).1) k) ?_
      show own_Run p e below T8 (mkF m 172 #[.val (.long q0), .second, .val (.long q1), .second, .val (.long q2), .second, .val (.long q3), .second, .val (.int p4), .val (.int (0 : Int32)), .val (.ref b6), .val (.long (own_r1c0 q0)), .second, .val (.long (own_r2 q0)), .second, .val (.int (1 : Int32))] []) _
      refine own_step (fun t k => XS.aload X8.here hx rfl (hb hby at_172) rfl rfl k) ?_
      show own_Run p e below T8 (mkF m 174 #[.val (.long q0), .second, .val (.long q1), .second, .val (.long q2), .second, .val (.long q3), .second, .val (.int p4), .val (.int (0 : Int32)), .val (.ref b6), .val (.long (own_r1c0 q0)), .second, .val (.long (own_r2 q0)), .second, .val (.int (1 : Int32))] [(.ref b6)]) _
      refine own_step (own_len X8 hx hZ e8 V6 (g := (mkF m 174 #[.val (.long q0), .second, .val (.long q1), .second, .val (.long q2), .second, .val (.long q3), .second, .val (.int p4), .val (.int (0 : Int32)), .val (.ref b6), .val (.long (own_r1c0 q0)), .second, .val (.long (own_r2 q0)), .second, .val (.int (1 : Int32))] [(.ref b6)])) rfl rfl (hb hby at_174)) ?_
      show own_Run p e below T8 (mkF m 175 #[.val (.long q0), .second, .val (.long q1), .second, .val (.long q2), .second, .val (.long q3), .second, .val (.int p4), .val (.int (0 : Int32)), .val (.ref b6), .val (.long (own_r1c0 q0)), .second, .val (.long (own_r2 q0)), .second, .val (.int (1 : Int32))] [(.int (0 : Int32))]) _
      refine own_step (fun t k => XS.iload X8.here hx rfl (hb hby at_175) rfl  k) ?_
      show own_Run p e below T8 (mkF m 177 #[.val (.long q0), .second, .val (.long q1), .second, .val (.long q2), .second, .val (.long q3), .second, .val (.int p4), .val (.int (0 : Int32)), .val (.ref b6), .val (.long (own_r1c0 q0)), .second, .val (.long (own_r2 q0)), .second, .val (.int (1 : Int32))] [(.int (0 : Int32)), (.int (0 : Int32))]) _
      refine own_step (fun t k => XS.icmpNo X8.here hx rfl (hb hby at_177) rfl (teq (rfl : (0 : Int32) = (0 : Int32))).2 k) ?_
      show own_Run p e below T8 (mkF m 180 #[.val (.long q0), .second, .val (.long q1), .second, .val (.long q2), .second, .val (.long q3), .second, .val (.int p4), .val (.int (0 : Int32)), .val (.ref b6), .val (.long (own_r1c0 q0)), .second, .val (.long (own_r2 q0)), .second, .val (.int (1 : Int32))] []) _
      refine own_step (fun t k => XS.iconst X8.here hx rfl (hb hby at_180) k) ?_
      show own_Run p e below T8 (mkF m 181 #[.val (.long q0), .second, .val (.long q1), .second, .val (.long q2), .second, .val (.long q3), .second, .val (.int p4), .val (.int (0 : Int32)), .val (.ref b6), .val (.long (own_r1c0 q0)), .second, .val (.long (own_r2 q0)), .second, .val (.int (1 : Int32))] [(.int (1 : Int32))]) _
      refine own_step (fun t k => XS.goto X8.here hx rfl (pc0 := 181) (pc' := 185) rfl (hb hby at_181) (by decide) (by decide) k) ?_
      show own_Run p e below T8 (mkF m 185 #[.val (.long q0), .second, .val (.long q1), .second, .val (.long q2), .second, .val (.long q3), .second, .val (.int p4), .val (.int (0 : Int32)), .val (.ref b6), .val (.long (own_r1c0 q0)), .second, .val (.long (own_r2 q0)), .second, .val (.int (1 : Int32))] [(.int (1 : Int32))]) _
      have hj0 : (own_f0c0_j185_S0 q0) = (1 : Int32) := (if_pos hc10)
      exact own_here (by rw [hj0])
    · refine own_step (fun t k => XS.ifYes X8.here hx rfl (pc0 := 164) (pc' := 184) rfl (hb hby at_164) rfl ((if0 _ _).trans (feq hc10).2) (by decide) (by decide) k) ?_
      show own_Run p e below T8 (mkF m 184 #[.val (.long q0), .second, .val (.long q1), .second, .val (.long q2), .second, .val (.long q3), .second, .val (.int p4), .val (.int (0 : Int32)), .val (.ref b6), .val (.long (own_r1c0 q0)), .second, .val (.long (own_r2 q0)), .second, .val (.int (1 : Int32))] []) _
      refine own_step (fun t k => XS.iconst X8.here hx rfl (hb hby at_184) k) ?_
      show own_Run p e below T8 (mkF m 185 #[.val (.long q0), .second, .val (.long q1), .second, .val (.long q2), .second, .val (.long q3), .second, .val (.int p4), .val (.int (0 : Int32)), .val (.ref b6), .val (.long (own_r1c0 q0)), .second, .val (.long (own_r2 q0)), .second, .val (.int (1 : Int32))] [(.int (0 : Int32))]) _
      have hj0 : (own_f0c0_j185_S0 q0) = (0 : Int32) := (if_neg hc10)
      exact own_here (by rw [hj0])
  refine own_tr st9 ?_
  show own_Run p e below T8 (mkF m 185 #[.val (.long q0), .second, .val (.long q1), .second, .val (.long q2), .second, .val (.long q3), .second, .val (.int p4), .val (.int (0 : Int32)), .val (.ref b6), .val (.long (own_r1c0 q0)), .second, .val (.long (own_r2 q0)), .second, .val (.int (1 : Int32))] [(.int (own_f0c0_j185_S0 q0))]) _
  exact own_retZ X8 hx hlk hret (hb hby at_185) (by decide) (by decide) N8 trivial
theorem own_pd67 : parseMethodDescriptor "(JJ)J" = some ⟨[.long, .long], some .long⟩ := by decide +kernel
def own_f0c1_j157_S0 (q1 : Int64) : Int32 := (if (lcmpW q1 q1) = (0 : Int32) then (1 : Int32) else (0 : Int32))
def own_f0c1_j185_S0 (q0 : Int64) (q1 : Int64) : Int32 := (if (lcmpW (own_r1c1 q0 q1) (own_r3 (own_r2 q0) q1)) = (0 : Int32) then (if (own_f0c1_j157_S0 q1) = (0 : Int32) then (0 : Int32) else (1 : Int32)) else (0 : Int32))
def own_r0c1 (q0 : Int64) (q1 : Int64) (q2 : Int64) (q3 : Int64) (p4 : Int32) : Int32 := (nar .boolean (own_f0c1_j185_S0 q0 q1))
theorem own_ef0c1 (m : MethodId) (q0 : Int64) (q1 : Int64) (q2 : Int64) (q3 : Int64) (p4 : Int32) : entryFrame m #[(.long q0), (.long q1), (.long q2), (.long q3), (.int p4)] maxLocals = (mkF m 0 #[.val (.long q0), .second, .val (.long q1), .second, .val (.long q2), .second, .val (.long q3), .second, .val (.int p4), .unset, .unset, .unset, .unset, .unset, .unset, .unset] []) := by first | (simp [entryFrame, mkF, argsToLocals, Value.category, maxLocals]; done) | rfl
set_option maxRecDepth 65536 in
set_option maxHeartbeats 40000000 in
theorem rm0c1 (l : Launch) (Z : State) (av0 : Array Value) (hw : ∀ d ∈ tables_1, d.before av0 Z = true) (ws : List Jvm.Cond) (q0 : Int64) (q1 : Int64) (q2 : Int64) (q3 : Int64) (p4 : Int32) (h0 : Heap) (n0 : Nat) (Z0 : n0 ≤ h0.size) (hn : (p4 &&& (3 : Int32)) = (1 : Int32)) :
    MetFree l x (head1 (Jvm.Cond.code x code maxLocals ret :: ws) room_1) (fun a U => a = #[(.long q0), (.long q1), (.long q2), (.long q3), (.int p4)] ∧ Z.Warmed39 U.vm ∧ U.heap = h0) (fun _ _ _ _ _ => True) (fun _ U o U' => ∃ v L, o = .returned v ∧ own_Q n0 (fun _ => True) (some (.int (own_r0c1 q0 q1 q2 q3 p4))) v U'.heap L ∧ FrameEnd U o U' L room_1.cells room_1.slots) := by
  refine MetFree.of_bodySF (plainFor_of_name own_pn1) hisR ?_
  intro p e s m args below meth c s₁ Bd hml0 hP hK
  obtain ⟨rfl, hZ, hh⟩ := hP
  have hx := Bd.exec
  have hby := Bd.bytes
  have hml : c.maxLocals = 16 := hml0
  have hown : s.vm.findClass "com/example/surefoot/surefoot/SplitMixDerivePinLaw" = some m.cls := findClass_of_methodNamed Bd.named
  have hnm := (name_of_methodNamed Bd.named Bd.method).1
  have hret := Bd.returns
  have hlk : meth.locks = false := BodyLoose.notSynchronized Bd
  have X0 : Stand p l e room_1 s m #[(.long q0), (.long q1), (.long q2), (.long q3), (.int p4)] below meth c s₁ [] 0 0 := Stand.of_body Bd
  have e0 : s₁.heap = h0 := by rw [← hh, Bd.state]; rfl
  have N0 := Fr.nil n0
  clear Bd hh hK
  refine own_fin ?_
  refine own_entry (own_ef0c1 m q0 q1 q2 q3 p4) ?_
  show own_Run p e below s₁ _ (own_Ret _ s below _ _ (own_Q n0 _ (some (.int (nar .boolean (own_f0c1_j185_S0 q0 q1))))))
  show own_Run p e below s₁ (mkF m 0 #[.val (.long q0), .second, .val (.long q1), .second, .val (.long q2), .second, .val (.long q3), .second, .val (.int p4), .unset, .unset, .unset, .unset, .unset, .unset, .unset] []) _
  refine own_step (fun t k => XS.iload X0.here hx rfl (hb hby at_0) rfl  k) ?_
  show own_Run p e below s₁ (mkF m 2 #[.val (.long q0), .second, .val (.long q1), .second, .val (.long q2), .second, .val (.long q3), .second, .val (.int p4), .unset, .unset, .unset, .unset, .unset, .unset, .unset] [(.int p4)]) _
  refine own_step (fun t k => XS.iconst X0.here hx rfl (hb hby at_2) k) ?_
  show own_Run p e below s₁ (mkF m 3 #[.val (.long q0), .second, .val (.long q1), .second, .val (.long q2), .second, .val (.long q3), .second, .val (.int p4), .unset, .unset, .unset, .unset, .unset, .unset, .unset] [(.int (3 : Int32)), (.int p4)]) _
  refine own_step (fun t k => XS.iand X0.here hx rfl (hb hby at_3) rfl k) ?_
  show own_Run p e below s₁ (mkF m 4 #[.val (.long q0), .second, .val (.long q1), .second, .val (.long q2), .second, .val (.long q3), .second, .val (.int p4), .unset, .unset, .unset, .unset, .unset, .unset, .unset] [(.int (p4 &&& (3 : Int32)))]) _
  rw [hn]
  show own_Run p e below s₁ (mkF m 4 #[.val (.long q0), .second, .val (.long q1), .second, .val (.long q2), .second, .val (.long q3), .second, .val (.int p4), .unset, .unset, .unset, .unset, .unset, .unset, .unset] [(.int (1 : Int32))]) _
  refine own_step (fun t k => XS.istore X0.here hx rfl (hb hby at_4) rfl (l' := #[.val (.long q0), .second, .val (.long q1), .second, .val (.long q2), .second, .val (.long q3), .second, .val (.int p4), .val (.int (1 : Int32)), .unset, .unset, .unset, .unset, .unset, .unset]) rfl k) ?_
  show own_Run p e below s₁ (mkF m 6 #[.val (.long q0), .second, .val (.long q1), .second, .val (.long q2), .second, .val (.long q3), .second, .val (.int p4), .val (.int (1 : Int32)), .unset, .unset, .unset, .unset, .unset, .unset] []) _
  refine own_step (fun t k => XS.iload X0.here hx rfl (hb hby at_6) rfl  k) ?_
  show own_Run p e below s₁ (mkF m 8 #[.val (.long q0), .second, .val (.long q1), .second, .val (.long q2), .second, .val (.long q3), .second, .val (.int p4), .val (.int (1 : Int32)), .unset, .unset, .unset, .unset, .unset, .unset] [(.int (1 : Int32))]) _
  obtain ⟨T11, h11, k11, X11, e11, E11, A11, st11⟩ := newP X0 hx hZ (hw _ (List.mem_of_getElem? (i := 0) rfl)) e0 (g := (mkF m 8 #[.val (.long q0), .second, .val (.long q1), .second, .val (.long q2), .second, .val (.long q3), .second, .val (.int p4), .val (.int (1 : Int32)), .unset, .unset, .unset, .unset, .unset, .unset] [(.int (1 : Int32))])) rfl (hb hby at_8) rfl (by decide) (cap := 1) (by decide) (by decide) (by decide) (by decide)
  obtain ⟨b11, g11⟩ : ∃ z, z = h0.size := ⟨_, rfl⟩
  rw [← g11] at A11 st11
  have geb11 : n0 ≤ b11 := Nat.le_trans Z0 (Nat.le_of_eq g11.symm)
  have Zn11 : n0 ≤ h11.size := Nat.le_trans Z0 E11.1
  have V11 : Arv Z h11 b11 k11 .long (1 : Int32) [(.long (0 : Int64))] (.long (0 : Int64)) := (Arv.new A11 (by decide)).pad (pad_rep [] (.long (0 : Int64)) 1)
  refine own_step st11 ?_
  show own_Run p e below T11 (mkF m 10 #[.val (.long q0), .second, .val (.long q1), .second, .val (.long q2), .second, .val (.long q3), .second, .val (.int p4), .val (.int (1 : Int32)), .unset, .unset, .unset, .unset, .unset, .unset] [(.ref b11)]) _
  refine own_step (fun t k => XS.astore X11.here hx rfl (hb hby at_10) rfl rfl (l' := #[.val (.long q0), .second, .val (.long q1), .second, .val (.long q2), .second, .val (.long q3), .second, .val (.int p4), .val (.int (1 : Int32)), .val (.ref b11), .unset, .unset, .unset, .unset, .unset]) rfl k) ?_
  show own_Run p e below T11 (mkF m 12 #[.val (.long q0), .second, .val (.long q1), .second, .val (.long q2), .second, .val (.long q3), .second, .val (.int p4), .val (.int (1 : Int32)), .val (.ref b11), .unset, .unset, .unset, .unset, .unset] []) _
  refine own_step (fun t k => XS.iload X11.here hx rfl (hb hby at_12) rfl  k) ?_
  show own_Run p e below T11 (mkF m 14 #[.val (.long q0), .second, .val (.long q1), .second, .val (.long q2), .second, .val (.long q3), .second, .val (.int p4), .val (.int (1 : Int32)), .val (.ref b11), .unset, .unset, .unset, .unset, .unset] [(.int (1 : Int32))]) _
  refine own_step (fun t k => XS.iconst X11.here hx rfl (hb hby at_14) k) ?_
  show own_Run p e below T11 (mkF m 15 #[.val (.long q0), .second, .val (.long q1), .second, .val (.long q2), .second, .val (.long q3), .second, .val (.int p4), .val (.int (1 : Int32)), .val (.ref b11), .unset, .unset, .unset, .unset, .unset] [(.int (1 : Int32)), (.int (1 : Int32))]) _
  refine own_step (fun t k => XS.icmpNo X11.here hx rfl (hb hby at_15) rfl (flt (by decide : ¬ ((1 : Int32) < (1 : Int32)))).1 k) ?_
  show own_Run p e below T11 (mkF m 18 #[.val (.long q0), .second, .val (.long q1), .second, .val (.long q2), .second, .val (.long q3), .second, .val (.int p4), .val (.int (1 : Int32)), .val (.ref b11), .unset, .unset, .unset, .unset, .unset] []) _
  refine own_step (fun t k => XS.aload X11.here hx rfl (hb hby at_18) rfl rfl k) ?_
  show own_Run p e below T11 (mkF m 20 #[.val (.long q0), .second, .val (.long q1), .second, .val (.long q2), .second, .val (.long q3), .second, .val (.int p4), .val (.int (1 : Int32)), .val (.ref b11), .unset, .unset, .unset, .unset, .unset] [(.ref b11)]) _
  refine own_step (fun t k => XS.iconst X11.here hx rfl (hb hby at_20) k) ?_
  show own_Run p e below T11 (mkF m 21 #[.val (.long q0), .second, .val (.long q1), .second, .val (.long q2), .second, .val (.long q3), .second, .val (.int p4), .val (.int (1 : Int32)), .val (.ref b11), .unset, .unset, .unset, .unset, .unset] [(.int (0 : Int32)), (.ref b11)]) _
  refine own_step (fun t k => XS.lloadN X11.here hx rfl (hb hby at_21) rfl  k) ?_
  show own_Run p e below T11 (mkF m 22 #[.val (.long q0), .second, .val (.long q1), .second, .val (.long q2), .second, .val (.long q3), .second, .val (.int p4), .val (.int (1 : Int32)), .val (.ref b11), .unset, .unset, .unset, .unset, .unset] [(.long q1), (.int (0 : Int32)), (.ref b11)]) _
  obtain ⟨T12, h12, L12, X12, e12, N12, W12, V12, st12⟩ := own_stJ X11 hx hZ e11 V11 N0 geb11 (j := (0 : Int32)) ⟨by decide, by decide⟩ 0 rfl (Nat.le_of_ble_eq_true rfl) (g := (mkF m 22 #[.val (.long q0), .second, .val (.long q1), .second, .val (.long q2), .second, .val (.long q3), .second, .val (.int p4), .val (.int (1 : Int32)), .val (.ref b11), .unset, .unset, .unset, .unset, .unset] [(.long q1), (.int (0 : Int32)), (.ref b11)])) rfl rfl (hb hby at_22)
  have V12x : Arv Z h12 b11 k11 .long (1 : Int32) [(.long q1)] (.long (0 : Int64)) := V12
  have Zn12 : n0 ≤ h12.size := Nat.le_trans Zn11 (Keep.of_wr W12).1
  refine own_step st12 ?_
  show own_Run p e below T12 (mkF m 23 #[.val (.long q0), .second, .val (.long q1), .second, .val (.long q2), .second, .val (.long q3), .second, .val (.int p4), .val (.int (1 : Int32)), .val (.ref b11), .unset, .unset, .unset, .unset, .unset] []) _
  refine own_step (fun t k => XS.iload X12.here hx rfl (hb hby at_23) rfl  k) ?_
  show own_Run p e below T12 (mkF m 25 #[.val (.long q0), .second, .val (.long q1), .second, .val (.long q2), .second, .val (.long q3), .second, .val (.int p4), .val (.int (1 : Int32)), .val (.ref b11), .unset, .unset, .unset, .unset, .unset] [(.int (1 : Int32))]) _
  refine own_step (fun t k => XS.iconst X12.here hx rfl (hb hby at_25) k) ?_
  show own_Run p e below T12 (mkF m 26 #[.val (.long q0), .second, .val (.long q1), .second, .val (.long q2), .second, .val (.long q3), .second, .val (.int p4), .val (.int (1 : Int32)), .val (.ref b11), .unset, .unset, .unset, .unset, .unset] [(.int (2 : Int32)), (.int (1 : Int32))]) _
  refine own_step (fun t k => XS.icmpYes X12.here hx rfl (pc0 := 26) (pc' := 35) rfl (hb hby at_26) rfl (tlt (by decide : (1 : Int32) < (2 : Int32))).1 (by decide) (by decide) k) ?_
  show own_Run p e below T12 (mkF m 35 #[.val (.long q0), .second, .val (.long q1), .second, .val (.long q2), .second, .val (.long q3), .second, .val (.int p4), .val (.int (1 : Int32)), .val (.ref b11), .unset, .unset, .unset, .unset, .unset] []) _
  refine own_step (fun t k => XS.iload X12.here hx rfl (hb hby at_35) rfl  k) ?_
  show own_Run p e below T12 (mkF m 37 #[.val (.long q0), .second, .val (.long q1), .second, .val (.long q2), .second, .val (.long q3), .second, .val (.int p4), .val (.int (1 : Int32)), .val (.ref b11), .unset, .unset, .unset, .unset, .unset] [(.int (1 : Int32))]) _
  refine own_step (fun t k => XS.iconst X12.here hx rfl (hb hby at_37) k) ?_
  show own_Run p e below T12 (mkF m 38 #[.val (.long q0), .second, .val (.long q1), .second, .val (.long q2), .second, .val (.long q3), .second, .val (.int p4), .val (.int (1 : Int32)), .val (.ref b11), .unset, .unset, .unset, .unset, .unset] [(.int (3 : Int32)), (.int (1 : Int32))]) _
  refine own_step (fun t k => XS.icmpYes X12.here hx rfl (pc0 := 38) (pc' := 47) rfl (hb hby at_38) rfl (tlt (by decide : (1 : Int32) < (3 : Int32))).1 (by decide) (by decide) k) ?_
  show own_Run p e below T12 (mkF m 47 #[.val (.long q0), .second, .val (.long q1), .second, .val (.long q2), .second, .val (.long q3), .second, .val (.int p4), .val (.int (1 : Int32)), .val (.ref b11), .unset, .unset, .unset, .unset, .unset] []) _
  refine own_step (fun t k => XS.lloadN X12.here hx rfl (hb hby at_47) rfl  k) ?_
  show own_Run p e below T12 (mkF m 48 #[.val (.long q0), .second, .val (.long q1), .second, .val (.long q2), .second, .val (.long q3), .second, .val (.int p4), .val (.int (1 : Int32)), .val (.ref b11), .unset, .unset, .unset, .unset, .unset] [(.long q0)]) _
  refine own_step (fun t k => XS.aload X12.here hx rfl (hb hby at_48) rfl rfl k) ?_
  show own_Run p e below T12 (mkF m 50 #[.val (.long q0), .second, .val (.long q1), .second, .val (.long q2), .second, .val (.long q3), .second, .val (.int p4), .val (.int (1 : Int32)), .val (.ref b11), .unset, .unset, .unset, .unset, .unset] [(.ref b11), (.long q0)]) _
  obtain ⟨_, _, ⟨T13, L13, kq13, nq13⟩, -, X13, ⟨Lc13, hQ13, lq13, yq13, zq13⟩, st13⟩ := Jvm.LawKit.callS X12 hx (y := (⟨"com/example/surefoot/surefoot/SplitMix", "derive", "(J[J)J"⟩ : MethodName)) hown (mvT hZ (hw _ (List.mem_of_getElem? (i := 1) rfl))) (mvT hZ (hw _ (List.mem_of_getElem? (i := 2) rfl))) (mvT hZ (hw _ (List.mem_of_getElem? (i := 3) rfl))) (mvT hZ (hw _ (List.mem_of_getElem? (i := 4) rfl))) (by decide) (backOf (W := 0) (rm1c1 l Z av0 hw [] q0 b11 k11 q1 h12 n0 Zn12 V12x) hZ (hw _ (List.mem_of_getElem? (i := 4) rfl)) (hw _ (List.mem_of_getElem? (i := 3) rfl)) (by decide) (by decide)) (g := (mkF m 50 #[.val (.long q0), .second, .val (.long q1), .second, .val (.long q2), .second, .val (.long q3), .second, .val (.int p4), .val (.int (1 : Int32)), .val (.ref b11), .unset, .unset, .unset, .unset, .unset] [(.ref b11), (.long q0)])) rfl (by rw [hml]; rfl) (argsL := [(.long q0), (.ref b11)]) (rest := []) (lenOf own_pd66 rfl) rfl (by show 2 * 0 + _ ≤ _; exact Nat.le_of_eq rfl) (hb hby at_50) (fun _ _ => ⟨rfl, e12, (by decide : 1 + 0 ≤ _), (by decide : 1 + 0 ≤ _)⟩)
  dsimp only [Pt.U, Pt.locs, Pt.cells, Pt.slots] at X13 lq13 yq13 zq13 st13 hQ13
  subst lq13 yq13 zq13
  obtain ⟨rfl, N13q, e13⟩ := hQ13
  have N13 := Fr.app N12 N13q
  refine own_step st13 ?_
  show own_Run p e below T13 (mkF m 53 #[.val (.long q0), .second, .val (.long q1), .second, .val (.long q2), .second, .val (.long q3), .second, .val (.int p4), .val (.int (1 : Int32)), .val (.ref b11), .unset, .unset, .unset, .unset, .unset] [(.long (own_r1c1 q0 q1))]) _
  refine own_step (fun t k => XS.lstore X13.here hx rfl (hb hby at_53) rfl (l' := #[.val (.long q0), .second, .val (.long q1), .second, .val (.long q2), .second, .val (.long q3), .second, .val (.int p4), .val (.int (1 : Int32)), .val (.ref b11), .val (.long (own_r1c1 q0 q1)), .second, .unset, .unset, .unset]) rfl k) ?_
  show own_Run p e below T13 (mkF m 55 #[.val (.long q0), .second, .val (.long q1), .second, .val (.long q2), .second, .val (.long q3), .second, .val (.int p4), .val (.int (1 : Int32)), .val (.ref b11), .val (.long (own_r1c1 q0 q1)), .second, .unset, .unset, .unset] []) _
  refine own_step (fun t k => XS.lloadN X13.here hx rfl (hb hby at_55) rfl  k) ?_
  show own_Run p e below T13 (mkF m 56 #[.val (.long q0), .second, .val (.long q1), .second, .val (.long q2), .second, .val (.long q3), .second, .val (.int p4), .val (.int (1 : Int32)), .val (.ref b11), .val (.long (own_r1c1 q0 q1)), .second, .unset, .unset, .unset] [(.long q0)]) _
  obtain ⟨_, _, ⟨T14, L14, kq14, nq14⟩, -, X14, ⟨Lc14, hQ14, lq14, yq14, zq14⟩, st14⟩ := Jvm.LawKit.callS X13 hx (y := (⟨"com/example/surefoot/surefoot/SplitMix", "mix", "(J)J"⟩ : MethodName)) hown (mvT hZ (hw _ (List.mem_of_getElem? (i := 11) rfl))) (mvT hZ (hw _ (List.mem_of_getElem? (i := 6) rfl))) (mvT hZ (hw _ (List.mem_of_getElem? (i := 3) rfl))) (mvT hZ (hw _ (List.mem_of_getElem? (i := 7) rfl))) (by decide) (backOf (W := 0) (rm2 l Z av0 hw [] q0 h12 n0 Zn12 ) hZ (hw _ (List.mem_of_getElem? (i := 7) rfl)) (hw _ (List.mem_of_getElem? (i := 3) rfl)) (by decide) (by decide)) (g := (mkF m 56 #[.val (.long q0), .second, .val (.long q1), .second, .val (.long q2), .second, .val (.long q3), .second, .val (.int p4), .val (.int (1 : Int32)), .val (.ref b11), .val (.long (own_r1c1 q0 q1)), .second, .unset, .unset, .unset] [(.long q0)])) rfl (by rw [hml]; rfl) (argsL := [(.long q0)]) (rest := []) (lenOf own_pd24 rfl) rfl (by show 2 * 0 + _ ≤ _; exact Nat.le_of_eq rfl) (hb hby at_56) (fun _ _ => ⟨rfl, e13, (by decide : 1 + 0 ≤ _), (by decide : 1 + 0 ≤ _)⟩)
  dsimp only [Pt.U, Pt.locs, Pt.cells, Pt.slots] at X14 lq14 yq14 zq14 st14 hQ14
  subst lq14 yq14 zq14
  obtain ⟨rfl, N14q, e14⟩ := hQ14
  have N14 := Fr.app N13 N14q
  refine own_step st14 ?_
  show own_Run p e below T14 (mkF m 59 #[.val (.long q0), .second, .val (.long q1), .second, .val (.long q2), .second, .val (.long q3), .second, .val (.int p4), .val (.int (1 : Int32)), .val (.ref b11), .val (.long (own_r1c1 q0 q1)), .second, .unset, .unset, .unset] [(.long (own_r2 q0))]) _
  refine own_step (fun t k => XS.lstore X14.here hx rfl (hb hby at_59) rfl (l' := #[.val (.long q0), .second, .val (.long q1), .second, .val (.long q2), .second, .val (.long q3), .second, .val (.int p4), .val (.int (1 : Int32)), .val (.ref b11), .val (.long (own_r1c1 q0 q1)), .second, .val (.long (own_r2 q0)), .second, .unset]) rfl k) ?_
  show own_Run p e below T14 (mkF m 61 #[.val (.long q0), .second, .val (.long q1), .second, .val (.long q2), .second, .val (.long q3), .second, .val (.int p4), .val (.int (1 : Int32)), .val (.ref b11), .val (.long (own_r1c1 q0 q1)), .second, .val (.long (own_r2 q0)), .second, .unset] []) _
  refine own_step (fun t k => XS.iload X14.here hx rfl (hb hby at_61) rfl  k) ?_
  show own_Run p e below T14 (mkF m 63 #[.val (.long q0), .second, .val (.long q1), .second, .val (.long q2), .second, .val (.long q3), .second, .val (.int p4), .val (.int (1 : Int32)), .val (.ref b11), .val (.long (own_r1c1 q0 q1)), .second, .val (.long (own_r2 q0)), .second, .unset] [(.int (1 : Int32))]) _
  refine own_step (fun t k => XS.iconst X14.here hx rfl (hb hby at_63) k) ?_
  show own_Run p e below T14 (mkF m 64 #[.val (.long q0), .second, .val (.long q1), .second, .val (.long q2), .second, .val (.long q3), .second, .val (.int p4), .val (.int (1 : Int32)), .val (.ref b11), .val (.long (own_r1c1 q0 q1)), .second, .val (.long (own_r2 q0)), .second, .unset] [(.int (1 : Int32)), (.int (1 : Int32))]) _
  refine own_step (fun t k => XS.icmpNo X14.here hx rfl (hb hby at_64) rfl (flt (by decide : ¬ ((1 : Int32) < (1 : Int32)))).1 k) ?_
  show own_Run p e below T14 (mkF m 67 #[.val (.long q0), .second, .val (.long q1), .second, .val (.long q2), .second, .val (.long q3), .second, .val (.int p4), .val (.int (1 : Int32)), .val (.ref b11), .val (.long (own_r1c1 q0 q1)), .second, .val (.long (own_r2 q0)), .second, .unset] []) _
  refine own_step (fun t k => XS.lload X14.here hx rfl (hb hby at_67) rfl  k) ?_
  show own_Run p e below T14 (mkF m 69 #[.val (.long q0), .second, .val (.long q1), .second, .val (.long q2), .second, .val (.long q3), .second, .val (.int p4), .val (.int (1 : Int32)), .val (.ref b11), .val (.long (own_r1c1 q0 q1)), .second, .val (.long (own_r2 q0)), .second, .unset] [(.long (own_r2 q0))]) _
  refine own_step (fun t k => XS.lloadN X14.here hx rfl (hb hby at_69) rfl  k) ?_
  show own_Run p e below T14 (mkF m 70 #[.val (.long q0), .second, .val (.long q1), .second, .val (.long q2), .second, .val (.long q3), .second, .val (.int p4), .val (.int (1 : Int32)), .val (.ref b11), .val (.long (own_r1c1 q0 q1)), .second, .val (.long (own_r2 q0)), .second, .unset] [(.long q1), (.long (own_r2 q0))]) _
  obtain ⟨_, _, ⟨T15, L15, kq15, nq15⟩, -, X15, ⟨Lc15, hQ15, lq15, yq15, zq15⟩, st15⟩ := Jvm.LawKit.callS X14 hx (y := (⟨"com/example/surefoot/surefoot/SplitMixDerivePinLaw", "step", "(JJ)J"⟩ : MethodName)) hown (mvT hZ (hw _ (List.mem_of_getElem? (i := 12) rfl))) (mvT hZ (hw _ (List.mem_of_getElem? (i := 13) rfl))) (mvT hZ (hw _ (List.mem_of_getElem? (i := 14) rfl))) (mvT hZ (hw _ (List.mem_of_getElem? (i := 15) rfl))) (by decide) (backOf (W := 0) (rm3 l Z av0 hw [] (own_r2 q0) q1 h12 n0 Zn12 ) hZ (hw _ (List.mem_of_getElem? (i := 15) rfl)) (hw _ (List.mem_of_getElem? (i := 14) rfl)) (by decide) (by decide)) (g := (mkF m 70 #[.val (.long q0), .second, .val (.long q1), .second, .val (.long q2), .second, .val (.long q3), .second, .val (.int p4), .val (.int (1 : Int32)), .val (.ref b11), .val (.long (own_r1c1 q0 q1)), .second, .val (.long (own_r2 q0)), .second, .unset] [(.long q1), (.long (own_r2 q0))])) rfl (by rw [hml]; rfl) (argsL := [(.long (own_r2 q0)), (.long q1)]) (rest := []) (lenOf own_pd67 rfl) rfl (by show 2 * 0 + _ ≤ _; exact Nat.le_of_eq rfl) (hb hby at_70) (fun _ _ => ⟨rfl, e14, (by decide : 1 + 0 ≤ _), (by decide : 1 + 0 ≤ _)⟩)
  dsimp only [Pt.U, Pt.locs, Pt.cells, Pt.slots] at X15 lq15 yq15 zq15 st15 hQ15
  subst lq15 yq15 zq15
  obtain ⟨rfl, N15q, e15⟩ := hQ15
  have N15 := Fr.app N14 N15q
  refine own_step st15 ?_
  show own_Run p e below T15 (mkF m 73 #[.val (.long q0), .second, .val (.long q1), .second, .val (.long q2), .second, .val (.long q3), .second, .val (.int p4), .val (.int (1 : Int32)), .val (.ref b11), .val (.long (own_r1c1 q0 q1)), .second, .val (.long (own_r2 q0)), .second, .unset] [(.long (own_r3 (own_r2 q0) q1))]) _
  refine own_step (fun t k => XS.lstore X15.here hx rfl (hb hby at_73) rfl (l' := #[.val (.long q0), .second, .val (.long q1), .second, .val (.long q2), .second, .val (.long q3), .second, .val (.int p4), .val (.int (1 : Int32)), .val (.ref b11), .val (.long (own_r1c1 q0 q1)), .second, .val (.long (own_r3 (own_r2 q0) q1)), .second, .unset]) rfl k) ?_
  show own_Run p e below T15 (mkF m 75 #[.val (.long q0), .second, .val (.long q1), .second, .val (.long q2), .second, .val (.long q3), .second, .val (.int p4), .val (.int (1 : Int32)), .val (.ref b11), .val (.long (own_r1c1 q0 q1)), .second, .val (.long (own_r3 (own_r2 q0) q1)), .second, .unset] []) _
  refine own_step (fun t k => XS.iload X15.here hx rfl (hb hby at_75) rfl  k) ?_
  show own_Run p e below T15 (mkF m 77 #[.val (.long q0), .second, .val (.long q1), .second, .val (.long q2), .second, .val (.long q3), .second, .val (.int p4), .val (.int (1 : Int32)), .val (.ref b11), .val (.long (own_r1c1 q0 q1)), .second, .val (.long (own_r3 (own_r2 q0) q1)), .second, .unset] [(.int (1 : Int32))]) _
  refine own_step (fun t k => XS.iconst X15.here hx rfl (hb hby at_77) k) ?_
  show own_Run p e below T15 (mkF m 78 #[.val (.long q0), .second, .val (.long q1), .second, .val (.long q2), .second, .val (.long q3), .second, .val (.int p4), .val (.int (1 : Int32)), .val (.ref b11), .val (.long (own_r1c1 q0 q1)), .second, .val (.long (own_r3 (own_r2 q0) q1)), .second, .unset] [(.int (2 : Int32)), (.int (1 : Int32))]) _
  refine own_step (fun t k => XS.icmpYes X15.here hx rfl (pc0 := 78) (pc' := 90) rfl (hb hby at_78) rfl (tlt (by decide : (1 : Int32) < (2 : Int32))).1 (by decide) (by decide) k) ?_
  show own_Run p e below T15 (mkF m 90 #[.val (.long q0), .second, .val (.long q1), .second, .val (.long q2), .second, .val (.long q3), .second, .val (.int p4), .val (.int (1 : Int32)), .val (.ref b11), .val (.long (own_r1c1 q0 q1)), .second, .val (.long (own_r3 (own_r2 q0) q1)), .second, .unset] []) _
  refine own_step (fun t k => XS.iload X15.here hx rfl (hb hby at_90) rfl  k) ?_
  show own_Run p e below T15 (mkF m 92 #[.val (.long q0), .second, .val (.long q1), .second, .val (.long q2), .second, .val (.long q3), .second, .val (.int p4), .val (.int (1 : Int32)), .val (.ref b11), .val (.long (own_r1c1 q0 q1)), .second, .val (.long (own_r3 (own_r2 q0) q1)), .second, .unset] [(.int (1 : Int32))]) _
  refine own_step (fun t k => XS.iconst X15.here hx rfl (hb hby at_92) k) ?_
  show own_Run p e below T15 (mkF m 93 #[.val (.long q0), .second, .val (.long q1), .second, .val (.long q2), .second, .val (.long q3), .second, .val (.int p4), .val (.int (1 : Int32)), .val (.ref b11), .val (.long (own_r1c1 q0 q1)), .second, .val (.long (own_r3 (own_r2 q0) q1)), .second, .unset] [(.int (3 : Int32)), (.int (1 : Int32))]) _
  refine own_step (fun t k => XS.icmpYes X15.here hx rfl (pc0 := 93) (pc' := 105) rfl (hb hby at_93) rfl (tlt (by decide : (1 : Int32) < (3 : Int32))).1 (by decide) (by decide) k) ?_
  show own_Run p e below T15 (mkF m 105 #[.val (.long q0), .second, .val (.long q1), .second, .val (.long q2), .second, .val (.long q3), .second, .val (.int p4), .val (.int (1 : Int32)), .val (.ref b11), .val (.long (own_r1c1 q0 q1)), .second, .val (.long (own_r3 (own_r2 q0) q1)), .second, .unset] []) _
  refine own_step (fun t k => XS.iload X15.here hx rfl (hb hby at_105) rfl  k) ?_
  show own_Run p e below T15 (mkF m 107 #[.val (.long q0), .second, .val (.long q1), .second, .val (.long q2), .second, .val (.long q3), .second, .val (.int p4), .val (.int (1 : Int32)), .val (.ref b11), .val (.long (own_r1c1 q0 q1)), .second, .val (.long (own_r3 (own_r2 q0) q1)), .second, .unset] [(.int (1 : Int32))]) _
  refine own_step (fun t k => XS.iconst X15.here hx rfl (hb hby at_107) k) ?_
  show own_Run p e below T15 (mkF m 108 #[.val (.long q0), .second, .val (.long q1), .second, .val (.long q2), .second, .val (.long q3), .second, .val (.int p4), .val (.int (1 : Int32)), .val (.ref b11), .val (.long (own_r1c1 q0 q1)), .second, .val (.long (own_r3 (own_r2 q0) q1)), .second, .unset] [(.int (1 : Int32)), (.int (1 : Int32))]) _
  refine own_step (fun t k => XS.icmpNo X15.here hx rfl (hb hby at_108) rfl (flt (by decide : ¬ ((1 : Int32) < (1 : Int32)))).1 k) ?_
  show own_Run p e below T15 (mkF m 111 #[.val (.long q0), .second, .val (.long q1), .second, .val (.long q2), .second, .val (.long q3), .second, .val (.int p4), .val (.int (1 : Int32)), .val (.ref b11), .val (.long (own_r1c1 q0 q1)), .second, .val (.long (own_r3 (own_r2 q0) q1)), .second, .unset] []) _
  refine own_step (fun t k => XS.aload X15.here hx rfl (hb hby at_111) rfl rfl k) ?_
  show own_Run p e below T15 (mkF m 113 #[.val (.long q0), .second, .val (.long q1), .second, .val (.long q2), .second, .val (.long q3), .second, .val (.int p4), .val (.int (1 : Int32)), .val (.ref b11), .val (.long (own_r1c1 q0 q1)), .second, .val (.long (own_r3 (own_r2 q0) q1)), .second, .unset] [(.ref b11)]) _
  refine own_step (fun t k => XS.iconst X15.here hx rfl (hb hby at_113) k) ?_
  show own_Run p e below T15 (mkF m 114 #[.val (.long q0), .second, .val (.long q1), .second, .val (.long q2), .second, .val (.long q3), .second, .val (.int p4), .val (.int (1 : Int32)), .val (.ref b11), .val (.long (own_r1c1 q0 q1)), .second, .val (.long (own_r3 (own_r2 q0) q1)), .second, .unset] [(.int (0 : Int32)), (.ref b11)]) _
  refine own_step (own_ldJ X15 hx hZ e15 V12x (j := (0 : Int32)) (v := (.long q1)) ⟨by decide, by decide⟩ rfl (g := (mkF m 114 #[.val (.long q0), .second, .val (.long q1), .second, .val (.long q2), .second, .val (.long q3), .second, .val (.int p4), .val (.int (1 : Int32)), .val (.ref b11), .val (.long (own_r1c1 q0 q1)), .second, .val (.long (own_r3 (own_r2 q0) q1)), .second, .unset] [(.int (0 : Int32)), (.ref b11)])) rfl rfl (hb hby at_114)) ?_
  show own_Run p e below T15 (mkF m 115 #[.val (.long q0), .second, .val (.long q1), .second, .val (.long q2), .second, .val (.long q3), .second, .val (.int p4), .val (.int (1 : Int32)), .val (.ref b11), .val (.long (own_r1c1 q0 q1)), .second, .val (.long (own_r3 (own_r2 q0) q1)), .second, .unset] [(.long q1)]) _
  refine own_step (fun t k => XS.lloadN X15.here hx rfl (hb hby at_115) rfl  k) ?_
  show own_Run p e below T15 (mkF m 116 #[.val (.long q0), .second, .val (.long q1), .second, .val (.long q2), .second, .val (.long q3), .second, .val (.int p4), .val (.int (1 : Int32)), .val (.ref b11), .val (.long (own_r1c1 q0 q1)), .second, .val (.long (own_r3 (own_r2 q0) q1)), .second, .unset] [(.long q1), (.long q1)]) _
  refine own_step (fun t k => XS.lcmp X15.here hx rfl (hb hby at_116) rfl k) ?_
  show own_Run p e below T15 (mkF m 117 #[.val (.long q0), .second, .val (.long q1), .second, .val (.long q2), .second, .val (.long q3), .second, .val (.int p4), .val (.int (1 : Int32)), .val (.ref b11), .val (.long (own_r1c1 q0 q1)), .second, .val (.long (own_r3 (own_r2 q0) q1)), .second, .unset] [(.int (lcmpW q1 q1))]) _
  obtain ⟨_, st16, rfl⟩ : own_Run p e below T15 (mkF m 117 #[.val (.long q0), .second, .val (.long q1), .second, .val (.long q2), .second, .val (.long q3), .second, .val (.int p4), .val (.int (1 : Int32)), .val (.ref b11), .val (.long (own_r1c1 q0 q1)), .second, .val (.long (own_r3 (own_r2 q0) q1)), .second, .unset] [(.int (lcmpW q1 q1))]) (fun t => t = T15.setTop (mkF m 157 #[.val (.long q0), .second, .val (.long q1), .second, .val (.long q2), .second, .val (.long q3), .second, .val (.int p4), .val (.int (1 : Int32)), .val (.ref b11), .val (.long (own_r1c1 q0 q1)), .second, .val (.long (own_r3 (own_r2 q0) q1)), .second, .unset] [(.int (own_f0c1_j157_S0 q1))])) := by
    by_cases hc17 : (lcmpW q1 q1) = (0 : Int32)
    · refine own_step (fun t k => XS.ifNo X15.here hx rfl (hb hby at_117) rfl ((if0 _ _).trans (teq hc17).2) k) ?_
      show own_Run p e below T15 (mkF m 120 #[.val (.long q0), .second, .val (.long q1), .second, .val (.long q2), .second, .val (.long q3), .second, .val (.int p4), .val (.int (1 : Int32)), .val (.ref b11), .val (.long (own_r1c1 q0 q1)), .second, .val (.long (own_r3 (own_r2 q0) q1)), .second, .unset] []) _
      refine own_step (fun t k => XS.iload X15.here hx rfl (hb hby at_120) rfl  k) ?_
      show own_Run p e below T15 (mkF m 122 #[.val (.long q0), .second, .val (.long q1), .second, .val (.long q2), .second, .val (.long q3), .second, .val (.int p4), .val (.int (1 : Int32)), .val (.ref b11), .val (.long (own_r1c1 q0 q1)), .second, .val (.long (own_r3 (own_r2 q0) q1)), .second, .unset] [(.int (1 : Int32))]) _
      refine own_step (fun t k => XS.iconst X15.here hx rfl (hb hby at_122) k) ?_
      show own_Run p e below T15 (mkF m 123 #[.val (.long q0), .second, .val (.long q1), .second, .val (.long q2), .second, .val (.long q3), .second, .val (.int p4), .val (.int (1 : Int32)), .val (.ref b11), .val (.long (own_r1c1 q0 q1)), .second, .val (.long (own_r3 (own_r2 q0) q1)), .second, .unset] [(.int (2 : Int32)), (.int (1 : Int32))]) _
      refine own_step (fun t k => XS.icmpYes X15.here hx rfl (pc0 := 123) (pc' := 136) rfl (hb hby at_123) rfl (tlt (by decide : (1 : Int32) < (2 : Int32))).1 (by decide) (by decide) k) ?_
      show own_Run p e below T15 (mkF m 136 #[.val (.long q0), .second, .val (.long q1), .second, .val (.long q2), .second, .val (.long q3), .second, .val (.int p4), .val (.int (1 : Int32)), .val (.ref b11), .val (.long (own_r1c1 q0 q1)), .second, .val (.long (own_r3 (own_r2 q0) q1)), .second, .unset] []) _
      refine own_step (fun t k => XS.iload X15.here hx rfl (hb hby at_136) rfl  k) ?_
      show own_Run p e below T15 (mkF m 138 #[.val (.long q0), .second, .val (.long q1), .second, .val (.long q2), .second, .val (.long q3), .second, .val (.int p4), .val (.int (1 : Int32)), .val (.ref b11), .val (.long (own_r1c1 q0 q1)), .second, .val (.long (own_r3 (own_r2 q0) q1)), .second, .unset] [(.int (1 : Int32))]) _
      refine own_step (fun t k => XS.iconst X15.here hx rfl (hb hby at_138) k) ?_
      show own_Run p e below T15 (mkF m 139 #[.val (.long q0), .second, .val (.long q1), .second, .val (.long q2), .second, .val (.long q3), .second, .val (.int p4), .val (.int (1 : Int32)), .val (.ref b11), .val (.long (own_r1c1 q0 q1)), .second, .val (.long (own_r3 (own_r2 q0) q1)), .second, .unset] [(.int (3 : Int32)), (.int (1 : Int32))]) _
      refine own_step (fun t k => XS.icmpYes X15.here hx rfl (pc0 := 139) (pc' := 152) rfl (hb hby at_139) rfl (tlt (by decide : (1 : Int32) < (3 : Int32))).1 (by decide) (by decide) k) ?_
      show own_Run p e below T15 (mkF m 152 #[.val (.long q0), .second, .val (.long q1), .second, .val (.long q2), .second, .val (.long q3), .second, .val (.int p4), .val (.int (1 : Int32)), .val (.ref b11), .val (.long (own_r1c1 q0 q1)), .second, .val (.long (own_r3 (own_r2 q0) q1)), .second, .unset] []) _
      refine own_step (fun t k => XS.iconst X15.here hx rfl (hb hby at_152) k) ?_
      show own_Run p e below T15 (mkF m 153 #[.val (.long q0), .second, .val (.long q1), .second, .val (.long q2), .second, .val (.long q3), .second, .val (.int p4), .val (.int (1 : Int32)), .val (.ref b11), .val (.long (own_r1c1 q0 q1)), .second, .val (.long (own_r3 (own_r2 q0) q1)), .second, .unset] [(.int (1 : Int32))]) _
      refine own_step (fun t k => XS.goto X15.here hx rfl (pc0 := 153) (pc' := 157) rfl (hb hby at_153) (by decide) (by decide) k) ?_
      show own_Run p e below T15 (mkF m 157 #[.val (.long q0), .second, .val (.long q1), .second, .val (.long q2), .second, .val (.long q3), .second, .val (.int p4), .val (.int (1 : Int32)), .val (.ref b11), .val (.long (own_r1c1 q0 q1)), .second, .val (.long (own_r3 (own_r2 q0) q1)), .second, .unset] [(.int (1 : Int32))]) _
      have hj0 : (own_f0c1_j157_S0 q1) = (1 : Int32) := (if_pos hc17)
      exact own_here (by rw [hj0])
    · refine own_step (fun t k => XS.ifYes X15.here hx rfl (pc0 := 117) (pc' := 156) rfl (hb hby at_117) rfl ((if0 _ _).trans (feq hc17).2) (by decide) (by decide) k) ?_
      show own_Run p e below T15 (mkF m 156 #[.val (.long q0), .second, .val (.long q1), .second, .val (.long q2), .second, .val (.long q3), .second, .val (.int p4), .val (.int (1 : Int32)), .val (.ref b11), .val (.long (own_r1c1 q0 q1)), .second, .val (.long (own_r3 (own_r2 q0) q1)), .second, .unset] []) _
      refine own_step (fun t k => XS.iconst X15.here hx rfl (hb hby at_156) k) ?_
      show own_Run p e below T15 (mkF m 157 #[.val (.long q0), .second, .val (.long q1), .second, .val (.long q2), .second, .val (.long q3), .second, .val (.int p4), .val (.int (1 : Int32)), .val (.ref b11), .val (.long (own_r1c1 q0 q1)), .second, .val (.long (own_r3 (own_r2 q0) q1)), .second, .unset] [(.int (0 : Int32))]) _
      have hj0 : (own_f0c1_j157_S0 q1) = (0 : Int32) := (if_neg hc17)
      exact own_here (by rw [hj0])
  refine own_tr st16 ?_
  show own_Run p e below T15 (mkF m 157 #[.val (.long q0), .second, .val (.long q1), .second, .val (.long q2), .second, .val (.long q3), .second, .val (.int p4), .val (.int (1 : Int32)), .val (.ref b11), .val (.long (own_r1c1 q0 q1)), .second, .val (.long (own_r3 (own_r2 q0) q1)), .second, .unset] [(.int (own_f0c1_j157_S0 q1))]) _
  refine own_step (fun t k => XS.istore X15.here hx rfl (hb hby at_157) rfl (l' := #[.val (.long q0), .second, .val (.long q1), .second, .val (.long q2), .second, .val (.long q3), .second, .val (.int p4), .val (.int (1 : Int32)), .val (.ref b11), .val (.long (own_r1c1 q0 q1)), .second, .val (.long (own_r3 (own_r2 q0) q1)), .second, .val (.int (own_f0c1_j157_S0 q1))]) rfl k) ?_
  show own_Run p e below T15 (mkF m 159 #[.val (.long q0), .second, .val (.long q1), .second, .val (.long q2), .second, .val (.long q3), .second, .val (.int p4), .val (.int (1 : Int32)), .val (.ref b11), .val (.long (own_r1c1 q0 q1)), .second, .val (.long (own_r3 (own_r2 q0) q1)), .second, .val (.int (own_f0c1_j157_S0 q1))] []) _
  refine own_step (fun t k => XS.lload X15.here hx rfl (hb hby at_159) rfl  k) ?_
  show own_Run p e below T15 (mkF m 161 #[.val (.long q0), .second, .val (.long q1), .second, .val (.long q2), .second, .val (.long q3), .second, .val (.int p4), .val (.int (1 : Int32)), .val (.ref b11), .val (.long (own_r1c1 q0 q1)), .second, .val (.long (own_r3 (own_r2 q0) q1)), .second, .val (.int (own_f0c1_j157_S0 q1))] [(.long (own_r1c1 q0 q1))]) _
  refine own_step (fun t k => XS.lload X15.here hx rfl (hb hby at_161) rfl  k) ?_
  show own_Run p e below T15 (mkF m 163 #[.val (.long q0), .second, .val (.long q1), .second, .val (.long q2), .second, .val (.long q3), .second, .val (.int p4), .val (.int (1 : Int32)), .val (.ref b11), .val (.long (own_r1c1 q0 q1)), .second, .val (.long (own_r3 (own_r2 q0) q1)), .second, .val (.int (own_f0c1_j157_S0 q1))] [(.long (own_r3 (own_r2 q0) q1)), (.long (own_r1c1 q0 q1))]) _
  refine own_step (fun t k => XS.lcmp X15.here hx rfl (hb hby at_163) rfl k) ?_
  show own_Run p e below T15 (mkF m 164 #[.val (.long q0), .second, .val (.long q1), .second, .val (.long q2), .second, .val (.long q3), .second, .val (.int p4), .val (.int (1 : Int32)), .val (.ref b11), .val (.long (own_r1c1 q0 q1)), .second, .val (.long (own_r3 (own_r2 q0) q1)), .second, .val (.int (own_f0c1_j157_S0 q1))] [(.int (lcmpW (own_r1c1 q0 q1) (own_r3 (own_r2 q0) q1)))]) _
  obtain ⟨_, st18, rfl⟩ : own_Run p e below T15 (mkF m 164 #[.val (.long q0), .second, .val (.long q1), .second, .val (.long q2), .second, .val (.long q3), .second, .val (.int p4), .val (.int (1 : Int32)), .val (.ref b11), .val (.long (own_r1c1 q0 q1)), .second, .val (.long (own_r3 (own_r2 q0) q1)), .second, .val (.int (own_f0c1_j157_S0 q1))] [(.int (lcmpW (own_r1c1 q0 q1) (own_r3 (own_r2 q0) q1)))]) (fun t => t = T15.setTop (mkF m 185 #[.val (.long q0), .second, .val (.long q1), .second, .val (.long q2), .second, .val (.long q3), .second, .val (.int p4), .val (.int (1 : Int32)), .val (.ref b11), .val (.long (own_r1c1 q0 q1)), .second, .val (.long (own_r3 (own_r2 q0) q1)), .second, .val (.int (own_f0c1_j157_S0 q1))] [(.int (own_f0c1_j185_S0 q0 q1))])) := by
    by_cases hc19 : (lcmpW (own_r1c1 q0 q1) (own_r3 (own_r2 q0) q1)) = (0 : Int32)
    · refine own_step (fun t k => XS.ifNo X15.here hx rfl (hb hby at_164) rfl ((if0 _ _).trans (teq hc19).2) k) ?_
      show own_Run p e below T15 (mkF m 167 #[.val (.long q0), .second, .val (.long q1), .second, .val (.long q2), .second, .val (.long q3), .second, .val (.int p4), .val (.int (1 : Int32)), .val (.ref b11), .val (.long (own_r1c1 q0 q1)), .second, .val (.long (own_r3 (own_r2 q0) q1)), .second, .val (.int (own_f0c1_j157_S0 q1))] []) _
      refine own_step (fun t k => XS.iload X15.here hx rfl (hb hby at_167) rfl  k) ?_
      show own_Run p e below T15 (mkF m 169 #[.val (.long q0), .second, .val (.long q1), .second, .val (.long q2), .second, .val (.long q3), .second, .val (.int p4), .val (.int (1 : Int32)), .val (.ref b11), .val (.long (own_r1c1 q0 q1)), .second, .val (.long (own_r3 (own_r2 q0) q1)), .second, .val (.int (own_f0c1_j157_S0 q1))] [(.int (own_f0c1_j157_S0 q1))]) _
      by_cases hc20 : (own_f0c1_j157_S0 q1) = (0 : Int32)
      · refine own_step (fun t k => XS.ifYes X15.here hx rfl (pc0 := 169) (pc' := 184) rfl (hb hby at_169) rfl ((if0 _ _).trans (teq hc20).1) (by decide) (by decide) k) ?_
        show own_Run p e below T15 (mkF m 184 #[.val (.long q0), .second, .val (.long q1), .second, .val (.long q2), .second, .val (.long q3), .second, .val (.int p4), .val (.int (1 : Int32)), .val (.ref b11), .val (.long (own_r1c1 q0 q1)), .second, .val (.long (own_r3 (own_r2 q0) q1)), .second, .val (.int (own_f0c1_j157_S0 q1))] []) _
        refine own_step (fun t k => XS.iconst X15.here hx rfl (hb hby at_184) k) ?_
        show own_Run p e below T15 (mkF m 185 #[.val (.long q0), .second, .val (.long q1), .second, .val (.long q2), .second, .val (.long q3), .second, .val (.int p4), .val (.int (1 : Int32)), .val (.ref b11), .val (.long (own_r1c1 q0 q1)), .second, .val (.long (own_r3 (own_r2 q0) q1)), .second, .val (.int (own_f0c1_j157_S0 q1))] [(.int (0 : Int32))]) _
        have hj0 : (own_f0c1_j185_S0 q0 q1) = (0 : Int32) := ((if_pos hc19).trans (if_pos hc20))
        exact own_here (by rw [hj0])
      · refine own_step (fun t k => XS.ifNo X15.here hx rfl (hb hby at_169) rfl ((if0 _ _).trans (feq hc20).1) k) ?_
        show own_Run p e below T15 (mkF m 172 #[.val (.long q0), .second, .val (.long q1), .second, .val (.long q2), .second, .val (.long q3), .second, .val (.int p4), .val (.int (1 : Int32)), .val (.ref b11), .val (.long (own_r1c1 q0 q1)), .second, .val (.long (own_r3 (own_r2 q0) q1)), .second, .val (.int (own_f0c1_j157_S0 q1))] []) _
        refine own_step (fun t k => XS.aload X15.here hx rfl (hb hby at_172) rfl rfl k) ?_
        show own_Run p e below T15 (mkF m 174 #[.val (.long q0), .second, .val (.long q1), .second, .val (.long q2), .second, .val (.long q3), .second, .val (.int p4), .val (.int (1 : Int32)), .val (.ref b11), .val (.long (own_r1c1 q0 q1)), .second, .val (.long (own_r3 (own_r2 q0) q1)), .second, .val (.int (own_f0c1_j157_S0 q1))] [(.ref b11)]) _
        refine own_step (own_len X15 hx hZ e15 V12x (g := (mkF m 174 #[.val (.long q0), .second, .val (.long q1), .second, .val (.long q2), .second, .val (.long q3), .second, .val (.int p4), .val (.int (1 : Int32)), .val (.ref b11), .val (.long (own_r1c1 q0 q1)), .second, .val (.long (own_r3 (own_r2 q0) q1)), .second, .val (.int (own_f0c1_j157_S0 q1))] [(.ref b11)])) rfl rfl (hb hby at_174)) ?_
        show own_Run p e below T15 (mkF m 175 #[.val (.long q0), .second, .val (.long q1), .second, .val (.long q2), .second, .val (.long q3), .second, .val (.int p4), .val (.int (1 : Int32)), .val (.ref b11), .val (.long (own_r1c1 q0 q1)), .second, .val (.long (own_r3 (own_r2 q0) q1)), .second, .val (.int (own_f0c1_j157_S0 q1))] [(.int (1 : Int32))]) _
        refine own_step (fun t k => XS.iload X15.here hx rfl (hb hby at_175) rfl  k) ?_
        show own_Run p e below T15 (mkF m 177 #[.val (.long q0), .second, .val (.long q1), .second, .val (.long q2), .second, .val (.long q3), .second, .val (.int p4), .val (.int (1 : Int32)), .val (.ref b11), .val (.long (own_r1c1 q0 q1)), .second, .val (.long (own_r3 (own_r2 q0) q1)), .second, .val (.int (own_f0c1_j157_S0 q1))] [(.int (1 : Int32)), (.int (1 : Int32))]) _
        refine own_step (fun t k => XS.icmpNo X15.here hx rfl (hb hby at_177) rfl (teq (rfl : (1 : Int32) = (1 : Int32))).2 k) ?_
        show own_Run p e below T15 (mkF m 180 #[.val (.long q0), .second, .val (.long q1), .second, .val (.long q2), .second, .val (.long q3), .second, .val (.int p4), .val (.int (1 : Int32)), .val (.ref b11), .val (.long (own_r1c1 q0 q1)), .second, .val (.long (own_r3 (own_r2 q0) q1)), .second, .val (.int (own_f0c1_j157_S0 q1))] []) _
        refine own_step (fun t k => XS.iconst X15.here hx rfl (hb hby at_180) k) ?_
        show own_Run p e below T15 (mkF m 181 #[.val (.long q0), .second, .val (.long q1), .second, .val (.long q2), .second, .val (.long q3), .second, .val (.int p4), .val (.int (1 : Int32)), .val (.ref b11), .val (.long (own_r1c1 q0 q1)), .second, .val (.long (own_r3 (own_r2 q0) q1)), .second, .val (.int (own_f0c1_j157_S0 q1))] [(.int (1 : Int32))]) _
        refine own_step (fun t k => XS.goto X15.here hx rfl (pc0 := 181) (pc' := 185) rfl (hb hby at_181) (by decide) (by decide) k) ?_
        show own_Run p e below T15 (mkF m 185 #[.val (.long q0), .second, .val (.long q1), .second, .val (.long q2), .second, .val (.long q3), .second, .val (.int p4), .val (.int (1 : Int32)), .val (.ref b11), .val (.long (own_r1c1 q0 q1)), .second, .val (.long (own_r3 (own_r2 q0) q1)), .second, .val (.int (own_f0c1_j157_S0 q1))] [(.int (1 : Int32))]) _
        have hj0 : (own_f0c1_j185_S0 q0 q1) = (1 : Int32) := ((if_pos hc19).trans (if_neg hc20))
        exact own_here (by rw [hj0])
    · refine own_step (fun t k => XS.ifYes X15.here hx rfl (pc0 := 164) (pc' := 184) rfl (hb hby at_164) rfl ((if0 _ _).trans (feq hc19).2) (by decide) (by decide) k) ?_
      show own_Run p e below T15 (mkF m 184 #[.val (.long q0), .second, .val (.long q1), .second, .val (.long q2), .second, .val (.long q3), .second, .val (.int p4), .val (.int (1 : Int32)), .val (.ref b11), .val (.long (own_r1c1 q0 q1)), .second, .val (.long (own_r3 (own_r2 q0) q1)), .second, .val (.int (own_f0c1_j157_S0 q1))] []) _
      refine own_step (fun t k => XS.iconst X15.here hx rfl (hb hby at_184) k) ?_
      show own_Run p e below T15 (mkF m 185 #[.val (.long q0), .second, .val (.long q1), .second, .val (.long q2), .second, .val (.long q3), .second, .val (.int p4), .val (.int (1 : Int32)), .val (.ref b11), .val (.long (own_r1c1 q0 q1)), .second, .val (.long (own_r3 (own_r2 q0) q1)), .second, .val (.int (own_f0c1_j157_S0 q1))] [(.int (0 : Int32))]) _
      have hj0 : (own_f0c1_j185_S0 q0 q1) = (0 : Int32) := (if_neg hc19)
      exact own_here (by rw [hj0])
  refine own_tr st18 ?_
  show own_Run p e below T15 (mkF m 185 #[.val (.long q0), .second, .val (.long q1), .second, .val (.long q2), .second, .val (.long q3), .second, .val (.int p4), .val (.int (1 : Int32)), .val (.ref b11), .val (.long (own_r1c1 q0 q1)), .second, .val (.long (own_r3 (own_r2 q0) q1)), .second, .val (.int (own_f0c1_j157_S0 q1))] [(.int (own_f0c1_j185_S0 q0 q1))]) _
  exact own_retZ X15 hx hlk hret (hb hby at_185) (by decide) (by decide) N15 trivial
def own_f0c2_88 (q0 : Int64) (q1 : Int64) (q2 : Int64) : Int64 := (own_r3 (own_r3 (own_r2 q0) q1) q2)
def own_f0c2_j157_S0 (q1 : Int64) (q2 : Int64) : Int32 := (if (lcmpW q1 q1) = (0 : Int32) then (if (lcmpW q2 q2) = (0 : Int32) then (1 : Int32) else (0 : Int32)) else (0 : Int32))
def own_f0c2_157 (q1 : Int64) (q2 : Int64) : Int32 := (own_f0c2_j157_S0 q1 q2)
def own_f0c2_j185_S0 (q0 : Int64) (q1 : Int64) (q2 : Int64) : Int32 := (if (lcmpW (own_r1c2 q0 q1 q2) (own_f0c2_88 q0 q1 q2)) = (0 : Int32) then (if (own_f0c2_157 q1 q2) = (0 : Int32) then (0 : Int32) else (1 : Int32)) else (0 : Int32))
def own_r0c2 (q0 : Int64) (q1 : Int64) (q2 : Int64) (q3 : Int64) (p4 : Int32) : Int32 := (nar .boolean (own_f0c2_j185_S0 q0 q1 q2))
theorem own_ef0c2 (m : MethodId) (q0 : Int64) (q1 : Int64) (q2 : Int64) (q3 : Int64) (p4 : Int32) : entryFrame m #[(.long q0), (.long q1), (.long q2), (.long q3), (.int p4)] maxLocals = (mkF m 0 #[.val (.long q0), .second, .val (.long q1), .second, .val (.long q2), .second, .val (.long q3), .second, .val (.int p4), .unset, .unset, .unset, .unset, .unset, .unset, .unset] []) := by first | (simp [entryFrame, mkF, argsToLocals, Value.category, maxLocals]; done) | rfl
set_option maxRecDepth 65536 in
set_option maxHeartbeats 40000000 in
theorem rm0c2 (l : Launch) (Z : State) (av0 : Array Value) (hw : ∀ d ∈ tables_1, d.before av0 Z = true) (ws : List Jvm.Cond) (q0 : Int64) (q1 : Int64) (q2 : Int64) (q3 : Int64) (p4 : Int32) (h0 : Heap) (n0 : Nat) (Z0 : n0 ≤ h0.size) (hn : (p4 &&& (3 : Int32)) = (2 : Int32)) :
    MetFree l x (head1 (Jvm.Cond.code x code maxLocals ret :: ws) room_1) (fun a U => a = #[(.long q0), (.long q1), (.long q2), (.long q3), (.int p4)] ∧ Z.Warmed39 U.vm ∧ U.heap = h0) (fun _ _ _ _ _ => True) (fun _ U o U' => ∃ v L, o = .returned v ∧ own_Q n0 (fun _ => True) (some (.int (own_r0c2 q0 q1 q2 q3 p4))) v U'.heap L ∧ FrameEnd U o U' L room_1.cells room_1.slots) := by
  refine MetFree.of_bodySF (plainFor_of_name own_pn1) hisR ?_
  intro p e s m args below meth c s₁ Bd hml0 hP hK
  obtain ⟨rfl, hZ, hh⟩ := hP
  have hx := Bd.exec
  have hby := Bd.bytes
  have hml : c.maxLocals = 16 := hml0
  have hown : s.vm.findClass "com/example/surefoot/surefoot/SplitMixDerivePinLaw" = some m.cls := findClass_of_methodNamed Bd.named
  have hnm := (name_of_methodNamed Bd.named Bd.method).1
  have hret := Bd.returns
  have hlk : meth.locks = false := BodyLoose.notSynchronized Bd
  have X0 : Stand p l e room_1 s m #[(.long q0), (.long q1), (.long q2), (.long q3), (.int p4)] below meth c s₁ [] 0 0 := Stand.of_body Bd
  have e0 : s₁.heap = h0 := by rw [← hh, Bd.state]; rfl
  have N0 := Fr.nil n0
  clear Bd hh hK
  refine own_fin ?_
  refine own_entry (own_ef0c2 m q0 q1 q2 q3 p4) ?_
  show own_Run p e below s₁ _ (own_Ret _ s below _ _ (own_Q n0 _ (some (.int (nar .boolean (own_f0c2_j185_S0 q0 q1 q2))))))
  show own_Run p e below s₁ (mkF m 0 #[.val (.long q0), .second, .val (.long q1), .second, .val (.long q2), .second, .val (.long q3), .second, .val (.int p4), .unset, .unset, .unset, .unset, .unset, .unset, .unset] []) _
  refine own_step (fun t k => XS.iload X0.here hx rfl (hb hby at_0) rfl  k) ?_
  show own_Run p e below s₁ (mkF m 2 #[.val (.long q0), .second, .val (.long q1), .second, .val (.long q2), .second, .val (.long q3), .second, .val (.int p4), .unset, .unset, .unset, .unset, .unset, .unset, .unset] [(.int p4)]) _
  refine own_step (fun t k => XS.iconst X0.here hx rfl (hb hby at_2) k) ?_
  show own_Run p e below s₁ (mkF m 3 #[.val (.long q0), .second, .val (.long q1), .second, .val (.long q2), .second, .val (.long q3), .second, .val (.int p4), .unset, .unset, .unset, .unset, .unset, .unset, .unset] [(.int (3 : Int32)), (.int p4)]) _
  refine own_step (fun t k => XS.iand X0.here hx rfl (hb hby at_3) rfl k) ?_
  show own_Run p e below s₁ (mkF m 4 #[.val (.long q0), .second, .val (.long q1), .second, .val (.long q2), .second, .val (.long q3), .second, .val (.int p4), .unset, .unset, .unset, .unset, .unset, .unset, .unset] [(.int (p4 &&& (3 : Int32)))]) _
  rw [hn]
  show own_Run p e below s₁ (mkF m 4 #[.val (.long q0), .second, .val (.long q1), .second, .val (.long q2), .second, .val (.long q3), .second, .val (.int p4), .unset, .unset, .unset, .unset, .unset, .unset, .unset] [(.int (2 : Int32))]) _
  refine own_step (fun t k => XS.istore X0.here hx rfl (hb hby at_4) rfl (l' := #[.val (.long q0), .second, .val (.long q1), .second, .val (.long q2), .second, .val (.long q3), .second, .val (.int p4), .val (.int (2 : Int32)), .unset, .unset, .unset, .unset, .unset, .unset]) rfl k) ?_
  show own_Run p e below s₁ (mkF m 6 #[.val (.long q0), .second, .val (.long q1), .second, .val (.long q2), .second, .val (.long q3), .second, .val (.int p4), .val (.int (2 : Int32)), .unset, .unset, .unset, .unset, .unset, .unset] []) _
  refine own_step (fun t k => XS.iload X0.here hx rfl (hb hby at_6) rfl  k) ?_
  show own_Run p e below s₁ (mkF m 8 #[.val (.long q0), .second, .val (.long q1), .second, .val (.long q2), .second, .val (.long q3), .second, .val (.int p4), .val (.int (2 : Int32)), .unset, .unset, .unset, .unset, .unset, .unset] [(.int (2 : Int32))]) _
  obtain ⟨T14, h14, k14, X14, e14, E14, A14, st14⟩ := newP X0 hx hZ (hw _ (List.mem_of_getElem? (i := 0) rfl)) e0 (g := (mkF m 8 #[.val (.long q0), .second, .val (.long q1), .second, .val (.long q2), .second, .val (.long q3), .second, .val (.int p4), .val (.int (2 : Int32)), .unset, .unset, .unset, .unset, .unset, .unset] [(.int (2 : Int32))])) rfl (hb hby at_8) rfl (by decide) (cap := 2) (by decide) (by decide) (by decide) (by decide)
  obtain ⟨b14, g14⟩ : ∃ z, z = h0.size := ⟨_, rfl⟩
  rw [← g14] at A14 st14
  have geb14 : n0 ≤ b14 := Nat.le_trans Z0 (Nat.le_of_eq g14.symm)
  have Zn14 : n0 ≤ h14.size := Nat.le_trans Z0 E14.1
  have V14 : Arv Z h14 b14 k14 .long (2 : Int32) [(.long (0 : Int64)), (.long (0 : Int64))] (.long (0 : Int64)) := (Arv.new A14 (by decide)).pad (pad_rep [] (.long (0 : Int64)) 2)
  refine own_step st14 ?_
  show own_Run p e below T14 (mkF m 10 #[.val (.long q0), .second, .val (.long q1), .second, .val (.long q2), .second, .val (.long q3), .second, .val (.int p4), .val (.int (2 : Int32)), .unset, .unset, .unset, .unset, .unset, .unset] [(.ref b14)]) _
  refine own_step (fun t k => XS.astore X14.here hx rfl (hb hby at_10) rfl rfl (l' := #[.val (.long q0), .second, .val (.long q1), .second, .val (.long q2), .second, .val (.long q3), .second, .val (.int p4), .val (.int (2 : Int32)), .val (.ref b14), .unset, .unset, .unset, .unset, .unset]) rfl k) ?_
  show own_Run p e below T14 (mkF m 12 #[.val (.long q0), .second, .val (.long q1), .second, .val (.long q2), .second, .val (.long q3), .second, .val (.int p4), .val (.int (2 : Int32)), .val (.ref b14), .unset, .unset, .unset, .unset, .unset] []) _
  refine own_step (fun t k => XS.iload X14.here hx rfl (hb hby at_12) rfl  k) ?_
  show own_Run p e below T14 (mkF m 14 #[.val (.long q0), .second, .val (.long q1), .second, .val (.long q2), .second, .val (.long q3), .second, .val (.int p4), .val (.int (2 : Int32)), .val (.ref b14), .unset, .unset, .unset, .unset, .unset] [(.int (2 : Int32))]) _
  refine own_step (fun t k => XS.iconst X14.here hx rfl (hb hby at_14) k) ?_
  show own_Run p e below T14 (mkF m 15 #[.val (.long q0), .second, .val (.long q1), .second, .val (.long q2), .second, .val (.long q3), .second, .val (.int p4), .val (.int (2 : Int32)), .val (.ref b14), .unset, .unset, .unset, .unset, .unset] [(.int (1 : Int32)), (.int (2 : Int32))]) _
  refine own_step (fun t k => XS.icmpNo X14.here hx rfl (hb hby at_15) rfl (flt (by decide : ¬ ((2 : Int32) < (1 : Int32)))).1 k) ?_
  show own_Run p e below T14 (mkF m 18 #[.val (.long q0), .second, .val (.long q1), .second, .val (.long q2), .second, .val (.long q3), .second, .val (.int p4), .val (.int (2 : Int32)), .val (.ref b14), .unset, .unset, .unset, .unset, .unset] []) _
  refine own_step (fun t k => XS.aload X14.here hx rfl (hb hby at_18) rfl rfl k) ?_
  show own_Run p e below T14 (mkF m 20 #[.val (.long q0), .second, .val (.long q1), .second, .val (.long q2), .second, .val (.long q3), .second, .val (.int p4), .val (.int (2 : Int32)), .val (.ref b14), .unset, .unset, .unset, .unset, .unset] [(.ref b14)]) _
  refine own_step (fun t k => XS.iconst X14.here hx rfl (hb hby at_20) k) ?_
  show own_Run p e below T14 (mkF m 21 #[.val (.long q0), .second, .val (.long q1), .second, .val (.long q2), .second, .val (.long q3), .second, .val (.int p4), .val (.int (2 : Int32)), .val (.ref b14), .unset, .unset, .unset, .unset, .unset] [(.int (0 : Int32)), (.ref b14)]) _
  refine own_step (fun t k => XS.lloadN X14.here hx rfl (hb hby at_21) rfl  k) ?_
  show own_Run p e below T14 (mkF m 22 #[.val (.long q0), .second, .val (.long q1), .second, .val (.long q2), .second, .val (.long q3), .second, .val (.int p4), .val (.int (2 : Int32)), .val (.ref b14), .unset, .unset, .unset, .unset, .unset] [(.long q1), (.int (0 : Int32)), (.ref b14)]) _
  obtain ⟨T15, h15, L15, X15, e15, N15, W15, V15, st15⟩ := own_stJ X14 hx hZ e14 V14 N0 geb14 (j := (0 : Int32)) ⟨by decide, by decide⟩ 0 rfl (Nat.le_of_ble_eq_true rfl) (g := (mkF m 22 #[.val (.long q0), .second, .val (.long q1), .second, .val (.long q2), .second, .val (.long q3), .second, .val (.int p4), .val (.int (2 : Int32)), .val (.ref b14), .unset, .unset, .unset, .unset, .unset] [(.long q1), (.int (0 : Int32)), (.ref b14)])) rfl rfl (hb hby at_22)
  have V15x : Arv Z h15 b14 k14 .long (2 : Int32) [(.long q1), (.long (0 : Int64))] (.long (0 : Int64)) := V15
  have Zn15 : n0 ≤ h15.size := Nat.le_trans Zn14 (Keep.of_wr W15).1
  refine own_step st15 ?_
  show own_Run p e below T15 (mkF m 23 #[.val (.long q0), .second, .val (.long q1), .second, .val (.long q2), .second, .val (.long q3), .second, .val (.int p4), .val (.int (2 : Int32)), .val (.ref b14), .unset, .unset, .unset, .unset, .unset] []) _
  refine own_step (fun t k => XS.iload X15.here hx rfl (hb hby at_23) rfl  k) ?_
  show own_Run p e below T15 (mkF m 25 #[.val (.long q0), .second, .val (.long q1), .second, .val (.long q2), .second, .val (.long q3), .second, .val (.int p4), .val (.int (2 : Int32)), .val (.ref b14), .unset, .unset, .unset, .unset, .unset] [(.int (2 : Int32))]) _
  refine own_step (fun t k => XS.iconst X15.here hx rfl (hb hby at_25) k) ?_
  show own_Run p e below T15 (mkF m 26 #[.val (.long q0), .second, .val (.long q1), .second, .val (.long q2), .second, .val (.long q3), .second, .val (.int p4), .val (.int (2 : Int32)), .val (.ref b14), .unset, .unset, .unset, .unset, .unset] [(.int (2 : Int32)), (.int (2 : Int32))]) _
  refine own_step (fun t k => XS.icmpNo X15.here hx rfl (hb hby at_26) rfl (flt (by decide : ¬ ((2 : Int32) < (2 : Int32)))).1 k) ?_
  show own_Run p e below T15 (mkF m 29 #[.val (.long q0), .second, .val (.long q1), .second, .val (.long q2), .second, .val (.long q3), .second, .val (.int p4), .val (.int (2 : Int32)), .val (.ref b14), .unset, .unset, .unset, .unset, .unset] []) _
  refine own_step (fun t k => XS.aload X15.here hx rfl (hb hby at_29) rfl rfl k) ?_
  show own_Run p e below T15 (mkF m 31 #[.val (.long q0), .second, .val (.long q1), .second, .val (.long q2), .second, .val (.long q3), .second, .val (.int p4), .val (.int (2 : Int32)), .val (.ref b14), .unset, .unset, .unset, .unset, .unset] [(.ref b14)]) _
  refine own_step (fun t k => XS.iconst X15.here hx rfl (hb hby at_31) k) ?_
  show own_Run p e below T15 (mkF m 32 #[.val (.long q0), .second, .val (.long q1), .second, .val (.long q2), .second, .val (.long q3), .second, .val (.int p4), .val (.int (2 : Int32)), .val (.ref b14), .unset, .unset, .unset, .unset, .unset] [(.int (1 : Int32)), (.ref b14)]) _
  refine own_step (fun t k => XS.lload X15.here hx rfl (hb hby at_32) rfl  k) ?_
  show own_Run p e below T15 (mkF m 34 #[.val (.long q0), .second, .val (.long q1), .second, .val (.long q2), .second, .val (.long q3), .second, .val (.int p4), .val (.int (2 : Int32)), .val (.ref b14), .unset, .unset, .unset, .unset, .unset] [(.long q2), (.int (1 : Int32)), (.ref b14)]) _
  obtain ⟨T16, h16, L16, X16, e16, N16, W16, V16, st16⟩ := own_stJ X15 hx hZ e15 V15x N15 geb14 (j := (1 : Int32)) ⟨by decide, by decide⟩ 1 rfl (Nat.le_of_ble_eq_true rfl) (g := (mkF m 34 #[.val (.long q0), .second, .val (.long q1), .second, .val (.long q2), .second, .val (.long q3), .second, .val (.int p4), .val (.int (2 : Int32)), .val (.ref b14), .unset, .unset, .unset, .unset, .unset] [(.long q2), (.int (1 : Int32)), (.ref b14)])) rfl rfl (hb hby at_34)
  have V16x : Arv Z h16 b14 k14 .long (2 : Int32) [(.long q1), (.long q2)] (.long (0 : Int64)) := V16
  have Zn16 : n0 ≤ h16.size := Nat.le_trans Zn15 (Keep.of_wr W16).1
  refine own_step st16 ?_
  show own_Run p e below T16 (mkF m 35 #[.val (.long q0), .second, .val (.long q1), .second, .val (.long q2), .second, .val (.long q3), .second, .val (.int p4), .val (.int (2 : Int32)), .val (.ref b14), .unset, .unset, .unset, .unset, .unset] []) _
  refine own_step (fun t k => XS.iload X16.here hx rfl (hb hby at_35) rfl  k) ?_
  show own_Run p e below T16 (mkF m 37 #[.val (.long q0), .second, .val (.long q1), .second, .val (.long q2), .second, .val (.long q3), .second, .val (.int p4), .val (.int (2 : Int32)), .val (.ref b14), .unset, .unset, .unset, .unset, .unset] [(.int (2 : Int32))]) _
  refine own_step (fun t k => XS.iconst X16.here hx rfl (hb hby at_37) k) ?_
  show own_Run p e below T16 (mkF m 38 #[.val (.long q0), .second, .val (.long q1), .second, .val (.long q2), .second, .val (.long q3), .second, .val (.int p4), .val (.int (2 : Int32)), .val (.ref b14), .unset, .unset, .unset, .unset, .unset] [(.int (3 : Int32)), (.int (2 : Int32))]) _
  refine own_step (fun t k => XS.icmpYes X16.here hx rfl (pc0 := 38) (pc' := 47) rfl (hb hby at_38) rfl (tlt (by decide : (2 : Int32) < (3 : Int32))).1 (by decide) (by decide) k) ?_
  show own_Run p e below T16 (mkF m 47 #[.val (.long q0), .second, .val (.long q1), .second, .val (.long q2), .second, .val (.long q3), .second, .val (.int p4), .val (.int (2 : Int32)), .val (.ref b14), .unset, .unset, .unset, .unset, .unset] []) _
  refine own_step (fun t k => XS.lloadN X16.here hx rfl (hb hby at_47) rfl  k) ?_
  show own_Run p e below T16 (mkF m 48 #[.val (.long q0), .second, .val (.long q1), .second, .val (.long q2), .second, .val (.long q3), .second, .val (.int p4), .val (.int (2 : Int32)), .val (.ref b14), .unset, .unset, .unset, .unset, .unset] [(.long q0)]) _
  refine own_step (fun t k => XS.aload X16.here hx rfl (hb hby at_48) rfl rfl k) ?_
  show own_Run p e below T16 (mkF m 50 #[.val (.long q0), .second, .val (.long q1), .second, .val (.long q2), .second, .val (.long q3), .second, .val (.int p4), .val (.int (2 : Int32)), .val (.ref b14), .unset, .unset, .unset, .unset, .unset] [(.ref b14), (.long q0)]) _
  obtain ⟨_, _, ⟨T17, L17, kq17, nq17⟩, -, X17, ⟨Lc17, hQ17, lq17, yq17, zq17⟩, st17⟩ := Jvm.LawKit.callS X16 hx (y := (⟨"com/example/surefoot/surefoot/SplitMix", "derive", "(J[J)J"⟩ : MethodName)) hown (mvT hZ (hw _ (List.mem_of_getElem? (i := 1) rfl))) (mvT hZ (hw _ (List.mem_of_getElem? (i := 2) rfl))) (mvT hZ (hw _ (List.mem_of_getElem? (i := 3) rfl))) (mvT hZ (hw _ (List.mem_of_getElem? (i := 4) rfl))) (by decide) (backOf (W := 0) (rm1c2 l Z av0 hw [] q0 b14 k14 q1 q2 h16 n0 Zn16 V16x) hZ (hw _ (List.mem_of_getElem? (i := 4) rfl)) (hw _ (List.mem_of_getElem? (i := 3) rfl)) (by decide) (by decide)) (g := (mkF m 50 #[.val (.long q0), .second, .val (.long q1), .second, .val (.long q2), .second, .val (.long q3), .second, .val (.int p4), .val (.int (2 : Int32)), .val (.ref b14), .unset, .unset, .unset, .unset, .unset] [(.ref b14), (.long q0)])) rfl (by rw [hml]; rfl) (argsL := [(.long q0), (.ref b14)]) (rest := []) (lenOf own_pd66 rfl) rfl (by show 2 * 0 + _ ≤ _; exact Nat.le_of_eq rfl) (hb hby at_50) (fun _ _ => ⟨rfl, e16, (by decide : 1 + 0 ≤ _), (by decide : 2 + 0 ≤ _)⟩)
  dsimp only [Pt.U, Pt.locs, Pt.cells, Pt.slots] at X17 lq17 yq17 zq17 st17 hQ17
  subst lq17 yq17 zq17
  obtain ⟨rfl, N17q, e17⟩ := hQ17
  have N17 := Fr.app N16 N17q
  refine own_step st17 ?_
  show own_Run p e below T17 (mkF m 53 #[.val (.long q0), .second, .val (.long q1), .second, .val (.long q2), .second, .val (.long q3), .second, .val (.int p4), .val (.int (2 : Int32)), .val (.ref b14), .unset, .unset, .unset, .unset, .unset] [(.long (own_r1c2 q0 q1 q2))]) _
  refine own_step (fun t k => XS.lstore X17.here hx rfl (hb hby at_53) rfl (l' := #[.val (.long q0), .second, .val (.long q1), .second, .val (.long q2), .second, .val (.long q3), .second, .val (.int p4), .val (.int (2 : Int32)), .val (.ref b14), .val (.long (own_r1c2 q0 q1 q2)), .second, .unset, .unset, .unset]) rfl k) ?_
  show own_Run p e below T17 (mkF m 55 #[.val (.long q0), .second, .val (.long q1), .second, .val (.long q2), .second, .val (.long q3), .second, .val (.int p4), .val (.int (2 : Int32)), .val (.ref b14), .val (.long (own_r1c2 q0 q1 q2)), .second, .unset, .unset, .unset] []) _
  refine own_step (fun t k => XS.lloadN X17.here hx rfl (hb hby at_55) rfl  k) ?_
  show own_Run p e below T17 (mkF m 56 #[.val (.long q0), .second, .val (.long q1), .second, .val (.long q2), .second, .val (.long q3), .second, .val (.int p4), .val (.int (2 : Int32)), .val (.ref b14), .val (.long (own_r1c2 q0 q1 q2)), .second, .unset, .unset, .unset] [(.long q0)]) _
  obtain ⟨_, _, ⟨T18, L18, kq18, nq18⟩, -, X18, ⟨Lc18, hQ18, lq18, yq18, zq18⟩, st18⟩ := Jvm.LawKit.callS X17 hx (y := (⟨"com/example/surefoot/surefoot/SplitMix", "mix", "(J)J"⟩ : MethodName)) hown (mvT hZ (hw _ (List.mem_of_getElem? (i := 11) rfl))) (mvT hZ (hw _ (List.mem_of_getElem? (i := 6) rfl))) (mvT hZ (hw _ (List.mem_of_getElem? (i := 3) rfl))) (mvT hZ (hw _ (List.mem_of_getElem? (i := 7) rfl))) (by decide) (backOf (W := 0) (rm2 l Z av0 hw [] q0 h16 n0 Zn16 ) hZ (hw _ (List.mem_of_getElem? (i := 7) rfl)) (hw _ (List.mem_of_getElem? (i := 3) rfl)) (by decide) (by decide)) (g := (mkF m 56 #[.val (.long q0), .second, .val (.long q1), .second, .val (.long q2), .second, .val (.long q3), .second, .val (.int p4), .val (.int (2 : Int32)), .val (.ref b14), .val (.long (own_r1c2 q0 q1 q2)), .second, .unset, .unset, .unset] [(.long q0)])) rfl (by rw [hml]; rfl) (argsL := [(.long q0)]) (rest := []) (lenOf own_pd24 rfl) rfl (by show 2 * 0 + _ ≤ _; exact Nat.le_of_eq rfl) (hb hby at_56) (fun _ _ => ⟨rfl, e17, (by decide : 1 + 0 ≤ _), (by decide : 2 + 0 ≤ _)⟩)
  dsimp only [Pt.U, Pt.locs, Pt.cells, Pt.slots] at X18 lq18 yq18 zq18 st18 hQ18
  subst lq18 yq18 zq18
  obtain ⟨rfl, N18q, e18⟩ := hQ18
  have N18 := Fr.app N17 N18q
  refine own_step st18 ?_
  show own_Run p e below T18 (mkF m 59 #[.val (.long q0), .second, .val (.long q1), .second, .val (.long q2), .second, .val (.long q3), .second, .val (.int p4), .val (.int (2 : Int32)), .val (.ref b14), .val (.long (own_r1c2 q0 q1 q2)), .second, .unset, .unset, .unset] [(.long (own_r2 q0))]) _
  refine own_step (fun t k => XS.lstore X18.here hx rfl (hb hby at_59) rfl (l' := #[.val (.long q0), .second, .val (.long q1), .second, .val (.long q2), .second, .val (.long q3), .second, .val (.int p4), .val (.int (2 : Int32)), .val (.ref b14), .val (.long (own_r1c2 q0 q1 q2)), .second, .val (.long (own_r2 q0)), .second, .unset]) rfl k) ?_
  show own_Run p e below T18 (mkF m 61 #[.val (.long q0), .second, .val (.long q1), .second, .val (.long q2), .second, .val (.long q3), .second, .val (.int p4), .val (.int (2 : Int32)), .val (.ref b14), .val (.long (own_r1c2 q0 q1 q2)), .second, .val (.long (own_r2 q0)), .second, .unset] []) _
  refine own_step (fun t k => XS.iload X18.here hx rfl (hb hby at_61) rfl  k) ?_
  show own_Run p e below T18 (mkF m 63 #[.val (.long q0), .second, .val (.long q1), .second, .val (.long q2), .second, .val (.long q3), .second, .val (.int p4), .val (.int (2 : Int32)), .val (.ref b14), .val (.long (own_r1c2 q0 q1 q2)), .second, .val (.long (own_r2 q0)), .second, .unset] [(.int (2 : Int32))]) _
  refine own_step (fun t k => XS.iconst X18.here hx rfl (hb hby at_63) k) ?_
  show own_Run p e below T18 (mkF m 64 #[.val (.long q0), .second, .val (.long q1), .second, .val (.long q2), .second, .val (.long q3), .second, .val (.int p4), .val (.int (2 : Int32)), .val (.ref b14), .val (.long (own_r1c2 q0 q1 q2)), .second, .val (.long (own_r2 q0)), .second, .unset] [(.int (1 : Int32)), (.int (2 : Int32))]) _
  refine own_step (fun t k => XS.icmpNo X18.here hx rfl (hb hby at_64) rfl (flt (by decide : ¬ ((2 : Int32) < (1 : Int32)))).1 k) ?_
  show own_Run p e below T18 (mkF m 67 #[.val (.long q0), .second, .val (.long q1), .second, .val (.long q2), .second, .val (.long q3), .second, .val (.int p4), .val (.int (2 : Int32)), .val (.ref b14), .val (.long (own_r1c2 q0 q1 q2)), .second, .val (.long (own_r2 q0)), .second, .unset] []) _
  refine own_step (fun t k => XS.lload X18.here hx rfl (hb hby at_67) rfl  k) ?_
  show own_Run p e below T18 (mkF m 69 #[.val (.long q0), .second, .val (.long q1), .second, .val (.long q2), .second, .val (.long q3), .second, .val (.int p4), .val (.int (2 : Int32)), .val (.ref b14), .val (.long (own_r1c2 q0 q1 q2)), .second, .val (.long (own_r2 q0)), .second, .unset] [(.long (own_r2 q0))]) _
  refine own_step (fun t k => XS.lloadN X18.here hx rfl (hb hby at_69) rfl  k) ?_
  show own_Run p e below T18 (mkF m 70 #[.val (.long q0), .second, .val (.long q1), .second, .val (.long q2), .second, .val (.long q3), .second, .val (.int p4), .val (.int (2 : Int32)), .val (.ref b14), .val (.long (own_r1c2 q0 q1 q2)), .second, .val (.long (own_r2 q0)), .second, .unset] [(.long q1), (.long (own_r2 q0))]) _
  obtain ⟨_, _, ⟨T19, L19, kq19, nq19⟩, -, X19, ⟨Lc19, hQ19, lq19, yq19, zq19⟩, st19⟩ := Jvm.LawKit.callS X18 hx (y := (⟨"com/example/surefoot/surefoot/SplitMixDerivePinLaw", "step", "(JJ)J"⟩ : MethodName)) hown (mvT hZ (hw _ (List.mem_of_getElem? (i := 12) rfl))) (mvT hZ (hw _ (List.mem_of_getElem? (i := 13) rfl))) (mvT hZ (hw _ (List.mem_of_getElem? (i := 14) rfl))) (mvT hZ (hw _ (List.mem_of_getElem? (i := 15) rfl))) (by decide) (backOf (W := 0) (rm3 l Z av0 hw [] (own_r2 q0) q1 h16 n0 Zn16 ) hZ (hw _ (List.mem_of_getElem? (i := 15) rfl)) (hw _ (List.mem_of_getElem? (i := 14) rfl)) (by decide) (by decide)) (g := (mkF m 70 #[.val (.long q0), .second, .val (.long q1), .second, .val (.long q2), .second, .val (.long q3), .second, .val (.int p4), .val (.int (2 : Int32)), .val (.ref b14), .val (.long (own_r1c2 q0 q1 q2)), .second, .val (.long (own_r2 q0)), .second, .unset] [(.long q1), (.long (own_r2 q0))])) rfl (by rw [hml]; rfl) (argsL := [(.long (own_r2 q0)), (.long q1)]) (rest := []) (lenOf own_pd67 rfl) rfl (by show 2 * 0 + _ ≤ _; exact Nat.le_of_eq rfl) (hb hby at_70) (fun _ _ => ⟨rfl, e18, (by decide : 1 + 0 ≤ _), (by decide : 2 + 0 ≤ _)⟩)
  dsimp only [Pt.U, Pt.locs, Pt.cells, Pt.slots] at X19 lq19 yq19 zq19 st19 hQ19
  subst lq19 yq19 zq19
  obtain ⟨rfl, N19q, e19⟩ := hQ19
  have N19 := Fr.app N18 N19q
  refine own_step st19 ?_
  show own_Run p e below T19 (mkF m 73 #[.val (.long q0), .second, .val (.long q1), .second, .val (.long q2), .second, .val (.long q3), .second, .val (.int p4), .val (.int (2 : Int32)), .val (.ref b14), .val (.long (own_r1c2 q0 q1 q2)), .second, .val (.long (own_r2 q0)), .second, .unset] [(.long (own_r3 (own_r2 q0) q1))]) _
  refine own_step (fun t k => XS.lstore X19.here hx rfl (hb hby at_73) rfl (l' := #[.val (.long q0), .second, .val (.long q1), .second, .val (.long q2), .second, .val (.long q3), .second, .val (.int p4), .val (.int (2 : Int32)), .val (.ref b14), .val (.long (own_r1c2 q0 q1 q2)), .second, .val (.long (own_r3 (own_r2 q0) q1)), .second, .unset]) rfl k) ?_
  show own_Run p e below T19 (mkF m 75 #[.val (.long q0), .second, .val (.long q1), .second, .val (.long q2), .second, .val (.long q3), .second, .val (.int p4), .val (.int (2 : Int32)), .val (.ref b14), .val (.long (own_r1c2 q0 q1 q2)), .second, .val (.long (own_r3 (own_r2 q0) q1)), .second, .unset] []) _
  refine own_step (fun t k => XS.iload X19.here hx rfl (hb hby at_75) rfl  k) ?_
  show own_Run p e below T19 (mkF m 77 #[.val (.long q0), .second, .val (.long q1), .second, .val (.long q2), .second, .val (.long q3), .second, .val (.int p4), .val (.int (2 : Int32)), .val (.ref b14), .val (.long (own_r1c2 q0 q1 q2)), .second, .val (.long (own_r3 (own_r2 q0) q1)), .second, .unset] [(.int (2 : Int32))]) _
  refine own_step (fun t k => XS.iconst X19.here hx rfl (hb hby at_77) k) ?_
  show own_Run p e below T19 (mkF m 78 #[.val (.long q0), .second, .val (.long q1), .second, .val (.long q2), .second, .val (.long q3), .second, .val (.int p4), .val (.int (2 : Int32)), .val (.ref b14), .val (.long (own_r1c2 q0 q1 q2)), .second, .val (.long (own_r3 (own_r2 q0) q1)), .second, .unset] [(.int (2 : Int32)), (.int (2 : Int32))]) _
  refine own_step (fun t k => XS.icmpNo X19.here hx rfl (hb hby at_78) rfl (flt (by decide : ¬ ((2 : Int32) < (2 : Int32)))).1 k) ?_
  show own_Run p e below T19 (mkF m 81 #[.val (.long q0), .second, .val (.long q1), .second, .val (.long q2), .second, .val (.long q3), .second, .val (.int p4), .val (.int (2 : Int32)), .val (.ref b14), .val (.long (own_r1c2 q0 q1 q2)), .second, .val (.long (own_r3 (own_r2 q0) q1)), .second, .unset] []) _
  refine own_step (fun t k => XS.lload X19.here hx rfl (hb hby at_81) rfl  k) ?_
  show own_Run p e below T19 (mkF m 83 #[.val (.long q0), .second, .val (.long q1), .second, .val (.long q2), .second, .val (.long q3), .second, .val (.int p4), .val (.int (2 : Int32)), .val (.ref b14), .val (.long (own_r1c2 q0 q1 q2)), .second, .val (.long (own_r3 (own_r2 q0) q1)), .second, .unset] [(.long (own_r3 (own_r2 q0) q1))]) _
  refine own_step (fun t k => XS.lload X19.here hx rfl (hb hby at_83) rfl  k) ?_
  show own_Run p e below T19 (mkF m 85 #[.val (.long q0), .second, .val (.long q1), .second, .val (.long q2), .second, .val (.long q3), .second, .val (.int p4), .val (.int (2 : Int32)), .val (.ref b14), .val (.long (own_r1c2 q0 q1 q2)), .second, .val (.long (own_r3 (own_r2 q0) q1)), .second, .unset] [(.long q2), (.long (own_r3 (own_r2 q0) q1))]) _
  obtain ⟨_, _, ⟨T20, L20, kq20, nq20⟩, -, X20, ⟨Lc20, hQ20, lq20, yq20, zq20⟩, st20⟩ := Jvm.LawKit.callS X19 hx (y := (⟨"com/example/surefoot/surefoot/SplitMixDerivePinLaw", "step", "(JJ)J"⟩ : MethodName)) hown (mvT hZ (hw _ (List.mem_of_getElem? (i := 12) rfl))) (mvT hZ (hw _ (List.mem_of_getElem? (i := 13) rfl))) (mvT hZ (hw _ (List.mem_of_getElem? (i := 14) rfl))) (mvT hZ (hw _ (List.mem_of_getElem? (i := 15) rfl))) (by decide) (backOf (W := 0) (rm3 l Z av0 hw [] (own_r3 (own_r2 q0) q1) q2 h16 n0 Zn16 ) hZ (hw _ (List.mem_of_getElem? (i := 15) rfl)) (hw _ (List.mem_of_getElem? (i := 14) rfl)) (by decide) (by decide)) (g := (mkF m 85 #[.val (.long q0), .second, .val (.long q1), .second, .val (.long q2), .second, .val (.long q3), .second, .val (.int p4), .val (.int (2 : Int32)), .val (.ref b14), .val (.long (own_r1c2 q0 q1 q2)), .second, .val (.long (own_r3 (own_r2 q0) q1)), .second, .unset] [(.long q2), (.long (own_r3 (own_r2 q0) q1))])) rfl (by rw [hml]; rfl) (argsL := [(.long (own_r3 (own_r2 q0) q1)), (.long q2)]) (rest := []) (lenOf own_pd67 rfl) rfl (by show 2 * 0 + _ ≤ _; exact Nat.le_of_eq rfl) (hb hby at_85) (fun _ _ => ⟨rfl, e19, (by decide : 1 + 0 ≤ _), (by decide : 2 + 0 ≤ _)⟩)
  dsimp only [Pt.U, Pt.locs, Pt.cells, Pt.slots] at X20 lq20 yq20 zq20 st20 hQ20
  subst lq20 yq20 zq20
  obtain ⟨rfl, N20q, e20⟩ := hQ20
  have N20 := Fr.app N19 N20q
  refine own_step st20 ?_
  show own_Run p e below T20 (mkF m 88 #[.val (.long q0), .second, .val (.long q1), .second, .val (.long q2), .second, .val (.long q3), .second, .val (.int p4), .val (.int (2 : Int32)), .val (.ref b14), .val (.long (own_r1c2 q0 q1 q2)), .second, .val (.long (own_r3 (own_r2 q0) q1)), .second, .unset] [(.long (own_r3 (own_r3 (own_r2 q0) q1) q2))]) _
  refine own_step (fun t k => XS.lstore X20.here hx rfl (hb hby at_88) rfl (l' := #[.val (.long q0), .second, .val (.long q1), .second, .val (.long q2), .second, .val (.long q3), .second, .val (.int p4), .val (.int (2 : Int32)), .val (.ref b14), .val (.long (own_r1c2 q0 q1 q2)), .second, .val (.long (own_f0c2_88 q0 q1 q2)), .second, .unset]) rfl k) ?_
  show own_Run p e below T20 (mkF m 90 #[.val (.long q0), .second, .val (.long q1), .second, .val (.long q2), .second, .val (.long q3), .second, .val (.int p4), .val (.int (2 : Int32)), .val (.ref b14), .val (.long (own_r1c2 q0 q1 q2)), .second, .val (.long (own_f0c2_88 q0 q1 q2)), .second, .unset] []) _
  refine own_step (fun t k => XS.iload X20.here hx rfl (hb hby at_90) rfl  k) ?_
  show own_Run p e below T20 (mkF m 92 #[.val (.long q0), .second, .val (.long q1), .second, .val (.long q2), .second, .val (.long q3), .second, .val (.int p4), .val (.int (2 : Int32)), .val (.ref b14), .val (.long (own_r1c2 q0 q1 q2)), .second, .val (.long (own_f0c2_88 q0 q1 q2)), .second, .unset] [(.int (2 : Int32))]) _
  refine own_step (fun t k => XS.iconst X20.here hx rfl (hb hby at_92) k) ?_
  show own_Run p e below T20 (mkF m 93 #[.val (.long q0), .second, .val (.long q1), .second, .val (.long q2), .second, .val (.long q3), .second, .val (.int p4), .val (.int (2 : Int32)), .val (.ref b14), .val (.long (own_r1c2 q0 q1 q2)), .second, .val (.long (own_f0c2_88 q0 q1 q2)), .second, .unset] [(.int (3 : Int32)), (.int (2 : Int32))]) _
  refine own_step (fun t k => XS.icmpYes X20.here hx rfl (pc0 := 93) (pc' := 105) rfl (hb hby at_93) rfl (tlt (by decide : (2 : Int32) < (3 : Int32))).1 (by decide) (by decide) k) ?_
  show own_Run p e below T20 (mkF m 105 #[.val (.long q0), .second, .val (.long q1), .second, .val (.long q2), .second, .val (.long q3), .second, .val (.int p4), .val (.int (2 : Int32)), .val (.ref b14), .val (.long (own_r1c2 q0 q1 q2)), .second, .val (.long (own_f0c2_88 q0 q1 q2)), .second, .unset] []) _
  refine own_step (fun t k => XS.iload X20.here hx rfl (hb hby at_105) rfl  k) ?_
  show own_Run p e below T20 (mkF m 107 #[.val (.long q0), .second, .val (.long q1), .second, .val (.long q2), .second, .val (.long q3), .second, .val (.int p4), .val (.int (2 : Int32)), .val (.ref b14), .val (.long (own_r1c2 q0 q1 q2)), .second, .val (.long (own_f0c2_88 q0 q1 q2)), .second, .unset] [(.int (2 : Int32))]) _
  refine own_step (fun t k => XS.iconst X20.here hx rfl (hb hby at_107) k) ?_
  show own_Run p e below T20 (mkF m 108 #[.val (.long q0), .second, .val (.long q1), .second, .val (.long q2), .second, .val (.long q3), .second, .val (.int p4), .val (.int (2 : Int32)), .val (.ref b14), .val (.long (own_r1c2 q0 q1 q2)), .second, .val (.long (own_f0c2_88 q0 q1 q2)), .second, .unset] [(.int (1 : Int32)), (.int (2 : Int32))]) _
  refine own_step (fun t k => XS.icmpNo X20.here hx rfl (hb hby at_108) rfl (flt (by decide : ¬ ((2 : Int32) < (1 : Int32)))).1 k) ?_
  show own_Run p e below T20 (mkF m 111 #[.val (.long q0), .second, .val (.long q1), .second, .val (.long q2), .second, .val (.long q3), .second, .val (.int p4), .val (.int (2 : Int32)), .val (.ref b14), .val (.long (own_r1c2 q0 q1 q2)), .second, .val (.long (own_f0c2_88 q0 q1 q2)), .second, .unset] []) _
  refine own_step (fun t k => XS.aload X20.here hx rfl (hb hby at_111) rfl rfl k) ?_
  show own_Run p e below T20 (mkF m 113 #[.val (.long q0), .second, .val (.long q1), .second, .val (.long q2), .second, .val (.long q3), .second, .val (.int p4), .val (.int (2 : Int32)), .val (.ref b14), .val (.long (own_r1c2 q0 q1 q2)), .second, .val (.long (own_f0c2_88 q0 q1 q2)), .second, .unset] [(.ref b14)]) _
  refine own_step (fun t k => XS.iconst X20.here hx rfl (hb hby at_113) k) ?_
  show own_Run p e below T20 (mkF m 114 #[.val (.long q0), .second, .val (.long q1), .second, .val (.long q2), .second, .val (.long q3), .second, .val (.int p4), .val (.int (2 : Int32)), .val (.ref b14), .val (.long (own_r1c2 q0 q1 q2)), .second, .val (.long (own_f0c2_88 q0 q1 q2)), .second, .unset] [(.int (0 : Int32)), (.ref b14)]) _
  refine own_step (own_ldJ X20 hx hZ e20 V16x (j := (0 : Int32)) (v := (.long q1)) ⟨by decide, by decide⟩ rfl (g := (mkF m 114 #[.val (.long q0), .second, .val (.long q1), .second, .val (.long q2), .second, .val (.long q3), .second, .val (.int p4), .val (.int (2 : Int32)), .val (.ref b14), .val (.long (own_r1c2 q0 q1 q2)), .second, .val (.long (own_f0c2_88 q0 q1 q2)), .second, .unset] [(.int (0 : Int32)), (.ref b14)])) rfl rfl (hb hby at_114)) ?_
  show own_Run p e below T20 (mkF m 115 #[.val (.long q0), .second, .val (.long q1), .second, .val (.long q2), .second, .val (.long q3), .second, .val (.int p4), .val (.int (2 : Int32)), .val (.ref b14), .val (.long (own_r1c2 q0 q1 q2)), .second, .val (.long (own_f0c2_88 q0 q1 q2)), .second, .unset] [(.long q1)]) _
  refine own_step (fun t k => XS.lloadN X20.here hx rfl (hb hby at_115) rfl  k) ?_
  show own_Run p e below T20 (mkF m 116 #[.val (.long q0), .second, .val (.long q1), .second, .val (.long q2), .second, .val (.long q3), .second, .val (.int p4), .val (.int (2 : Int32)), .val (.ref b14), .val (.long (own_r1c2 q0 q1 q2)), .second, .val (.long (own_f0c2_88 q0 q1 q2)), .second, .unset] [(.long q1), (.long q1)]) _
  refine own_step (fun t k => XS.lcmp X20.here hx rfl (hb hby at_116) rfl k) ?_
  show own_Run p e below T20 (mkF m 117 #[.val (.long q0), .second, .val (.long q1), .second, .val (.long q2), .second, .val (.long q3), .second, .val (.int p4), .val (.int (2 : Int32)), .val (.ref b14), .val (.long (own_r1c2 q0 q1 q2)), .second, .val (.long (own_f0c2_88 q0 q1 q2)), .second, .unset] [(.int (lcmpW q1 q1))]) _
  obtain ⟨_, st21, rfl⟩ : own_Run p e below T20 (mkF m 117 #[.val (.long q0), .second, .val (.long q1), .second, .val (.long q2), .second, .val (.long q3), .second, .val (.int p4), .val (.int (2 : Int32)), .val (.ref b14), .val (.long (own_r1c2 q0 q1 q2)), .second, .val (.long (own_f0c2_88 q0 q1 q2)), .second, .unset] [(.int (lcmpW q1 q1))]) (fun t => t = T20.setTop (mkF m 157 #[.val (.long q0), .second, .val (.long q1), .second, .val (.long q2), .second, .val (.long q3), .second, .val (.int p4), .val (.int (2 : Int32)), .val (.ref b14), .val (.long (own_r1c2 q0 q1 q2)), .second, .val (.long (own_f0c2_88 q0 q1 q2)), .second, .unset] [(.int (own_f0c2_j157_S0 q1 q2))])) := by
    by_cases hc22 : (lcmpW q1 q1) = (0 : Int32)
    · refine own_step (fun t k => XS.ifNo X20.here hx rfl (hb hby at_117) rfl ((if0 _ _).trans (teq hc22).2) k) ?_
      show own_Run p e below T20 (mkF m 120 #[.val (.long q0), .second, .val (.long q1), .second, .val (.long q2), .second, .val (.long q3), .second, .val (.int p4), .val (.int (2 : Int32)), .val (.ref b14), .val (.long (own_r1c2 q0 q1 q2)), .second, .val (.long (own_f0c2_88 q0 q1 q2)), .second, .unset] []) _
      refine own_step (fun t k => XS.iload X20.here hx rfl (hb hby at_120) rfl  k) ?_
      show own_Run p e below T20 (mkF m 122 #[.val (.long q0), .second, .val (.long q1), .second, .val (.long q2), .second, .val (.long q3), .second, .val (.int p4), .val (.int (2 : Int32)), .val (.ref b14), .val (.long (own_r1c2 q0 q1 q2)), .second, .val (.long (own_f0c2_88 q0 q1 q2)), .second, .unset] [(.int (2 : Int32))]) _
      refine own_step (fun t k => XS.iconst X20.here hx rfl (hb hby at_122) k) ?_
      show own_Run p e below T20 (mkF m 123 #[.val (.long q0), .second, .val (.long q1), .second, .val (.long q2), .second, .val (.long q3), .second, .val (.int p4), .val (.int (2 : Int32)), .val (.ref b14), .val (.long (own_r1c2 q0 q1 q2)), .second, .val (.long (own_f0c2_88 q0 q1 q2)), .second, .unset] [(.int (2 : Int32)), (.int (2 : Int32))]) _
      refine own_step (fun t k => XS.icmpNo X20.here hx rfl (hb hby at_123) rfl (flt (by decide : ¬ ((2 : Int32) < (2 : Int32)))).1 k) ?_
      show own_Run p e below T20 (mkF m 126 #[.val (.long q0), .second, .val (.long q1), .second, .val (.long q2), .second, .val (.long q3), .second, .val (.int p4), .val (.int (2 : Int32)), .val (.ref b14), .val (.long (own_r1c2 q0 q1 q2)), .second, .val (.long (own_f0c2_88 q0 q1 q2)), .second, .unset] []) _
      refine own_step (fun t k => XS.aload X20.here hx rfl (hb hby at_126) rfl rfl k) ?_
      show own_Run p e below T20 (mkF m 128 #[.val (.long q0), .second, .val (.long q1), .second, .val (.long q2), .second, .val (.long q3), .second, .val (.int p4), .val (.int (2 : Int32)), .val (.ref b14), .val (.long (own_r1c2 q0 q1 q2)), .second, .val (.long (own_f0c2_88 q0 q1 q2)), .second, .unset] [(.ref b14)]) _
      refine own_step (fun t k => XS.iconst X20.here hx rfl (hb hby at_128) k) ?_
      show own_Run p e below T20 (mkF m 129 #[.val (.long q0), .second, .val (.long q1), .second, .val (.long q2), .second, .val (.long q3), .second, .val (.int p4), .val (.int (2 : Int32)), .val (.ref b14), .val (.long (own_r1c2 q0 q1 q2)), .second, .val (.long (own_f0c2_88 q0 q1 q2)), .second, .unset] [(.int (1 : Int32)), (.ref b14)]) _
      refine own_step (own_ldJ X20 hx hZ e20 V16x (j := (1 : Int32)) (v := (.long q2)) ⟨by decide, by decide⟩ rfl (g := (mkF m 129 #[.val (.long q0), .second, .val (.long q1), .second, .val (.long q2), .second, .val (.long q3), .second, .val (.int p4), .val (.int (2 : Int32)), .val (.ref b14), .val (.long (own_r1c2 q0 q1 q2)), .second, .val (.long (own_f0c2_88 q0 q1 q2)), .second, .unset] [(.int (1 : Int32)), (.ref b14)])) rfl rfl (hb hby at_129)) ?_
      show own_Run p e below T20 (mkF m 130 #[.val (.long q0), .second, .val (.long q1), .second, .val (.long q2), .second, .val (.long q3), .second, .val (.int p4), .val (.int (2 : Int32)), .val (.ref b14), .val (.long (own_r1c2 q0 q1 q2)), .second, .val (.long (own_f0c2_88 q0 q1 q2)), .second, .unset] [(.long q2)]) _
      refine own_step (fun t k => XS.lload X20.here hx rfl (hb hby at_130) rfl  k) ?_
      show own_Run p e below T20 (mkF m 132 #[.val (.long q0), .second, .val (.long q1), .second, .val (.long q2), .second, .val (.long q3), .second, .val (.int p4), .val (.int (2 : Int32)), .val (.ref b14), .val (.long (own_r1c2 q0 q1 q2)), .second, .val (.long (own_f0c2_88 q0 q1 q2)), .second, .unset] [(.long q2), (.long q2)]) _
      refine own_step (fun t k => XS.lcmp X20.here hx rfl (hb hby at_132) rfl k) ?_
      show own_Run p e below T20 (mkF m 133 #[.val (.long q0), .second, .val (.long q1), .second, .val (.long q2), .second, .val (.long q3), .second, .val (.int p4), .val (.int (2 : Int32)), .val (.ref b14), .val (.long (own_r1c2 q0 q1 q2)), .second, .val (.long (own_f0c2_88 q0 q1 q2)), .second, .unset] [(.int (lcmpW q2 q2))]) _
      by_cases hc23 : (lcmpW q2 q2) = (0 : Int32)
      · refine own_step (fun t k => XS.ifNo X20.here hx rfl (hb hby at_133) rfl ((if0 _ _).trans (teq hc23).2) k) ?_
        show own_Run p e below T20 (mkF m 136 #[.val (.long q0), .second, .val (.long q1), .second, .val (.long q2), .second, .val (.long q3), .second, .val (.int p4), .val (.int (2 : Int32)), .val (.ref b14), .val (.long (own_r1c2 q0 q1 q2)), .second, .val (.long (own_f0c2_88 q0 q1 q2)), .second, .unset] []) _
        refine own_step (fun t k => XS.iload X20.here hx rfl (hb hby at_136) rfl  k) ?_
        show own_Run p e below T20 (mkF m 138 #[.val (.long q0), .second, .val (.long q1), .second, .val (.long q2), .second, .val (.long q3), .second, .val (.int p4), .val (.int (2 : Int32)), .val (.ref b14), .val (.long (own_r1c2 q0 q1 q2)), .second, .val (.long (own_f0c2_88 q0 q1 q2)), .second, .unset] [(.int (2 : Int32))]) _
        refine own_step (fun t k => XS.iconst X20.here hx rfl (hb hby at_138) k) ?_
        show own_Run p e below T20 (mkF m 139 #[.val (.long q0), .second, .val (.long q1), .second, .val (.long q2), .second, .val (.long q3), .second, .val (.int p4), .val (.int (2 : Int32)), .val (.ref b14), .val (.long (own_r1c2 q0 q1 q2)), .second, .val (.long (own_f0c2_88 q0 q1 q2)), .second, .unset] [(.int (3 : Int32)), (.int (2 : Int32))]) _
        refine own_step (fun t k => XS.icmpYes X20.here hx rfl (pc0 := 139) (pc' := 152) rfl (hb hby at_139) rfl (tlt (by decide : (2 : Int32) < (3 : Int32))).1 (by decide) (by decide) k) ?_
        show own_Run p e below T20 (mkF m 152 #[.val (.long q0), .second, .val (.long q1), .second, .val (.long q2), .second, .val (.long q3), .second, .val (.int p4), .val (.int (2 : Int32)), .val (.ref b14), .val (.long (own_r1c2 q0 q1 q2)), .second, .val (.long (own_f0c2_88 q0 q1 q2)), .second, .unset] []) _
        refine own_step (fun t k => XS.iconst X20.here hx rfl (hb hby at_152) k) ?_
        show own_Run p e below T20 (mkF m 153 #[.val (.long q0), .second, .val (.long q1), .second, .val (.long q2), .second, .val (.long q3), .second, .val (.int p4), .val (.int (2 : Int32)), .val (.ref b14), .val (.long (own_r1c2 q0 q1 q2)), .second, .val (.long (own_f0c2_88 q0 q1 q2)), .second, .unset] [(.int (1 : Int32))]) _
        refine own_step (fun t k => XS.goto X20.here hx rfl (pc0 := 153) (pc' := 157) rfl (hb hby at_153) (by decide) (by decide) k) ?_
        show own_Run p e below T20 (mkF m 157 #[.val (.long q0), .second, .val (.long q1), .second, .val (.long q2), .second, .val (.long q3), .second, .val (.int p4), .val (.int (2 : Int32)), .val (.ref b14), .val (.long (own_r1c2 q0 q1 q2)), .second, .val (.long (own_f0c2_88 q0 q1 q2)), .second, .unset] [(.int (1 : Int32))]) _
        have hj0 : (own_f0c2_j157_S0 q1 q2) = (1 : Int32) := ((if_pos hc22).trans (if_pos hc23))
        exact own_here (by rw [hj0])
      · refine own_step (fun t k => XS.ifYes X20.here hx rfl (pc0 := 133) (pc' := 156) rfl (hb hby at_133) rfl ((if0 _ _).trans (feq hc23).2) (by decide) (by decide) k) ?_
        show own_Run p e below T20 (mkF m 156 #[.val (.long q0), .second, .val (.long q1), .second, .val (.long q2), .second, .val (.long q3), .second, .val (.int p4), .val (.int (2 : Int32)), .val (.ref b14), .val (.long (own_r1c2 q0 q1 q2)), .second, .val (.long (own_f0c2_88 q0 q1 q2)), .second, .unset] []) _
        refine own_step (fun t k => XS.iconst X20.here hx rfl (hb hby at_156) k) ?_
        show own_Run p e below T20 (mkF m 157 #[.val (.long q0), .second, .val (.long q1), .second, .val (.long q2), .second, .val (.long q3), .second, .val (.int p4), .val (.int (2 : Int32)), .val (.ref b14), .val (.long (own_r1c2 q0 q1 q2)), .second, .val (.long (own_f0c2_88 q0 q1 q2)), .second, .unset] [(.int (0 : Int32))]) _
        have hj0 : (own_f0c2_j157_S0 q1 q2) = (0 : Int32) := ((if_pos hc22).trans (if_neg hc23))
        exact own_here (by rw [hj0])
    · refine own_step (fun t k => XS.ifYes X20.here hx rfl (pc0 := 117) (pc' := 156) rfl (hb hby at_117) rfl ((if0 _ _).trans (feq hc22).2) (by decide) (by decide) k) ?_
      show own_Run p e below T20 (mkF m 156 #[.val (.long q0), .second, .val (.long q1), .second, .val (.long q2), .second, .val (.long q3), .second, .val (.int p4), .val (.int (2 : Int32)), .val (.ref b14), .val (.long (own_r1c2 q0 q1 q2)), .second, .val (.long (own_f0c2_88 q0 q1 q2)), .second, .unset] []) _
      refine own_step (fun t k => XS.iconst X20.here hx rfl (hb hby at_156) k) ?_
      show own_Run p e below T20 (mkF m 157 #[.val (.long q0), .second, .val (.long q1), .second, .val (.long q2), .second, .val (.long q3), .second, .val (.int p4), .val (.int (2 : Int32)), .val (.ref b14), .val (.long (own_r1c2 q0 q1 q2)), .second, .val (.long (own_f0c2_88 q0 q1 q2)), .second, .unset] [(.int (0 : Int32))]) _
      have hj0 : (own_f0c2_j157_S0 q1 q2) = (0 : Int32) := (if_neg hc22)
      exact own_here (by rw [hj0])
  refine own_tr st21 ?_
  show own_Run p e below T20 (mkF m 157 #[.val (.long q0), .second, .val (.long q1), .second, .val (.long q2), .second, .val (.long q3), .second, .val (.int p4), .val (.int (2 : Int32)), .val (.ref b14), .val (.long (own_r1c2 q0 q1 q2)), .second, .val (.long (own_f0c2_88 q0 q1 q2)), .second, .unset] [(.int (own_f0c2_j157_S0 q1 q2))]) _
  refine own_step (fun t k => XS.istore X20.here hx rfl (hb hby at_157) rfl (l' := #[.val (.long q0), .second, .val (.long q1), .second, .val (.long q2), .second, .val (.long q3), .second, .val (.int p4), .val (.int (2 : Int32)), .val (.ref b14), .val (.long (own_r1c2 q0 q1 q2)), .second, .val (.long (own_f0c2_88 q0 q1 q2)), .second, .val (.int (own_f0c2_157 q1 q2))]) rfl k) ?_
  show own_Run p e below T20 (mkF m 159 #[.val (.long q0), .second, .val (.long q1), .second, .val (.long q2), .second, .val (.long q3), .second, .val (.int p4), .val (.int (2 : Int32)), .val (.ref b14), .val (.long (own_r1c2 q0 q1 q2)), .second, .val (.long (own_f0c2_88 q0 q1 q2)), .second, .val (.int (own_f0c2_157 q1 q2))] []) _
  refine own_step (fun t k => XS.lload X20.here hx rfl (hb hby at_159) rfl  k) ?_
  show own_Run p e below T20 (mkF m 161 #[.val (.long q0), .second, .val (.long q1), .second, .val (.long q2), .second, .val (.long q3), .second, .val (.int p4), .val (.int (2 : Int32)), .val (.ref b14), .val (.long (own_r1c2 q0 q1 q2)), .second, .val (.long (own_f0c2_88 q0 q1 q2)), .second, .val (.int (own_f0c2_157 q1 q2))] [(.long (own_r1c2 q0 q1 q2))]) _
  refine own_step (fun t k => XS.lload X20.here hx rfl (hb hby at_161) rfl  k) ?_
  show own_Run p e below T20 (mkF m 163 #[.val (.long q0), .second, .val (.long q1), .second, .val (.long q2), .second, .val (.long q3), .second, .val (.int p4), .val (.int (2 : Int32)), .val (.ref b14), .val (.long (own_r1c2 q0 q1 q2)), .second, .val (.long (own_f0c2_88 q0 q1 q2)), .second, .val (.int (own_f0c2_157 q1 q2))] [(.long (own_f0c2_88 q0 q1 q2)), (.long (own_r1c2 q0 q1 q2))]) _
  refine own_step (fun t k => XS.lcmp X20.here hx rfl (hb hby at_163) rfl k) ?_
  show own_Run p e below T20 (mkF m 164 #[.val (.long q0), .second, .val (.long q1), .second, .val (.long q2), .second, .val (.long q3), .second, .val (.int p4), .val (.int (2 : Int32)), .val (.ref b14), .val (.long (own_r1c2 q0 q1 q2)), .second, .val (.long (own_f0c2_88 q0 q1 q2)), .second, .val (.int (own_f0c2_157 q1 q2))] [(.int (lcmpW (own_r1c2 q0 q1 q2) (own_f0c2_88 q0 q1 q2)))]) _
  obtain ⟨_, st24, rfl⟩ : own_Run p e below T20 (mkF m 164 #[.val (.long q0), .second, .val (.long q1), .second, .val (.long q2), .second, .val (.long q3), .second, .val (.int p4), .val (.int (2 : Int32)), .val (.ref b14), .val (.long (own_r1c2 q0 q1 q2)), .second, .val (.long (own_f0c2_88 q0 q1 q2)), .second, .val (.int (own_f0c2_157 q1 q2))] [(.int (lcmpW (own_r1c2 q0 q1 q2) (own_f0c2_88 q0 q1 q2)))]) (fun t => t = T20.setTop (mkF m 185 #[.val (.long q0), .second, .val (.long q1), .second, .val (.long q2), .second, .val (.long q3), .second, .val (.int p4), .val (.int (2 : Int32)), .val (.ref b14), .val (.long (own_r1c2 q0 q1 q2)), .second, .val (.long (own_f0c2_88 q0 q1 q2)), .second, .val (.int (own_f0c2_157 q1 q2))] [(.int (own_f0c2_j185_S0 q0 q1 q2))])) := by
    by_cases hc25 : (lcmpW (own_r1c2 q0 q1 q2) (own_f0c2_88 q0 q1 q2)) = (0 : Int32)
    · refine own_step (fun t k => XS.ifNo X20.here hx rfl (hb hby at_164) rfl ((if0 _ _).trans (teq hc25).2) k) ?_
      show own_Run p e below T20 (mkF m 167 #[.val (.long q0), .second, .val (.long q1), .second, .val (.long q2), .second, .val (.long q3), .second, .val (.int p4), .val (.int (2 : Int32)), .val (.ref b14), .val (.long (own_r1c2 q0 q1 q2)), .second, .val (.long (own_f0c2_88 q0 q1 q2)), .second, .val (.int (own_f0c2_157 q1 q2))] []) _
      refine own_step (fun t k => XS.iload X20.here hx rfl (hb hby at_167) rfl  k) ?_
      show own_Run p e below T20 (mkF m 169 #[.val (.long q0), .second, .val (.long q1), .second, .val (.long q2), .second, .val (.long q3), .second, .val (.int p4), .val (.int (2 : Int32)), .val (.ref b14), .val (.long (own_r1c2 q0 q1 q2)), .second, .val (.long (own_f0c2_88 q0 q1 q2)), .second, .val (.int (own_f0c2_157 q1 q2))] [(.int (own_f0c2_157 q1 q2))]) _
      by_cases hc26 : (own_f0c2_157 q1 q2) = (0 : Int32)
      · refine own_step (fun t k => XS.ifYes X20.here hx rfl (pc0 := 169) (pc' := 184) rfl (hb hby at_169) rfl ((if0 _ _).trans (teq hc26).1) (by decide) (by decide) k) ?_
        show own_Run p e below T20 (mkF m 184 #[.val (.long q0), .second, .val (.long q1), .second, .val (.long q2), .second, .val (.long q3), .second, .val (.int p4), .val (.int (2 : Int32)), .val (.ref b14), .val (.long (own_r1c2 q0 q1 q2)), .second, .val (.long (own_f0c2_88 q0 q1 q2)), .second, .val (.int (own_f0c2_157 q1 q2))] []) _
        refine own_step (fun t k => XS.iconst X20.here hx rfl (hb hby at_184) k) ?_
        show own_Run p e below T20 (mkF m 185 #[.val (.long q0), .second, .val (.long q1), .second, .val (.long q2), .second, .val (.long q3), .second, .val (.int p4), .val (.int (2 : Int32)), .val (.ref b14), .val (.long (own_r1c2 q0 q1 q2)), .second, .val (.long (own_f0c2_88 q0 q1 q2)), .second, .val (.int (own_f0c2_157 q1 q2))] [(.int (0 : Int32))]) _
        have hj0 : (own_f0c2_j185_S0 q0 q1 q2) = (0 : Int32) := ((if_pos hc25).trans (if_pos hc26))
        exact own_here (by rw [hj0])
      · refine own_step (fun t k => XS.ifNo X20.here hx rfl (hb hby at_169) rfl ((if0 _ _).trans (feq hc26).1) k) ?_
        show own_Run p e below T20 (mkF m 172 #[.val (.long q0), .second, .val (.long q1), .second, .val (.long q2), .second, .val (.long q3), .second, .val (.int p4), .val (.int (2 : Int32)), .val (.ref b14), .val (.long (own_r1c2 q0 q1 q2)), .second, .val (.long (own_f0c2_88 q0 q1 q2)), .second, .val (.int (own_f0c2_157 q1 q2))] []) _
        refine own_step (fun t k => XS.aload X20.here hx rfl (hb hby at_172) rfl rfl k) ?_
        show own_Run p e below T20 (mkF m 174 #[.val (.long q0), .second, .val (.long q1), .second, .val (.long q2), .second, .val (.long q3), .second, .val (.int p4), .val (.int (2 : Int32)), .val (.ref b14), .val (.long (own_r1c2 q0 q1 q2)), .second, .val (.long (own_f0c2_88 q0 q1 q2)), .second, .val (.int (own_f0c2_157 q1 q2))] [(.ref b14)]) _
        refine own_step (own_len X20 hx hZ e20 V16x (g := (mkF m 174 #[.val (.long q0), .second, .val (.long q1), .second, .val (.long q2), .second, .val (.long q3), .second, .val (.int p4), .val (.int (2 : Int32)), .val (.ref b14), .val (.long (own_r1c2 q0 q1 q2)), .second, .val (.long (own_f0c2_88 q0 q1 q2)), .second, .val (.int (own_f0c2_157 q1 q2))] [(.ref b14)])) rfl rfl (hb hby at_174)) ?_
        show own_Run p e below T20 (mkF m 175 #[.val (.long q0), .second, .val (.long q1), .second, .val (.long q2), .second, .val (.long q3), .second, .val (.int p4), .val (.int (2 : Int32)), .val (.ref b14), .val (.long (own_r1c2 q0 q1 q2)), .second, .val (.long (own_f0c2_88 q0 q1 q2)), .second, .val (.int (own_f0c2_157 q1 q2))] [(.int (2 : Int32))]) _
        refine own_step (fun t k => XS.iload X20.here hx rfl (hb hby at_175) rfl  k) ?_
        show own_Run p e below T20 (mkF m 177 #[.val (.long q0), .second, .val (.long q1), .second, .val (.long q2), .second, .val (.long q3), .second, .val (.int p4), .val (.int (2 : Int32)), .val (.ref b14), .val (.long (own_r1c2 q0 q1 q2)), .second, .val (.long (own_f0c2_88 q0 q1 q2)), .second, .val (.int (own_f0c2_157 q1 q2))] [(.int (2 : Int32)), (.int (2 : Int32))]) _
        refine own_step (fun t k => XS.icmpNo X20.here hx rfl (hb hby at_177) rfl (teq (rfl : (2 : Int32) = (2 : Int32))).2 k) ?_
        show own_Run p e below T20 (mkF m 180 #[.val (.long q0), .second, .val (.long q1), .second, .val (.long q2), .second, .val (.long q3), .second, .val (.int p4), .val (.int (2 : Int32)), .val (.ref b14), .val (.long (own_r1c2 q0 q1 q2)), .second, .val (.long (own_f0c2_88 q0 q1 q2)), .second, .val (.int (own_f0c2_157 q1 q2))] []) _
        refine own_step (fun t k => XS.iconst X20.here hx rfl (hb hby at_180) k) ?_
        show own_Run p e below T20 (mkF m 181 #[.val (.long q0), .second, .val (.long q1), .second, .val (.long q2), .second, .val (.long q3), .second, .val (.int p4), .val (.int (2 : Int32)), .val (.ref b14), .val (.long (own_r1c2 q0 q1 q2)), .second, .val (.long (own_f0c2_88 q0 q1 q2)), .second, .val (.int (own_f0c2_157 q1 q2))] [(.int (1 : Int32))]) _
        refine own_step (fun t k => XS.goto X20.here hx rfl (pc0 := 181) (pc' := 185) rfl (hb hby at_181) (by decide) (by decide) k) ?_
        show own_Run p e below T20 (mkF m 185 #[.val (.long q0), .second, .val (.long q1), .second, .val (.long q2), .second, .val (.long q3), .second, .val (.int p4), .val (.int (2 : Int32)), .val (.ref b14), .val (.long (own_r1c2 q0 q1 q2)), .second, .val (.long (own_f0c2_88 q0 q1 q2)), .second, .val (.int (own_f0c2_157 q1 q2))] [(.int (1 : Int32))]) _
        have hj0 : (own_f0c2_j185_S0 q0 q1 q2) = (1 : Int32) := ((if_pos hc25).trans (if_neg hc26))
        exact own_here (by rw [hj0])
    · refine own_step (fun t k => XS.ifYes X20.here hx rfl (pc0 := 164) (pc' := 184) rfl (hb hby at_164) rfl ((if0 _ _).trans (feq hc25).2) (by decide) (by decide) k) ?_
      show own_Run p e below T20 (mkF m 184 #[.val (.long q0), .second, .val (.long q1), .second, .val (.long q2), .second, .val (.long q3), .second, .val (.int p4), .val (.int (2 : Int32)), .val (.ref b14), .val (.long (own_r1c2 q0 q1 q2)), .second, .val (.long (own_f0c2_88 q0 q1 q2)), .second, .val (.int (own_f0c2_157 q1 q2))] []) _
      refine own_step (fun t k => XS.iconst X20.here hx rfl (hb hby at_184) k) ?_
      show own_Run p e below T20 (mkF m 185 #[.val (.long q0), .second, .val (.long q1), .second, .val (.long q2), .second, .val (.long q3), .second, .val (.int p4), .val (.int (2 : Int32)), .val (.ref b14), .val (.long (own_r1c2 q0 q1 q2)), .second, .val (.long (own_f0c2_88 q0 q1 q2)), .second, .val (.int (own_f0c2_157 q1 q2))] [(.int (0 : Int32))]) _
      have hj0 : (own_f0c2_j185_S0 q0 q1 q2) = (0 : Int32) := (if_neg hc25)
      exact own_here (by rw [hj0])
  refine own_tr st24 ?_
  show own_Run p e below T20 (mkF m 185 #[.val (.long q0), .second, .val (.long q1), .second, .val (.long q2), .second, .val (.long q3), .second, .val (.int p4), .val (.int (2 : Int32)), .val (.ref b14), .val (.long (own_r1c2 q0 q1 q2)), .second, .val (.long (own_f0c2_88 q0 q1 q2)), .second, .val (.int (own_f0c2_157 q1 q2))] [(.int (own_f0c2_j185_S0 q0 q1 q2))]) _
  exact own_retZ X20 hx hlk hret (hb hby at_185) (by decide) (by decide) N20 trivial
def own_f0c3_88 (q0 : Int64) (q1 : Int64) (q2 : Int64) : Int64 := (own_r3 (own_r3 (own_r2 q0) q1) q2)
def own_f0c3_103 (q0 : Int64) (q1 : Int64) (q2 : Int64) (q3 : Int64) : Int64 := (own_r3 (own_f0c3_88 q0 q1 q2) q3)
def own_f0c3_j157_S0 (q1 : Int64) (q2 : Int64) (q3 : Int64) : Int32 := (if (lcmpW q1 q1) = (0 : Int32) then (if (lcmpW q2 q2) = (0 : Int32) then (if (lcmpW q3 q3) = (0 : Int32) then (1 : Int32) else (0 : Int32)) else (0 : Int32)) else (0 : Int32))
def own_f0c3_157 (q1 : Int64) (q2 : Int64) (q3 : Int64) : Int32 := (own_f0c3_j157_S0 q1 q2 q3)
def own_f0c3_j185_S0 (q0 : Int64) (q1 : Int64) (q2 : Int64) (q3 : Int64) : Int32 := (if (lcmpW (own_r1c3 q0 q1 q2 q3) (own_f0c3_103 q0 q1 q2 q3)) = (0 : Int32) then (if (own_f0c3_157 q1 q2 q3) = (0 : Int32) then (0 : Int32) else (1 : Int32)) else (0 : Int32))
def own_r0c3 (q0 : Int64) (q1 : Int64) (q2 : Int64) (q3 : Int64) (p4 : Int32) : Int32 := (nar .boolean (own_f0c3_j185_S0 q0 q1 q2 q3))
theorem own_ef0c3 (m : MethodId) (q0 : Int64) (q1 : Int64) (q2 : Int64) (q3 : Int64) (p4 : Int32) : entryFrame m #[(.long q0), (.long q1), (.long q2), (.long q3), (.int p4)] maxLocals = (mkF m 0 #[.val (.long q0), .second, .val (.long q1), .second, .val (.long q2), .second, .val (.long q3), .second, .val (.int p4), .unset, .unset, .unset, .unset, .unset, .unset, .unset] []) := by first | (simp [entryFrame, mkF, argsToLocals, Value.category, maxLocals]; done) | rfl
set_option maxRecDepth 65536 in
set_option maxHeartbeats 40000000 in
theorem rm0c3 (l : Launch) (Z : State) (av0 : Array Value) (hw : ∀ d ∈ tables_1, d.before av0 Z = true) (ws : List Jvm.Cond) (q0 : Int64) (q1 : Int64) (q2 : Int64) (q3 : Int64) (p4 : Int32) (h0 : Heap) (n0 : Nat) (Z0 : n0 ≤ h0.size) (hn : (p4 &&& (3 : Int32)) = (3 : Int32)) :
    MetFree l x (head1 (Jvm.Cond.code x code maxLocals ret :: ws) room_1) (fun a U => a = #[(.long q0), (.long q1), (.long q2), (.long q3), (.int p4)] ∧ Z.Warmed39 U.vm ∧ U.heap = h0) (fun _ _ _ _ _ => True) (fun _ U o U' => ∃ v L, o = .returned v ∧ own_Q n0 (fun _ => True) (some (.int (own_r0c3 q0 q1 q2 q3 p4))) v U'.heap L ∧ FrameEnd U o U' L room_1.cells room_1.slots) := by
  refine MetFree.of_bodySF (plainFor_of_name own_pn1) hisR ?_
  intro p e s m args below meth c s₁ Bd hml0 hP hK
  obtain ⟨rfl, hZ, hh⟩ := hP
  have hx := Bd.exec
  have hby := Bd.bytes
  have hml : c.maxLocals = 16 := hml0
  have hown : s.vm.findClass "com/example/surefoot/surefoot/SplitMixDerivePinLaw" = some m.cls := findClass_of_methodNamed Bd.named
  have hnm := (name_of_methodNamed Bd.named Bd.method).1
  have hret := Bd.returns
  have hlk : meth.locks = false := BodyLoose.notSynchronized Bd
  have X0 : Stand p l e room_1 s m #[(.long q0), (.long q1), (.long q2), (.long q3), (.int p4)] below meth c s₁ [] 0 0 := Stand.of_body Bd
  have e0 : s₁.heap = h0 := by rw [← hh, Bd.state]; rfl
  have N0 := Fr.nil n0
  clear Bd hh hK
  refine own_fin ?_
  refine own_entry (own_ef0c3 m q0 q1 q2 q3 p4) ?_
  show own_Run p e below s₁ _ (own_Ret _ s below _ _ (own_Q n0 _ (some (.int (nar .boolean (own_f0c3_j185_S0 q0 q1 q2 q3))))))
  show own_Run p e below s₁ (mkF m 0 #[.val (.long q0), .second, .val (.long q1), .second, .val (.long q2), .second, .val (.long q3), .second, .val (.int p4), .unset, .unset, .unset, .unset, .unset, .unset, .unset] []) _
  refine own_step (fun t k => XS.iload X0.here hx rfl (hb hby at_0) rfl  k) ?_
  show own_Run p e below s₁ (mkF m 2 #[.val (.long q0), .second, .val (.long q1), .second, .val (.long q2), .second, .val (.long q3), .second, .val (.int p4), .unset, .unset, .unset, .unset, .unset, .unset, .unset] [(.int p4)]) _
  refine own_step (fun t k => XS.iconst X0.here hx rfl (hb hby at_2) k) ?_
  show own_Run p e below s₁ (mkF m 3 #[.val (.long q0), .second, .val (.long q1), .second, .val (.long q2), .second, .val (.long q3), .second, .val (.int p4), .unset, .unset, .unset, .unset, .unset, .unset, .unset] [(.int (3 : Int32)), (.int p4)]) _
  refine own_step (fun t k => XS.iand X0.here hx rfl (hb hby at_3) rfl k) ?_
  show own_Run p e below s₁ (mkF m 4 #[.val (.long q0), .second, .val (.long q1), .second, .val (.long q2), .second, .val (.long q3), .second, .val (.int p4), .unset, .unset, .unset, .unset, .unset, .unset, .unset] [(.int (p4 &&& (3 : Int32)))]) _
  rw [hn]
  show own_Run p e below s₁ (mkF m 4 #[.val (.long q0), .second, .val (.long q1), .second, .val (.long q2), .second, .val (.long q3), .second, .val (.int p4), .unset, .unset, .unset, .unset, .unset, .unset, .unset] [(.int (3 : Int32))]) _
  refine own_step (fun t k => XS.istore X0.here hx rfl (hb hby at_4) rfl (l' := #[.val (.long q0), .second, .val (.long q1), .second, .val (.long q2), .second, .val (.long q3), .second, .val (.int p4), .val (.int (3 : Int32)), .unset, .unset, .unset, .unset, .unset, .unset]) rfl k) ?_
  show own_Run p e below s₁ (mkF m 6 #[.val (.long q0), .second, .val (.long q1), .second, .val (.long q2), .second, .val (.long q3), .second, .val (.int p4), .val (.int (3 : Int32)), .unset, .unset, .unset, .unset, .unset, .unset] []) _
  refine own_step (fun t k => XS.iload X0.here hx rfl (hb hby at_6) rfl  k) ?_
  show own_Run p e below s₁ (mkF m 8 #[.val (.long q0), .second, .val (.long q1), .second, .val (.long q2), .second, .val (.long q3), .second, .val (.int p4), .val (.int (3 : Int32)), .unset, .unset, .unset, .unset, .unset, .unset] [(.int (3 : Int32))]) _
  obtain ⟨T17, h17, k17, X17, e17, E17, A17, st17⟩ := newP X0 hx hZ (hw _ (List.mem_of_getElem? (i := 0) rfl)) e0 (g := (mkF m 8 #[.val (.long q0), .second, .val (.long q1), .second, .val (.long q2), .second, .val (.long q3), .second, .val (.int p4), .val (.int (3 : Int32)), .unset, .unset, .unset, .unset, .unset, .unset] [(.int (3 : Int32))])) rfl (hb hby at_8) rfl (by decide) (cap := 3) (by decide) (by decide) (by decide) (by decide)
  obtain ⟨b17, g17⟩ : ∃ z, z = h0.size := ⟨_, rfl⟩
  rw [← g17] at A17 st17
  have geb17 : n0 ≤ b17 := Nat.le_trans Z0 (Nat.le_of_eq g17.symm)
  have Zn17 : n0 ≤ h17.size := Nat.le_trans Z0 E17.1
  have V17 : Arv Z h17 b17 k17 .long (3 : Int32) [(.long (0 : Int64)), (.long (0 : Int64)), (.long (0 : Int64))] (.long (0 : Int64)) := (Arv.new A17 (by decide)).pad (pad_rep [] (.long (0 : Int64)) 3)
  refine own_step st17 ?_
  show own_Run p e below T17 (mkF m 10 #[.val (.long q0), .second, .val (.long q1), .second, .val (.long q2), .second, .val (.long q3), .second, .val (.int p4), .val (.int (3 : Int32)), .unset, .unset, .unset, .unset, .unset, .unset] [(.ref b17)]) _
  refine own_step (fun t k => XS.astore X17.here hx rfl (hb hby at_10) rfl rfl (l' := #[.val (.long q0), .second, .val (.long q1), .second, .val (.long q2), .second, .val (.long q3), .second, .val (.int p4), .val (.int (3 : Int32)), .val (.ref b17), .unset, .unset, .unset, .unset, .unset]) rfl k) ?_
  show own_Run p e below T17 (mkF m 12 #[.val (.long q0), .second, .val (.long q1), .second, .val (.long q2), .second, .val (.long q3), .second, .val (.int p4), .val (.int (3 : Int32)), .val (.ref b17), .unset, .unset, .unset, .unset, .unset] []) _
  refine own_step (fun t k => XS.iload X17.here hx rfl (hb hby at_12) rfl  k) ?_
  show own_Run p e below T17 (mkF m 14 #[.val (.long q0), .second, .val (.long q1), .second, .val (.long q2), .second, .val (.long q3), .second, .val (.int p4), .val (.int (3 : Int32)), .val (.ref b17), .unset, .unset, .unset, .unset, .unset] [(.int (3 : Int32))]) _
  refine own_step (fun t k => XS.iconst X17.here hx rfl (hb hby at_14) k) ?_
  show own_Run p e below T17 (mkF m 15 #[.val (.long q0), .second, .val (.long q1), .second, .val (.long q2), .second, .val (.long q3), .second, .val (.int p4), .val (.int (3 : Int32)), .val (.ref b17), .unset, .unset, .unset, .unset, .unset] [(.int (1 : Int32)), (.int (3 : Int32))]) _
  refine own_step (fun t k => XS.icmpNo X17.here hx rfl (hb hby at_15) rfl (flt (by decide : ¬ ((3 : Int32) < (1 : Int32)))).1 k) ?_
  show own_Run p e below T17 (mkF m 18 #[.val (.long q0), .second, .val (.long q1), .second, .val (.long q2), .second, .val (.long q3), .second, .val (.int p4), .val (.int (3 : Int32)), .val (.ref b17), .unset, .unset, .unset, .unset, .unset] []) _
  refine own_step (fun t k => XS.aload X17.here hx rfl (hb hby at_18) rfl rfl k) ?_
  show own_Run p e below T17 (mkF m 20 #[.val (.long q0), .second, .val (.long q1), .second, .val (.long q2), .second, .val (.long q3), .second, .val (.int p4), .val (.int (3 : Int32)), .val (.ref b17), .unset, .unset, .unset, .unset, .unset] [(.ref b17)]) _
  refine own_step (fun t k => XS.iconst X17.here hx rfl (hb hby at_20) k) ?_
  show own_Run p e below T17 (mkF m 21 #[.val (.long q0), .second, .val (.long q1), .second, .val (.long q2), .second, .val (.long q3), .second, .val (.int p4), .val (.int (3 : Int32)), .val (.ref b17), .unset, .unset, .unset, .unset, .unset] [(.int (0 : Int32)), (.ref b17)]) _
  refine own_step (fun t k => XS.lloadN X17.here hx rfl (hb hby at_21) rfl  k) ?_
  show own_Run p e below T17 (mkF m 22 #[.val (.long q0), .second, .val (.long q1), .second, .val (.long q2), .second, .val (.long q3), .second, .val (.int p4), .val (.int (3 : Int32)), .val (.ref b17), .unset, .unset, .unset, .unset, .unset] [(.long q1), (.int (0 : Int32)), (.ref b17)]) _
  obtain ⟨T18, h18, L18, X18, e18, N18, W18, V18, st18⟩ := own_stJ X17 hx hZ e17 V17 N0 geb17 (j := (0 : Int32)) ⟨by decide, by decide⟩ 0 rfl (Nat.le_of_ble_eq_true rfl) (g := (mkF m 22 #[.val (.long q0), .second, .val (.long q1), .second, .val (.long q2), .second, .val (.long q3), .second, .val (.int p4), .val (.int (3 : Int32)), .val (.ref b17), .unset, .unset, .unset, .unset, .unset] [(.long q1), (.int (0 : Int32)), (.ref b17)])) rfl rfl (hb hby at_22)
  have V18x : Arv Z h18 b17 k17 .long (3 : Int32) [(.long q1), (.long (0 : Int64)), (.long (0 : Int64))] (.long (0 : Int64)) := V18
  have Zn18 : n0 ≤ h18.size := Nat.le_trans Zn17 (Keep.of_wr W18).1
  refine own_step st18 ?_
  show own_Run p e below T18 (mkF m 23 #[.val (.long q0), .second, .val (.long q1), .second, .val (.long q2), .second, .val (.long q3), .second, .val (.int p4), .val (.int (3 : Int32)), .val (.ref b17), .unset, .unset, .unset, .unset, .unset] []) _
  refine own_step (fun t k => XS.iload X18.here hx rfl (hb hby at_23) rfl  k) ?_
  show own_Run p e below T18 (mkF m 25 #[.val (.long q0), .second, .val (.long q1), .second, .val (.long q2), .second, .val (.long q3), .second, .val (.int p4), .val (.int (3 : Int32)), .val (.ref b17), .unset, .unset, .unset, .unset, .unset] [(.int (3 : Int32))]) _
  refine own_step (fun t k => XS.iconst X18.here hx rfl (hb hby at_25) k) ?_
  show own_Run p e below T18 (mkF m 26 #[.val (.long q0), .second, .val (.long q1), .second, .val (.long q2), .second, .val (.long q3), .second, .val (.int p4), .val (.int (3 : Int32)), .val (.ref b17), .unset, .unset, .unset, .unset, .unset] [(.int (2 : Int32)), (.int (3 : Int32))]) _
  refine own_step (fun t k => XS.icmpNo X18.here hx rfl (hb hby at_26) rfl (flt (by decide : ¬ ((3 : Int32) < (2 : Int32)))).1 k) ?_
  show own_Run p e below T18 (mkF m 29 #[.val (.long q0), .second, .val (.long q1), .second, .val (.long q2), .second, .val (.long q3), .second, .val (.int p4), .val (.int (3 : Int32)), .val (.ref b17), .unset, .unset, .unset, .unset, .unset] []) _
  refine own_step (fun t k => XS.aload X18.here hx rfl (hb hby at_29) rfl rfl k) ?_
  show own_Run p e below T18 (mkF m 31 #[.val (.long q0), .second, .val (.long q1), .second, .val (.long q2), .second, .val (.long q3), .second, .val (.int p4), .val (.int (3 : Int32)), .val (.ref b17), .unset, .unset, .unset, .unset, .unset] [(.ref b17)]) _
  refine own_step (fun t k => XS.iconst X18.here hx rfl (hb hby at_31) k) ?_
  show own_Run p e below T18 (mkF m 32 #[.val (.long q0), .second, .val (.long q1), .second, .val (.long q2), .second, .val (.long q3), .second, .val (.int p4), .val (.int (3 : Int32)), .val (.ref b17), .unset, .unset, .unset, .unset, .unset] [(.int (1 : Int32)), (.ref b17)]) _
  refine own_step (fun t k => XS.lload X18.here hx rfl (hb hby at_32) rfl  k) ?_
  show own_Run p e below T18 (mkF m 34 #[.val (.long q0), .second, .val (.long q1), .second, .val (.long q2), .second, .val (.long q3), .second, .val (.int p4), .val (.int (3 : Int32)), .val (.ref b17), .unset, .unset, .unset, .unset, .unset] [(.long q2), (.int (1 : Int32)), (.ref b17)]) _
  obtain ⟨T19, h19, L19, X19, e19, N19, W19, V19, st19⟩ := own_stJ X18 hx hZ e18 V18x N18 geb17 (j := (1 : Int32)) ⟨by decide, by decide⟩ 1 rfl (Nat.le_of_ble_eq_true rfl) (g := (mkF m 34 #[.val (.long q0), .second, .val (.long q1), .second, .val (.long q2), .second, .val (.long q3), .second, .val (.int p4), .val (.int (3 : Int32)), .val (.ref b17), .unset, .unset, .unset, .unset, .unset] [(.long q2), (.int (1 : Int32)), (.ref b17)])) rfl rfl (hb hby at_34)
  have V19x : Arv Z h19 b17 k17 .long (3 : Int32) [(.long q1), (.long q2), (.long (0 : Int64))] (.long (0 : Int64)) := V19
  have Zn19 : n0 ≤ h19.size := Nat.le_trans Zn18 (Keep.of_wr W19).1
  refine own_step st19 ?_
  show own_Run p e below T19 (mkF m 35 #[.val (.long q0), .second, .val (.long q1), .second, .val (.long q2), .second, .val (.long q3), .second, .val (.int p4), .val (.int (3 : Int32)), .val (.ref b17), .unset, .unset, .unset, .unset, .unset] []) _
  refine own_step (fun t k => XS.iload X19.here hx rfl (hb hby at_35) rfl  k) ?_
  show own_Run p e below T19 (mkF m 37 #[.val (.long q0), .second, .val (.long q1), .second, .val (.long q2), .second, .val (.long q3), .second, .val (.int p4), .val (.int (3 : Int32)), .val (.ref b17), .unset, .unset, .unset, .unset, .unset] [(.int (3 : Int32))]) _
  refine own_step (fun t k => XS.iconst X19.here hx rfl (hb hby at_37) k) ?_
  show own_Run p e below T19 (mkF m 38 #[.val (.long q0), .second, .val (.long q1), .second, .val (.long q2), .second, .val (.long q3), .second, .val (.int p4), .val (.int (3 : Int32)), .val (.ref b17), .unset, .unset, .unset, .unset, .unset] [(.int (3 : Int32)), (.int (3 : Int32))]) _
  refine own_step (fun t k => XS.icmpNo X19.here hx rfl (hb hby at_38) rfl (flt (by decide : ¬ ((3 : Int32) < (3 : Int32)))).1 k) ?_
  show own_Run p e below T19 (mkF m 41 #[.val (.long q0), .second, .val (.long q1), .second, .val (.long q2), .second, .val (.long q3), .second, .val (.int p4), .val (.int (3 : Int32)), .val (.ref b17), .unset, .unset, .unset, .unset, .unset] []) _
  refine own_step (fun t k => XS.aload X19.here hx rfl (hb hby at_41) rfl rfl k) ?_
  show own_Run p e below T19 (mkF m 43 #[.val (.long q0), .second, .val (.long q1), .second, .val (.long q2), .second, .val (.long q3), .second, .val (.int p4), .val (.int (3 : Int32)), .val (.ref b17), .unset, .unset, .unset, .unset, .unset] [(.ref b17)]) _
  refine own_step (fun t k => XS.iconst X19.here hx rfl (hb hby at_43) k) ?_
  show own_Run p e below T19 (mkF m 44 #[.val (.long q0), .second, .val (.long q1), .second, .val (.long q2), .second, .val (.long q3), .second, .val (.int p4), .val (.int (3 : Int32)), .val (.ref b17), .unset, .unset, .unset, .unset, .unset] [(.int (2 : Int32)), (.ref b17)]) _
  refine own_step (fun t k => XS.lload X19.here hx rfl (hb hby at_44) rfl  k) ?_
  show own_Run p e below T19 (mkF m 46 #[.val (.long q0), .second, .val (.long q1), .second, .val (.long q2), .second, .val (.long q3), .second, .val (.int p4), .val (.int (3 : Int32)), .val (.ref b17), .unset, .unset, .unset, .unset, .unset] [(.long q3), (.int (2 : Int32)), (.ref b17)]) _
  obtain ⟨T20, h20, L20, X20, e20, N20, W20, V20, st20⟩ := own_stJ X19 hx hZ e19 V19x N19 geb17 (j := (2 : Int32)) ⟨by decide, by decide⟩ 2 rfl (Nat.le_of_ble_eq_true rfl) (g := (mkF m 46 #[.val (.long q0), .second, .val (.long q1), .second, .val (.long q2), .second, .val (.long q3), .second, .val (.int p4), .val (.int (3 : Int32)), .val (.ref b17), .unset, .unset, .unset, .unset, .unset] [(.long q3), (.int (2 : Int32)), (.ref b17)])) rfl rfl (hb hby at_46)
  have V20x : Arv Z h20 b17 k17 .long (3 : Int32) [(.long q1), (.long q2), (.long q3)] (.long (0 : Int64)) := V20
  have Zn20 : n0 ≤ h20.size := Nat.le_trans Zn19 (Keep.of_wr W20).1
  refine own_step st20 ?_
  show own_Run p e below T20 (mkF m 47 #[.val (.long q0), .second, .val (.long q1), .second, .val (.long q2), .second, .val (.long q3), .second, .val (.int p4), .val (.int (3 : Int32)), .val (.ref b17), .unset, .unset, .unset, .unset, .unset] []) _
  refine own_step (fun t k => XS.lloadN X20.here hx rfl (hb hby at_47) rfl  k) ?_
  show own_Run p e below T20 (mkF m 48 #[.val (.long q0), .second, .val (.long q1), .second, .val (.long q2), .second, .val (.long q3), .second, .val (.int p4), .val (.int (3 : Int32)), .val (.ref b17), .unset, .unset, .unset, .unset, .unset] [(.long q0)]) _
  refine own_step (fun t k => XS.aload X20.here hx rfl (hb hby at_48) rfl rfl k) ?_
  show own_Run p e below T20 (mkF m 50 #[.val (.long q0), .second, .val (.long q1), .second, .val (.long q2), .second, .val (.long q3), .second, .val (.int p4), .val (.int (3 : Int32)), .val (.ref b17), .unset, .unset, .unset, .unset, .unset] [(.ref b17), (.long q0)]) _
  obtain ⟨_, _, ⟨T21, L21, kq21, nq21⟩, -, X21, ⟨Lc21, hQ21, lq21, yq21, zq21⟩, st21⟩ := Jvm.LawKit.callS X20 hx (y := (⟨"com/example/surefoot/surefoot/SplitMix", "derive", "(J[J)J"⟩ : MethodName)) hown (mvT hZ (hw _ (List.mem_of_getElem? (i := 1) rfl))) (mvT hZ (hw _ (List.mem_of_getElem? (i := 2) rfl))) (mvT hZ (hw _ (List.mem_of_getElem? (i := 3) rfl))) (mvT hZ (hw _ (List.mem_of_getElem? (i := 4) rfl))) (by decide) (backOf (W := 0) (rm1c3 l Z av0 hw [] q0 b17 k17 q1 q2 q3 h20 n0 Zn20 V20x) hZ (hw _ (List.mem_of_getElem? (i := 4) rfl)) (hw _ (List.mem_of_getElem? (i := 3) rfl)) (by decide) (by decide)) (g := (mkF m 50 #[.val (.long q0), .second, .val (.long q1), .second, .val (.long q2), .second, .val (.long q3), .second, .val (.int p4), .val (.int (3 : Int32)), .val (.ref b17), .unset, .unset, .unset, .unset, .unset] [(.ref b17), (.long q0)])) rfl (by rw [hml]; rfl) (argsL := [(.long q0), (.ref b17)]) (rest := []) (lenOf own_pd66 rfl) rfl (by show 2 * 0 + _ ≤ _; exact Nat.le_of_eq rfl) (hb hby at_50) (fun _ _ => ⟨rfl, e20, (by decide : 1 + 0 ≤ _), (by decide : 3 + 0 ≤ _)⟩)
  dsimp only [Pt.U, Pt.locs, Pt.cells, Pt.slots] at X21 lq21 yq21 zq21 st21 hQ21
  subst lq21 yq21 zq21
  obtain ⟨rfl, N21q, e21⟩ := hQ21
  have N21 := Fr.app N20 N21q
  refine own_step st21 ?_
  show own_Run p e below T21 (mkF m 53 #[.val (.long q0), .second, .val (.long q1), .second, .val (.long q2), .second, .val (.long q3), .second, .val (.int p4), .val (.int (3 : Int32)), .val (.ref b17), .unset, .unset, .unset, .unset, .unset] [(.long (own_r1c3 q0 q1 q2 q3))]) _
  refine own_step (fun t k => XS.lstore X21.here hx rfl (hb hby at_53) rfl (l' := #[.val (.long q0), .second, .val (.long q1), .second, .val (.long q2), .second, .val (.long q3), .second, .val (.int p4), .val (.int (3 : Int32)), .val (.ref b17), .val (.long (own_r1c3 q0 q1 q2 q3)), .second, .unset, .unset, .unset]) rfl k) ?_
  show own_Run p e below T21 (mkF m 55 #[.val (.long q0), .second, .val (.long q1), .second, .val (.long q2), .second, .val (.long q3), .second, .val (.int p4), .val (.int (3 : Int32)), .val (.ref b17), .val (.long (own_r1c3 q0 q1 q2 q3)), .second, .unset, .unset, .unset] []) _
  refine own_step (fun t k => XS.lloadN X21.here hx rfl (hb hby at_55) rfl  k) ?_
  show own_Run p e below T21 (mkF m 56 #[.val (.long q0), .second, .val (.long q1), .second, .val (.long q2), .second, .val (.long q3), .second, .val (.int p4), .val (.int (3 : Int32)), .val (.ref b17), .val (.long (own_r1c3 q0 q1 q2 q3)), .second, .unset, .unset, .unset] [(.long q0)]) _
  obtain ⟨_, _, ⟨T22, L22, kq22, nq22⟩, -, X22, ⟨Lc22, hQ22, lq22, yq22, zq22⟩, st22⟩ := Jvm.LawKit.callS X21 hx (y := (⟨"com/example/surefoot/surefoot/SplitMix", "mix", "(J)J"⟩ : MethodName)) hown (mvT hZ (hw _ (List.mem_of_getElem? (i := 11) rfl))) (mvT hZ (hw _ (List.mem_of_getElem? (i := 6) rfl))) (mvT hZ (hw _ (List.mem_of_getElem? (i := 3) rfl))) (mvT hZ (hw _ (List.mem_of_getElem? (i := 7) rfl))) (by decide) (backOf (W := 0) (rm2 l Z av0 hw [] q0 h20 n0 Zn20 ) hZ (hw _ (List.mem_of_getElem? (i := 7) rfl)) (hw _ (List.mem_of_getElem? (i := 3) rfl)) (by decide) (by decide)) (g := (mkF m 56 #[.val (.long q0), .second, .val (.long q1), .second, .val (.long q2), .second, .val (.long q3), .second, .val (.int p4), .val (.int (3 : Int32)), .val (.ref b17), .val (.long (own_r1c3 q0 q1 q2 q3)), .second, .unset, .unset, .unset] [(.long q0)])) rfl (by rw [hml]; rfl) (argsL := [(.long q0)]) (rest := []) (lenOf own_pd24 rfl) rfl (by show 2 * 0 + _ ≤ _; exact Nat.le_of_eq rfl) (hb hby at_56) (fun _ _ => ⟨rfl, e21, (by decide : 1 + 0 ≤ _), (by decide : 3 + 0 ≤ _)⟩)
  dsimp only [Pt.U, Pt.locs, Pt.cells, Pt.slots] at X22 lq22 yq22 zq22 st22 hQ22
  subst lq22 yq22 zq22
  obtain ⟨rfl, N22q, e22⟩ := hQ22
  have N22 := Fr.app N21 N22q
  refine own_step st22 ?_
  show own_Run p e below T22 (mkF m 59 #[.val (.long q0), .second, .val (.long q1), .second, .val (.long q2), .second, .val (.long q3), .second, .val (.int p4), .val (.int (3 : Int32)), .val (.ref b17), .val (.long (own_r1c3 q0 q1 q2 q3)), .second, .unset, .unset, .unset] [(.long (own_r2 q0))]) _
  refine own_step (fun t k => XS.lstore X22.here hx rfl (hb hby at_59) rfl (l' := #[.val (.long q0), .second, .val (.long q1), .second, .val (.long q2), .second, .val (.long q3), .second, .val (.int p4), .val (.int (3 : Int32)), .val (.ref b17), .val (.long (own_r1c3 q0 q1 q2 q3)), .second, .val (.long (own_r2 q0)), .second, .unset]) rfl k) ?_
  show own_Run p e below T22 (mkF m 61 #[.val (.long q0), .second, .val (.long q1), .second, .val (.long q2), .second, .val (.long q3), .second, .val (.int p4), .val (.int (3 : Int32)), .val (.ref b17), .val (.long (own_r1c3 q0 q1 q2 q3)), .second, .val (.long (own_r2 q0)), .second, .unset] []) _
  refine own_step (fun t k => XS.iload X22.here hx rfl (hb hby at_61) rfl  k) ?_
  show own_Run p e below T22 (mkF m 63 #[.val (.long q0), .second, .val (.long q1), .second, .val (.long q2), .second, .val (.long q3), .second, .val (.int p4), .val (.int (3 : Int32)), .val (.ref b17), .val (.long (own_r1c3 q0 q1 q2 q3)), .second, .val (.long (own_r2 q0)), .second, .unset] [(.int (3 : Int32))]) _
  refine own_step (fun t k => XS.iconst X22.here hx rfl (hb hby at_63) k) ?_
  show own_Run p e below T22 (mkF m 64 #[.val (.long q0), .second, .val (.long q1), .second, .val (.long q2), .second, .val (.long q3), .second, .val (.int p4), .val (.int (3 : Int32)), .val (.ref b17), .val (.long (own_r1c3 q0 q1 q2 q3)), .second, .val (.long (own_r2 q0)), .second, .unset] [(.int (1 : Int32)), (.int (3 : Int32))]) _
  refine own_step (fun t k => XS.icmpNo X22.here hx rfl (hb hby at_64) rfl (flt (by decide : ¬ ((3 : Int32) < (1 : Int32)))).1 k) ?_
  show own_Run p e below T22 (mkF m 67 #[.val (.long q0), .second, .val (.long q1), .second, .val (.long q2), .second, .val (.long q3), .second, .val (.int p4), .val (.int (3 : Int32)), .val (.ref b17), .val (.long (own_r1c3 q0 q1 q2 q3)), .second, .val (.long (own_r2 q0)), .second, .unset] []) _
  refine own_step (fun t k => XS.lload X22.here hx rfl (hb hby at_67) rfl  k) ?_
  show own_Run p e below T22 (mkF m 69 #[.val (.long q0), .second, .val (.long q1), .second, .val (.long q2), .second, .val (.long q3), .second, .val (.int p4), .val (.int (3 : Int32)), .val (.ref b17), .val (.long (own_r1c3 q0 q1 q2 q3)), .second, .val (.long (own_r2 q0)), .second, .unset] [(.long (own_r2 q0))]) _
  refine own_step (fun t k => XS.lloadN X22.here hx rfl (hb hby at_69) rfl  k) ?_
  show own_Run p e below T22 (mkF m 70 #[.val (.long q0), .second, .val (.long q1), .second, .val (.long q2), .second, .val (.long q3), .second, .val (.int p4), .val (.int (3 : Int32)), .val (.ref b17), .val (.long (own_r1c3 q0 q1 q2 q3)), .second, .val (.long (own_r2 q0)), .second, .unset] [(.long q1), (.long (own_r2 q0))]) _
  obtain ⟨_, _, ⟨T23, L23, kq23, nq23⟩, -, X23, ⟨Lc23, hQ23, lq23, yq23, zq23⟩, st23⟩ := Jvm.LawKit.callS X22 hx (y := (⟨"com/example/surefoot/surefoot/SplitMixDerivePinLaw", "step", "(JJ)J"⟩ : MethodName)) hown (mvT hZ (hw _ (List.mem_of_getElem? (i := 12) rfl))) (mvT hZ (hw _ (List.mem_of_getElem? (i := 13) rfl))) (mvT hZ (hw _ (List.mem_of_getElem? (i := 14) rfl))) (mvT hZ (hw _ (List.mem_of_getElem? (i := 15) rfl))) (by decide) (backOf (W := 0) (rm3 l Z av0 hw [] (own_r2 q0) q1 h20 n0 Zn20 ) hZ (hw _ (List.mem_of_getElem? (i := 15) rfl)) (hw _ (List.mem_of_getElem? (i := 14) rfl)) (by decide) (by decide)) (g := (mkF m 70 #[.val (.long q0), .second, .val (.long q1), .second, .val (.long q2), .second, .val (.long q3), .second, .val (.int p4), .val (.int (3 : Int32)), .val (.ref b17), .val (.long (own_r1c3 q0 q1 q2 q3)), .second, .val (.long (own_r2 q0)), .second, .unset] [(.long q1), (.long (own_r2 q0))])) rfl (by rw [hml]; rfl) (argsL := [(.long (own_r2 q0)), (.long q1)]) (rest := []) (lenOf own_pd67 rfl) rfl (by show 2 * 0 + _ ≤ _; exact Nat.le_of_eq rfl) (hb hby at_70) (fun _ _ => ⟨rfl, e22, (by decide : 1 + 0 ≤ _), (by decide : 3 + 0 ≤ _)⟩)
  dsimp only [Pt.U, Pt.locs, Pt.cells, Pt.slots] at X23 lq23 yq23 zq23 st23 hQ23
  subst lq23 yq23 zq23
  obtain ⟨rfl, N23q, e23⟩ := hQ23
  have N23 := Fr.app N22 N23q
  refine own_step st23 ?_
  show own_Run p e below T23 (mkF m 73 #[.val (.long q0), .second, .val (.long q1), .second, .val (.long q2), .second, .val (.long q3), .second, .val (.int p4), .val (.int (3 : Int32)), .val (.ref b17), .val (.long (own_r1c3 q0 q1 q2 q3)), .second, .val (.long (own_r2 q0)), .second, .unset] [(.long (own_r3 (own_r2 q0) q1))]) _
  refine own_step (fun t k => XS.lstore X23.here hx rfl (hb hby at_73) rfl (l' := #[.val (.long q0), .second, .val (.long q1), .second, .val (.long q2), .second, .val (.long q3), .second, .val (.int p4), .val (.int (3 : Int32)), .val (.ref b17), .val (.long (own_r1c3 q0 q1 q2 q3)), .second, .val (.long (own_r3 (own_r2 q0) q1)), .second, .unset]) rfl k) ?_
  show own_Run p e below T23 (mkF m 75 #[.val (.long q0), .second, .val (.long q1), .second, .val (.long q2), .second, .val (.long q3), .second, .val (.int p4), .val (.int (3 : Int32)), .val (.ref b17), .val (.long (own_r1c3 q0 q1 q2 q3)), .second, .val (.long (own_r3 (own_r2 q0) q1)), .second, .unset] []) _
  refine own_step (fun t k => XS.iload X23.here hx rfl (hb hby at_75) rfl  k) ?_
  show own_Run p e below T23 (mkF m 77 #[.val (.long q0), .second, .val (.long q1), .second, .val (.long q2), .second, .val (.long q3), .second, .val (.int p4), .val (.int (3 : Int32)), .val (.ref b17), .val (.long (own_r1c3 q0 q1 q2 q3)), .second, .val (.long (own_r3 (own_r2 q0) q1)), .second, .unset] [(.int (3 : Int32))]) _
  refine own_step (fun t k => XS.iconst X23.here hx rfl (hb hby at_77) k) ?_
  show own_Run p e below T23 (mkF m 78 #[.val (.long q0), .second, .val (.long q1), .second, .val (.long q2), .second, .val (.long q3), .second, .val (.int p4), .val (.int (3 : Int32)), .val (.ref b17), .val (.long (own_r1c3 q0 q1 q2 q3)), .second, .val (.long (own_r3 (own_r2 q0) q1)), .second, .unset] [(.int (2 : Int32)), (.int (3 : Int32))]) _
  refine own_step (fun t k => XS.icmpNo X23.here hx rfl (hb hby at_78) rfl (flt (by decide : ¬ ((3 : Int32) < (2 : Int32)))).1 k) ?_
  show own_Run p e below T23 (mkF m 81 #[.val (.long q0), .second, .val (.long q1), .second, .val (.long q2), .second, .val (.long q3), .second, .val (.int p4), .val (.int (3 : Int32)), .val (.ref b17), .val (.long (own_r1c3 q0 q1 q2 q3)), .second, .val (.long (own_r3 (own_r2 q0) q1)), .second, .unset] []) _
  refine own_step (fun t k => XS.lload X23.here hx rfl (hb hby at_81) rfl  k) ?_
  show own_Run p e below T23 (mkF m 83 #[.val (.long q0), .second, .val (.long q1), .second, .val (.long q2), .second, .val (.long q3), .second, .val (.int p4), .val (.int (3 : Int32)), .val (.ref b17), .val (.long (own_r1c3 q0 q1 q2 q3)), .second, .val (.long (own_r3 (own_r2 q0) q1)), .second, .unset] [(.long (own_r3 (own_r2 q0) q1))]) _
  refine own_step (fun t k => XS.lload X23.here hx rfl (hb hby at_83) rfl  k) ?_
  show own_Run p e below T23 (mkF m 85 #[.val (.long q0), .second, .val (.long q1), .second, .val (.long q2), .second, .val (.long q3), .second, .val (.int p4), .val (.int (3 : Int32)), .val (.ref b17), .val (.long (own_r1c3 q0 q1 q2 q3)), .second, .val (.long (own_r3 (own_r2 q0) q1)), .second, .unset] [(.long q2), (.long (own_r3 (own_r2 q0) q1))]) _
  obtain ⟨_, _, ⟨T24, L24, kq24, nq24⟩, -, X24, ⟨Lc24, hQ24, lq24, yq24, zq24⟩, st24⟩ := Jvm.LawKit.callS X23 hx (y := (⟨"com/example/surefoot/surefoot/SplitMixDerivePinLaw", "step", "(JJ)J"⟩ : MethodName)) hown (mvT hZ (hw _ (List.mem_of_getElem? (i := 12) rfl))) (mvT hZ (hw _ (List.mem_of_getElem? (i := 13) rfl))) (mvT hZ (hw _ (List.mem_of_getElem? (i := 14) rfl))) (mvT hZ (hw _ (List.mem_of_getElem? (i := 15) rfl))) (by decide) (backOf (W := 0) (rm3 l Z av0 hw [] (own_r3 (own_r2 q0) q1) q2 h20 n0 Zn20 ) hZ (hw _ (List.mem_of_getElem? (i := 15) rfl)) (hw _ (List.mem_of_getElem? (i := 14) rfl)) (by decide) (by decide)) (g := (mkF m 85 #[.val (.long q0), .second, .val (.long q1), .second, .val (.long q2), .second, .val (.long q3), .second, .val (.int p4), .val (.int (3 : Int32)), .val (.ref b17), .val (.long (own_r1c3 q0 q1 q2 q3)), .second, .val (.long (own_r3 (own_r2 q0) q1)), .second, .unset] [(.long q2), (.long (own_r3 (own_r2 q0) q1))])) rfl (by rw [hml]; rfl) (argsL := [(.long (own_r3 (own_r2 q0) q1)), (.long q2)]) (rest := []) (lenOf own_pd67 rfl) rfl (by show 2 * 0 + _ ≤ _; exact Nat.le_of_eq rfl) (hb hby at_85) (fun _ _ => ⟨rfl, e23, (by decide : 1 + 0 ≤ _), (by decide : 3 + 0 ≤ _)⟩)
  dsimp only [Pt.U, Pt.locs, Pt.cells, Pt.slots] at X24 lq24 yq24 zq24 st24 hQ24
  subst lq24 yq24 zq24
  obtain ⟨rfl, N24q, e24⟩ := hQ24
  have N24 := Fr.app N23 N24q
  refine own_step st24 ?_
  show own_Run p e below T24 (mkF m 88 #[.val (.long q0), .second, .val (.long q1), .second, .val (.long q2), .second, .val (.long q3), .second, .val (.int p4), .val (.int (3 : Int32)), .val (.ref b17), .val (.long (own_r1c3 q0 q1 q2 q3)), .second, .val (.long (own_r3 (own_r2 q0) q1)), .second, .unset] [(.long (own_r3 (own_r3 (own_r2 q0) q1) q2))]) _
  refine own_step (fun t k => XS.lstore X24.here hx rfl (hb hby at_88) rfl (l' := #[.val (.long q0), .second, .val (.long q1), .second, .val (.long q2), .second, .val (.long q3), .second, .val (.int p4), .val (.int (3 : Int32)), .val (.ref b17), .val (.long (own_r1c3 q0 q1 q2 q3)), .second, .val (.long (own_f0c3_88 q0 q1 q2)), .second, .unset]) rfl k) ?_
  show own_Run p e below T24 (mkF m 90 #[.val (.long q0), .second, .val (.long q1), .second, .val (.long q2), .second, .val (.long q3), .second, .val (.int p4), .val (.int (3 : Int32)), .val (.ref b17), .val (.long (own_r1c3 q0 q1 q2 q3)), .second, .val (.long (own_f0c3_88 q0 q1 q2)), .second, .unset] []) _
  refine own_step (fun t k => XS.iload X24.here hx rfl (hb hby at_90) rfl  k) ?_
  show own_Run p e below T24 (mkF m 92 #[.val (.long q0), .second, .val (.long q1), .second, .val (.long q2), .second, .val (.long q3), .second, .val (.int p4), .val (.int (3 : Int32)), .val (.ref b17), .val (.long (own_r1c3 q0 q1 q2 q3)), .second, .val (.long (own_f0c3_88 q0 q1 q2)), .second, .unset] [(.int (3 : Int32))]) _
  refine own_step (fun t k => XS.iconst X24.here hx rfl (hb hby at_92) k) ?_
  show own_Run p e below T24 (mkF m 93 #[.val (.long q0), .second, .val (.long q1), .second, .val (.long q2), .second, .val (.long q3), .second, .val (.int p4), .val (.int (3 : Int32)), .val (.ref b17), .val (.long (own_r1c3 q0 q1 q2 q3)), .second, .val (.long (own_f0c3_88 q0 q1 q2)), .second, .unset] [(.int (3 : Int32)), (.int (3 : Int32))]) _
  refine own_step (fun t k => XS.icmpNo X24.here hx rfl (hb hby at_93) rfl (flt (by decide : ¬ ((3 : Int32) < (3 : Int32)))).1 k) ?_
  show own_Run p e below T24 (mkF m 96 #[.val (.long q0), .second, .val (.long q1), .second, .val (.long q2), .second, .val (.long q3), .second, .val (.int p4), .val (.int (3 : Int32)), .val (.ref b17), .val (.long (own_r1c3 q0 q1 q2 q3)), .second, .val (.long (own_f0c3_88 q0 q1 q2)), .second, .unset] []) _
  refine own_step (fun t k => XS.lload X24.here hx rfl (hb hby at_96) rfl  k) ?_
  show own_Run p e below T24 (mkF m 98 #[.val (.long q0), .second, .val (.long q1), .second, .val (.long q2), .second, .val (.long q3), .second, .val (.int p4), .val (.int (3 : Int32)), .val (.ref b17), .val (.long (own_r1c3 q0 q1 q2 q3)), .second, .val (.long (own_f0c3_88 q0 q1 q2)), .second, .unset] [(.long (own_f0c3_88 q0 q1 q2))]) _
  refine own_step (fun t k => XS.lload X24.here hx rfl (hb hby at_98) rfl  k) ?_
  show own_Run p e below T24 (mkF m 100 #[.val (.long q0), .second, .val (.long q1), .second, .val (.long q2), .second, .val (.long q3), .second, .val (.int p4), .val (.int (3 : Int32)), .val (.ref b17), .val (.long (own_r1c3 q0 q1 q2 q3)), .second, .val (.long (own_f0c3_88 q0 q1 q2)), .second, .unset] [(.long q3), (.long (own_f0c3_88 q0 q1 q2))]) _
  obtain ⟨_, _, ⟨T25, L25, kq25, nq25⟩, -, X25, ⟨Lc25, hQ25, lq25, yq25, zq25⟩, st25⟩ := Jvm.LawKit.callS X24 hx (y := (⟨"com/example/surefoot/surefoot/SplitMixDerivePinLaw", "step", "(JJ)J"⟩ : MethodName)) hown (mvT hZ (hw _ (List.mem_of_getElem? (i := 12) rfl))) (mvT hZ (hw _ (List.mem_of_getElem? (i := 13) rfl))) (mvT hZ (hw _ (List.mem_of_getElem? (i := 14) rfl))) (mvT hZ (hw _ (List.mem_of_getElem? (i := 15) rfl))) (by decide) (backOf (W := 0) (rm3 l Z av0 hw [] (own_f0c3_88 q0 q1 q2) q3 h20 n0 Zn20 ) hZ (hw _ (List.mem_of_getElem? (i := 15) rfl)) (hw _ (List.mem_of_getElem? (i := 14) rfl)) (by decide) (by decide)) (g := (mkF m 100 #[.val (.long q0), .second, .val (.long q1), .second, .val (.long q2), .second, .val (.long q3), .second, .val (.int p4), .val (.int (3 : Int32)), .val (.ref b17), .val (.long (own_r1c3 q0 q1 q2 q3)), .second, .val (.long (own_f0c3_88 q0 q1 q2)), .second, .unset] [(.long q3), (.long (own_f0c3_88 q0 q1 q2))])) rfl (by rw [hml]; rfl) (argsL := [(.long (own_f0c3_88 q0 q1 q2)), (.long q3)]) (rest := []) (lenOf own_pd67 rfl) rfl (by show 2 * 0 + _ ≤ _; exact Nat.le_of_eq rfl) (hb hby at_100) (fun _ _ => ⟨rfl, e24, (by decide : 1 + 0 ≤ _), (by decide : 3 + 0 ≤ _)⟩)
  dsimp only [Pt.U, Pt.locs, Pt.cells, Pt.slots] at X25 lq25 yq25 zq25 st25 hQ25
  subst lq25 yq25 zq25
  obtain ⟨rfl, N25q, e25⟩ := hQ25
  have N25 := Fr.app N24 N25q
  refine own_step st25 ?_
  show own_Run p e below T25 (mkF m 103 #[.val (.long q0), .second, .val (.long q1), .second, .val (.long q2), .second, .val (.long q3), .second, .val (.int p4), .val (.int (3 : Int32)), .val (.ref b17), .val (.long (own_r1c3 q0 q1 q2 q3)), .second, .val (.long (own_f0c3_88 q0 q1 q2)), .second, .unset] [(.long (own_r3 (own_f0c3_88 q0 q1 q2) q3))]) _
  refine own_step (fun t k => XS.lstore X25.here hx rfl (hb hby at_103) rfl (l' := #[.val (.long q0), .second, .val (.long q1), .second, .val (.long q2), .second, .val (.long q3), .second, .val (.int p4), .val (.int (3 : Int32)), .val (.ref b17), .val (.long (own_r1c3 q0 q1 q2 q3)), .second, .val (.long (own_f0c3_103 q0 q1 q2 q3)), .second, .unset]) rfl k) ?_
  show own_Run p e below T25 (mkF m 105 #[.val (.long q0), .second, .val (.long q1), .second, .val (.long q2), .second, .val (.long q3), .second, .val (.int p4), .val (.int (3 : Int32)), .val (.ref b17), .val (.long (own_r1c3 q0 q1 q2 q3)), .second, .val (.long (own_f0c3_103 q0 q1 q2 q3)), .second, .unset] []) _
  refine own_step (fun t k => XS.iload X25.here hx rfl (hb hby at_105) rfl  k) ?_
  show own_Run p e below T25 (mkF m 107 #[.val (.long q0), .second, .val (.long q1), .second, .val (.long q2), .second, .val (.long q3), .second, .val (.int p4), .val (.int (3 : Int32)), .val (.ref b17), .val (.long (own_r1c3 q0 q1 q2 q3)), .second, .val (.long (own_f0c3_103 q0 q1 q2 q3)), .second, .unset] [(.int (3 : Int32))]) _
  refine own_step (fun t k => XS.iconst X25.here hx rfl (hb hby at_107) k) ?_
  show own_Run p e below T25 (mkF m 108 #[.val (.long q0), .second, .val (.long q1), .second, .val (.long q2), .second, .val (.long q3), .second, .val (.int p4), .val (.int (3 : Int32)), .val (.ref b17), .val (.long (own_r1c3 q0 q1 q2 q3)), .second, .val (.long (own_f0c3_103 q0 q1 q2 q3)), .second, .unset] [(.int (1 : Int32)), (.int (3 : Int32))]) _
  refine own_step (fun t k => XS.icmpNo X25.here hx rfl (hb hby at_108) rfl (flt (by decide : ¬ ((3 : Int32) < (1 : Int32)))).1 k) ?_
  show own_Run p e below T25 (mkF m 111 #[.val (.long q0), .second, .val (.long q1), .second, .val (.long q2), .second, .val (.long q3), .second, .val (.int p4), .val (.int (3 : Int32)), .val (.ref b17), .val (.long (own_r1c3 q0 q1 q2 q3)), .second, .val (.long (own_f0c3_103 q0 q1 q2 q3)), .second, .unset] []) _
  refine own_step (fun t k => XS.aload X25.here hx rfl (hb hby at_111) rfl rfl k) ?_
  show own_Run p e below T25 (mkF m 113 #[.val (.long q0), .second, .val (.long q1), .second, .val (.long q2), .second, .val (.long q3), .second, .val (.int p4), .val (.int (3 : Int32)), .val (.ref b17), .val (.long (own_r1c3 q0 q1 q2 q3)), .second, .val (.long (own_f0c3_103 q0 q1 q2 q3)), .second, .unset] [(.ref b17)]) _
  refine own_step (fun t k => XS.iconst X25.here hx rfl (hb hby at_113) k) ?_
  show own_Run p e below T25 (mkF m 114 #[.val (.long q0), .second, .val (.long q1), .second, .val (.long q2), .second, .val (.long q3), .second, .val (.int p4), .val (.int (3 : Int32)), .val (.ref b17), .val (.long (own_r1c3 q0 q1 q2 q3)), .second, .val (.long (own_f0c3_103 q0 q1 q2 q3)), .second, .unset] [(.int (0 : Int32)), (.ref b17)]) _
  refine own_step (own_ldJ X25 hx hZ e25 V20x (j := (0 : Int32)) (v := (.long q1)) ⟨by decide, by decide⟩ rfl (g := (mkF m 114 #[.val (.long q0), .second, .val (.long q1), .second, .val (.long q2), .second, .val (.long q3), .second, .val (.int p4), .val (.int (3 : Int32)), .val (.ref b17), .val (.long (own_r1c3 q0 q1 q2 q3)), .second, .val (.long (own_f0c3_103 q0 q1 q2 q3)), .second, .unset] [(.int (0 : Int32)), (.ref b17)])) rfl rfl (hb hby at_114)) ?_
  show own_Run p e below T25 (mkF m 115 #[.val (.long q0), .second, .val (.long q1), .second, .val (.long q2), .second, .val (.long q3), .second, .val (.int p4), .val (.int (3 : Int32)), .val (.ref b17), .val (.long (own_r1c3 q0 q1 q2 q3)), .second, .val (.long (own_f0c3_103 q0 q1 q2 q3)), .second, .unset] [(.long q1)]) _
  refine own_step (fun t k => XS.lloadN X25.here hx rfl (hb hby at_115) rfl  k) ?_
  show own_Run p e below T25 (mkF m 116 #[.val (.long q0), .second, .val (.long q1), .second, .val (.long q2), .second, .val (.long q3), .second, .val (.int p4), .val (.int (3 : Int32)), .val (.ref b17), .val (.long (own_r1c3 q0 q1 q2 q3)), .second, .val (.long (own_f0c3_103 q0 q1 q2 q3)), .second, .unset] [(.long q1), (.long q1)]) _
  refine own_step (fun t k => XS.lcmp X25.here hx rfl (hb hby at_116) rfl k) ?_
  show own_Run p e below T25 (mkF m 117 #[.val (.long q0), .second, .val (.long q1), .second, .val (.long q2), .second, .val (.long q3), .second, .val (.int p4), .val (.int (3 : Int32)), .val (.ref b17), .val (.long (own_r1c3 q0 q1 q2 q3)), .second, .val (.long (own_f0c3_103 q0 q1 q2 q3)), .second, .unset] [(.int (lcmpW q1 q1))]) _
  obtain ⟨_, st26, rfl⟩ : own_Run p e below T25 (mkF m 117 #[.val (.long q0), .second, .val (.long q1), .second, .val (.long q2), .second, .val (.long q3), .second, .val (.int p4), .val (.int (3 : Int32)), .val (.ref b17), .val (.long (own_r1c3 q0 q1 q2 q3)), .second, .val (.long (own_f0c3_103 q0 q1 q2 q3)), .second, .unset] [(.int (lcmpW q1 q1))]) (fun t => t = T25.setTop (mkF m 157 #[.val (.long q0), .second, .val (.long q1), .second, .val (.long q2), .second, .val (.long q3), .second, .val (.int p4), .val (.int (3 : Int32)), .val (.ref b17), .val (.long (own_r1c3 q0 q1 q2 q3)), .second, .val (.long (own_f0c3_103 q0 q1 q2 q3)), .second, .unset] [(.int (own_f0c3_j157_S0 q1 q2 q3))])) := by
    by_cases hc27 : (lcmpW q1 q1) = (0 : Int32)
    · refine own_step (fun t k => XS.ifNo X25.here hx rfl (hb hby at_117) rfl ((if0 _ _).trans (teq hc27).2) k) ?_
      show own_Run p e below T25 (mkF m 120 #[.val (.long q0), .second, .val (.long q1), .second, .val (.long q2), .second, .val (.long q3), .second, .val (.int p4), .val (.int (3 : Int32)), .val (.ref b17), .val (.long (own_r1c3 q0 q1 q2 q3)), .second, .val (.long (own_f0c3_103 q0 q1 q2 q3)), .second, .unset] []) _
      refine own_step (fun t k => XS.iload X25.here hx rfl (hb hby at_120) rfl  k) ?_
      show own_Run p e below T25 (mkF m 122 #[.val (.long q0), .second, .val (.long q1), .second, .val (.long q2), .second, .val (.long q3), .second, .val (.int p4), .val (.int (3 : Int32)), .val (.ref b17), .val (.long (own_r1c3 q0 q1 q2 q3)), .second, .val (.long (own_f0c3_103 q0 q1 q2 q3)), .second, .unset] [(.int (3 : Int32))]) _
      refine own_step (fun t k => XS.iconst X25.here hx rfl (hb hby at_122) k) ?_
      show own_Run p e below T25 (mkF m 123 #[.val (.long q0), .second, .val (.long q1), .second, .val (.long q2), .second, .val (.long q3), .second, .val (.int p4), .val (.int (3 : Int32)), .val (.ref b17), .val (.long (own_r1c3 q0 q1 q2 q3)), .second, .val (.long (own_f0c3_103 q0 q1 q2 q3)), .second, .unset] [(.int (2 : Int32)), (.int (3 : Int32))]) _
      refine own_step (fun t k => XS.icmpNo X25.here hx rfl (hb hby at_123) rfl (flt (by decide : ¬ ((3 : Int32) < (2 : Int32)))).1 k) ?_
      show own_Run p e below T25 (mkF m 126 #[.val (.long q0), .second, .val (.long q1), .second, .val (.long q2), .second, .val (.long q3), .second, .val (.int p4), .val (.int (3 : Int32)), .val (.ref b17), .val (.long (own_r1c3 q0 q1 q2 q3)), .second, .val (.long (own_f0c3_103 q0 q1 q2 q3)), .second, .unset] []) _
      refine own_step (fun t k => XS.aload X25.here hx rfl (hb hby at_126) rfl rfl k) ?_
      show own_Run p e below T25 (mkF m 128 #[.val (.long q0), .second, .val (.long q1), .second, .val (.long q2), .second, .val (.long q3), .second, .val (.int p4), .val (.int (3 : Int32)), .val (.ref b17), .val (.long (own_r1c3 q0 q1 q2 q3)), .second, .val (.long (own_f0c3_103 q0 q1 q2 q3)), .second, .unset] [(.ref b17)]) _
      refine own_step (fun t k => XS.iconst X25.here hx rfl (hb hby at_128) k) ?_
      show own_Run p e below T25 (mkF m 129 #[.val (.long q0), .second, .val (.long q1), .second, .val (.long q2), .second, .val (.long q3), .second, .val (.int p4), .val (.int (3 : Int32)), .val (.ref b17), .val (.long (own_r1c3 q0 q1 q2 q3)), .second, .val (.long (own_f0c3_103 q0 q1 q2 q3)), .second, .unset] [(.int (1 : Int32)), (.ref b17)]) _
      refine own_step (own_ldJ X25 hx hZ e25 V20x (j := (1 : Int32)) (v := (.long q2)) ⟨by decide, by decide⟩ rfl (g := (mkF m 129 #[.val (.long q0), .second, .val (.long q1), .second, .val (.long q2), .second, .val (.long q3), .second, .val (.int p4), .val (.int (3 : Int32)), .val (.ref b17), .val (.long (own_r1c3 q0 q1 q2 q3)), .second, .val (.long (own_f0c3_103 q0 q1 q2 q3)), .second, .unset] [(.int (1 : Int32)), (.ref b17)])) rfl rfl (hb hby at_129)) ?_
      show own_Run p e below T25 (mkF m 130 #[.val (.long q0), .second, .val (.long q1), .second, .val (.long q2), .second, .val (.long q3), .second, .val (.int p4), .val (.int (3 : Int32)), .val (.ref b17), .val (.long (own_r1c3 q0 q1 q2 q3)), .second, .val (.long (own_f0c3_103 q0 q1 q2 q3)), .second, .unset] [(.long q2)]) _
      refine own_step (fun t k => XS.lload X25.here hx rfl (hb hby at_130) rfl  k) ?_
      show own_Run p e below T25 (mkF m 132 #[.val (.long q0), .second, .val (.long q1), .second, .val (.long q2), .second, .val (.long q3), .second, .val (.int p4), .val (.int (3 : Int32)), .val (.ref b17), .val (.long (own_r1c3 q0 q1 q2 q3)), .second, .val (.long (own_f0c3_103 q0 q1 q2 q3)), .second, .unset] [(.long q2), (.long q2)]) _
      refine own_step (fun t k => XS.lcmp X25.here hx rfl (hb hby at_132) rfl k) ?_
      show own_Run p e below T25 (mkF m 133 #[.val (.long q0), .second, .val (.long q1), .second, .val (.long q2), .second, .val (.long q3), .second, .val (.int p4), .val (.int (3 : Int32)), .val (.ref b17), .val (.long (own_r1c3 q0 q1 q2 q3)), .second, .val (.long (own_f0c3_103 q0 q1 q2 q3)), .second, .unset] [(.int (lcmpW q2 q2))]) _
      by_cases hc28 : (lcmpW q2 q2) = (0 : Int32)
      · refine own_step (fun t k => XS.ifNo X25.here hx rfl (hb hby at_133) rfl ((if0 _ _).trans (teq hc28).2) k) ?_
        show own_Run p e below T25 (mkF m 136 #[.val (.long q0), .second, .val (.long q1), .second, .val (.long q2), .second, .val (.long q3), .second, .val (.int p4), .val (.int (3 : Int32)), .val (.ref b17), .val (.long (own_r1c3 q0 q1 q2 q3)), .second, .val (.long (own_f0c3_103 q0 q1 q2 q3)), .second, .unset] []) _
        refine own_step (fun t k => XS.iload X25.here hx rfl (hb hby at_136) rfl  k) ?_
        show own_Run p e below T25 (mkF m 138 #[.val (.long q0), .second, .val (.long q1), .second, .val (.long q2), .second, .val (.long q3), .second, .val (.int p4), .val (.int (3 : Int32)), .val (.ref b17), .val (.long (own_r1c3 q0 q1 q2 q3)), .second, .val (.long (own_f0c3_103 q0 q1 q2 q3)), .second, .unset] [(.int (3 : Int32))]) _
        refine own_step (fun t k => XS.iconst X25.here hx rfl (hb hby at_138) k) ?_
        show own_Run p e below T25 (mkF m 139 #[.val (.long q0), .second, .val (.long q1), .second, .val (.long q2), .second, .val (.long q3), .second, .val (.int p4), .val (.int (3 : Int32)), .val (.ref b17), .val (.long (own_r1c3 q0 q1 q2 q3)), .second, .val (.long (own_f0c3_103 q0 q1 q2 q3)), .second, .unset] [(.int (3 : Int32)), (.int (3 : Int32))]) _
        refine own_step (fun t k => XS.icmpNo X25.here hx rfl (hb hby at_139) rfl (flt (by decide : ¬ ((3 : Int32) < (3 : Int32)))).1 k) ?_
        show own_Run p e below T25 (mkF m 142 #[.val (.long q0), .second, .val (.long q1), .second, .val (.long q2), .second, .val (.long q3), .second, .val (.int p4), .val (.int (3 : Int32)), .val (.ref b17), .val (.long (own_r1c3 q0 q1 q2 q3)), .second, .val (.long (own_f0c3_103 q0 q1 q2 q3)), .second, .unset] []) _
        refine own_step (fun t k => XS.aload X25.here hx rfl (hb hby at_142) rfl rfl k) ?_
        show own_Run p e below T25 (mkF m 144 #[.val (.long q0), .second, .val (.long q1), .second, .val (.long q2), .second, .val (.long q3), .second, .val (.int p4), .val (.int (3 : Int32)), .val (.ref b17), .val (.long (own_r1c3 q0 q1 q2 q3)), .second, .val (.long (own_f0c3_103 q0 q1 q2 q3)), .second, .unset] [(.ref b17)]) _
        refine own_step (fun t k => XS.iconst X25.here hx rfl (hb hby at_144) k) ?_
        show own_Run p e below T25 (mkF m 145 #[.val (.long q0), .second, .val (.long q1), .second, .val (.long q2), .second, .val (.long q3), .second, .val (.int p4), .val (.int (3 : Int32)), .val (.ref b17), .val (.long (own_r1c3 q0 q1 q2 q3)), .second, .val (.long (own_f0c3_103 q0 q1 q2 q3)), .second, .unset] [(.int (2 : Int32)), (.ref b17)]) _
        refine own_step (own_ldJ X25 hx hZ e25 V20x (j := (2 : Int32)) (v := (.long q3)) ⟨by decide, by decide⟩ rfl (g := (mkF m 145 #[.val (.long q0), .second, .val (.long q1), .second, .val (.long q2), .second, .val (.long q3), .second, .val (.int p4), .val (.int (3 : Int32)), .val (.ref b17), .val (.long (own_r1c3 q0 q1 q2 q3)), .second, .val (.long (own_f0c3_103 q0 q1 q2 q3)), .second, .unset] [(.int (2 : Int32)), (.ref b17)])) rfl rfl (hb hby at_145)) ?_
        show own_Run p e below T25 (mkF m 146 #[.val (.long q0), .second, .val (.long q1), .second, .val (.long q2), .second, .val (.long q3), .second, .val (.int p4), .val (.int (3 : Int32)), .val (.ref b17), .val (.long (own_r1c3 q0 q1 q2 q3)), .second, .val (.long (own_f0c3_103 q0 q1 q2 q3)), .second, .unset] [(.long q3)]) _
        refine own_step (fun t k => XS.lload X25.here hx rfl (hb hby at_146) rfl  k) ?_
        show own_Run p e below T25 (mkF m 148 #[.val (.long q0), .second, .val (.long q1), .second, .val (.long q2), .second, .val (.long q3), .second, .val (.int p4), .val (.int (3 : Int32)), .val (.ref b17), .val (.long (own_r1c3 q0 q1 q2 q3)), .second, .val (.long (own_f0c3_103 q0 q1 q2 q3)), .second, .unset] [(.long q3), (.long q3)]) _
        refine own_step (fun t k => XS.lcmp X25.here hx rfl (hb hby at_148) rfl k) ?_
        show own_Run p e below T25 (mkF m 149 #[.val (.long q0), .second, .val (.long q1), .second, .val (.long q2), .second, .val (.long q3), .second, .val (.int p4), .val (.int (3 : Int32)), .val (.ref b17), .val (.long (own_r1c3 q0 q1 q2 q3)), .second, .val (.long (own_f0c3_103 q0 q1 q2 q3)), .second, .unset] [(.int (lcmpW q3 q3))]) _
        by_cases hc29 : (lcmpW q3 q3) = (0 : Int32)
        · refine own_step (fun t k => XS.ifNo X25.here hx rfl (hb hby at_149) rfl ((if0 _ _).trans (teq hc29).2) k) ?_
          show own_Run p e below T25 (mkF m 152 #[.val (.long q0), .second, .val (.long q1), .second, .val (.long q2), .second, .val (.long q3), .second, .val (.int p4), .val (.int (3 : Int32)), .val (.ref b17), .val (.long (own_r1c3 q0 q1 q2 q3)), .second, .val (.long (own_f0c3_103 q0 q1 q2 q3)), .second, .unset] []) _
          refine own_step (fun t k => XS.iconst X25.here hx rfl (hb hby at_152) k) ?_
          show own_Run p e below T25 (mkF m 153 #[.val (.long q0), .second, .val (.long q1), .second, .val (.long q2), .second, .val (.long q3), .second, .val (.int p4), .val (.int (3 : Int32)), .val (.ref b17), .val (.long (own_r1c3 q0 q1 q2 q3)), .second, .val (.long (own_f0c3_103 q0 q1 q2 q3)), .second, .unset] [(.int (1 : Int32))]) _
          refine own_step (fun t k => XS.goto X25.here hx rfl (pc0 := 153) (pc' := 157) rfl (hb hby at_153) (by decide) (by decide) k) ?_
          show own_Run p e below T25 (mkF m 157 #[.val (.long q0), .second, .val (.long q1), .second, .val (.long q2), .second, .val (.long q3), .second, .val (.int p4), .val (.int (3 : Int32)), .val (.ref b17), .val (.long (own_r1c3 q0 q1 q2 q3)), .second, .val (.long (own_f0c3_103 q0 q1 q2 q3)), .second, .unset] [(.int (1 : Int32))]) _
          have hj0 : (own_f0c3_j157_S0 q1 q2 q3) = (1 : Int32) := ((if_pos hc27).trans ((if_pos hc28).trans (if_pos hc29)))
          exact own_here (by rw [hj0])
        · refine own_step (fun t k => XS.ifYes X25.here hx rfl (pc0 := 149) (pc' := 156) rfl (hb hby at_149) rfl ((if0 _ _).trans (feq hc29).2) (by decide) (by decide) k) ?_
          show own_Run p e below T25 (mkF m 156 #[.val (.long q0), .second, .val (.long q1), .second, .val (.long q2), .second, .val (.long q3), .second, .val (.int p4), .val (.int (3 : Int32)), .val (.ref b17), .val (.long (own_r1c3 q0 q1 q2 q3)), .second, .val (.long (own_f0c3_103 q0 q1 q2 q3)), .second, .unset] []) _
          refine own_step (fun t k => XS.iconst X25.here hx rfl (hb hby at_156) k) ?_
          show own_Run p e below T25 (mkF m 157 #[.val (.long q0), .second, .val (.long q1), .second, .val (.long q2), .second, .val (.long q3), .second, .val (.int p4), .val (.int (3 : Int32)), .val (.ref b17), .val (.long (own_r1c3 q0 q1 q2 q3)), .second, .val (.long (own_f0c3_103 q0 q1 q2 q3)), .second, .unset] [(.int (0 : Int32))]) _
          have hj0 : (own_f0c3_j157_S0 q1 q2 q3) = (0 : Int32) := ((if_pos hc27).trans ((if_pos hc28).trans (if_neg hc29)))
          exact own_here (by rw [hj0])
      · refine own_step (fun t k => XS.ifYes X25.here hx rfl (pc0 := 133) (pc' := 156) rfl (hb hby at_133) rfl ((if0 _ _).trans (feq hc28).2) (by decide) (by decide) k) ?_
        show own_Run p e below T25 (mkF m 156 #[.val (.long q0), .second, .val (.long q1), .second, .val (.long q2), .second, .val (.long q3), .second, .val (.int p4), .val (.int (3 : Int32)), .val (.ref b17), .val (.long (own_r1c3 q0 q1 q2 q3)), .second, .val (.long (own_f0c3_103 q0 q1 q2 q3)), .second, .unset] []) _
        refine own_step (fun t k => XS.iconst X25.here hx rfl (hb hby at_156) k) ?_
        show own_Run p e below T25 (mkF m 157 #[.val (.long q0), .second, .val (.long q1), .second, .val (.long q2), .second, .val (.long q3), .second, .val (.int p4), .val (.int (3 : Int32)), .val (.ref b17), .val (.long (own_r1c3 q0 q1 q2 q3)), .second, .val (.long (own_f0c3_103 q0 q1 q2 q3)), .second, .unset] [(.int (0 : Int32))]) _
        have hj0 : (own_f0c3_j157_S0 q1 q2 q3) = (0 : Int32) := ((if_pos hc27).trans (if_neg hc28))
        exact own_here (by rw [hj0])
    · refine own_step (fun t k => XS.ifYes X25.here hx rfl (pc0 := 117) (pc' := 156) rfl (hb hby at_117) rfl ((if0 _ _).trans (feq hc27).2) (by decide) (by decide) k) ?_
      show own_Run p e below T25 (mkF m 156 #[.val (.long q0), .second, .val (.long q1), .second, .val (.long q2), .second, .val (.long q3), .second, .val (.int p4), .val (.int (3 : Int32)), .val (.ref b17), .val (.long (own_r1c3 q0 q1 q2 q3)), .second, .val (.long (own_f0c3_103 q0 q1 q2 q3)), .second, .unset] []) _
      refine own_step (fun t k => XS.iconst X25.here hx rfl (hb hby at_156) k) ?_
      show own_Run p e below T25 (mkF m 157 #[.val (.long q0), .second, .val (.long q1), .second, .val (.long q2), .second, .val (.long q3), .second, .val (.int p4), .val (.int (3 : Int32)), .val (.ref b17), .val (.long (own_r1c3 q0 q1 q2 q3)), .second, .val (.long (own_f0c3_103 q0 q1 q2 q3)), .second, .unset] [(.int (0 : Int32))]) _
      have hj0 : (own_f0c3_j157_S0 q1 q2 q3) = (0 : Int32) := (if_neg hc27)
      exact own_here (by rw [hj0])
  refine own_tr st26 ?_
  show own_Run p e below T25 (mkF m 157 #[.val (.long q0), .second, .val (.long q1), .second, .val (.long q2), .second, .val (.long q3), .second, .val (.int p4), .val (.int (3 : Int32)), .val (.ref b17), .val (.long (own_r1c3 q0 q1 q2 q3)), .second, .val (.long (own_f0c3_103 q0 q1 q2 q3)), .second, .unset] [(.int (own_f0c3_j157_S0 q1 q2 q3))]) _
  refine own_step (fun t k => XS.istore X25.here hx rfl (hb hby at_157) rfl (l' := #[.val (.long q0), .second, .val (.long q1), .second, .val (.long q2), .second, .val (.long q3), .second, .val (.int p4), .val (.int (3 : Int32)), .val (.ref b17), .val (.long (own_r1c3 q0 q1 q2 q3)), .second, .val (.long (own_f0c3_103 q0 q1 q2 q3)), .second, .val (.int (own_f0c3_157 q1 q2 q3))]) rfl k) ?_
  show own_Run p e below T25 (mkF m 159 #[.val (.long q0), .second, .val (.long q1), .second, .val (.long q2), .second, .val (.long q3), .second, .val (.int p4), .val (.int (3 : Int32)), .val (.ref b17), .val (.long (own_r1c3 q0 q1 q2 q3)), .second, .val (.long (own_f0c3_103 q0 q1 q2 q3)), .second, .val (.int (own_f0c3_157 q1 q2 q3))] []) _
  refine own_step (fun t k => XS.lload X25.here hx rfl (hb hby at_159) rfl  k) ?_
  show own_Run p e below T25 (mkF m 161 #[.val (.long q0), .second, .val (.long q1), .second, .val (.long q2), .second, .val (.long q3), .second, .val (.int p4), .val (.int (3 : Int32)), .val (.ref b17), .val (.long (own_r1c3 q0 q1 q2 q3)), .second, .val (.long (own_f0c3_103 q0 q1 q2 q3)), .second, .val (.int (own_f0c3_157 q1 q2 q3))] [(.long (own_r1c3 q0 q1 q2 q3))]) _
  refine own_step (fun t k => XS.lload X25.here hx rfl (hb hby at_161) rfl  k) ?_
  show own_Run p e below T25 (mkF m 163 #[.val (.long q0), .second, .val (.long q1), .second, .val (.long q2), .second, .val (.long q3), .second, .val (.int p4), .val (.int (3 : Int32)), .val (.ref b17), .val (.long (own_r1c3 q0 q1 q2 q3)), .second, .val (.long (own_f0c3_103 q0 q1 q2 q3)), .second, .val (.int (own_f0c3_157 q1 q2 q3))] [(.long (own_f0c3_103 q0 q1 q2 q3)), (.long (own_r1c3 q0 q1 q2 q3))]) _
  refine own_step (fun t k => XS.lcmp X25.here hx rfl (hb hby at_163) rfl k) ?_
  show own_Run p e below T25 (mkF m 164 #[.val (.long q0), .second, .val (.long q1), .second, .val (.long q2), .second, .val (.long q3), .second, .val (.int p4), .val (.int (3 : Int32)), .val (.ref b17), .val (.long (own_r1c3 q0 q1 q2 q3)), .second, .val (.long (own_f0c3_103 q0 q1 q2 q3)), .second, .val (.int (own_f0c3_157 q1 q2 q3))] [(.int (lcmpW (own_r1c3 q0 q1 q2 q3) (own_f0c3_103 q0 q1 q2 q3)))]) _
  obtain ⟨_, st30, rfl⟩ : own_Run p e below T25 (mkF m 164 #[.val (.long q0), .second, .val (.long q1), .second, .val (.long q2), .second, .val (.long q3), .second, .val (.int p4), .val (.int (3 : Int32)), .val (.ref b17), .val (.long (own_r1c3 q0 q1 q2 q3)), .second, .val (.long (own_f0c3_103 q0 q1 q2 q3)), .second, .val (.int (own_f0c3_157 q1 q2 q3))] [(.int (lcmpW (own_r1c3 q0 q1 q2 q3) (own_f0c3_103 q0 q1 q2 q3)))]) (fun t => t = T25.setTop (mkF m 185 #[.val (.long q0), .second, .val (.long q1), .second, .val (.long q2), .second, .val (.long q3), .second, .val (.int p4), .val (.int (3 : Int32)), .val (.ref b17), .val (.long (own_r1c3 q0 q1 q2 q3)), .second, .val (.long (own_f0c3_103 q0 q1 q2 q3)), .second, .val (.int (own_f0c3_157 q1 q2 q3))] [(.int (own_f0c3_j185_S0 q0 q1 q2 q3))])) := by
    by_cases hc31 : (lcmpW (own_r1c3 q0 q1 q2 q3) (own_f0c3_103 q0 q1 q2 q3)) = (0 : Int32)
    · refine own_step (fun t k => XS.ifNo X25.here hx rfl (hb hby at_164) rfl ((if0 _ _).trans (teq hc31).2) k) ?_
      show own_Run p e below T25 (mkF m 167 #[.val (.long q0), .second, .val (.long q1), .second, .val (.long q2), .second, .val (.long q3), .second, .val (.int p4), .val (.int (3 : Int32)), .val (.ref b17), .val (.long (own_r1c3 q0 q1 q2 q3)), .second, .val (.long (own_f0c3_103 q0 q1 q2 q3)), .second, .val (.int (own_f0c3_157 q1 q2 q3))] []) _
      refine own_step (fun t k => XS.iload X25.here hx rfl (hb hby at_167) rfl  k) ?_
      show own_Run p e below T25 (mkF m 169 #[.val (.long q0), .second, .val (.long q1), .second, .val (.long q2), .second, .val (.long q3), .second, .val (.int p4), .val (.int (3 : Int32)), .val (.ref b17), .val (.long (own_r1c3 q0 q1 q2 q3)), .second, .val (.long (own_f0c3_103 q0 q1 q2 q3)), .second, .val (.int (own_f0c3_157 q1 q2 q3))] [(.int (own_f0c3_157 q1 q2 q3))]) _
      by_cases hc32 : (own_f0c3_157 q1 q2 q3) = (0 : Int32)
      · refine own_step (fun t k => XS.ifYes X25.here hx rfl (pc0 := 169) (pc' := 184) rfl (hb hby at_169) rfl ((if0 _ _).trans (teq hc32).1) (by decide) (by decide) k) ?_
        show own_Run p e below T25 (mkF m 184 #[.val (.long q0), .second, .val (.long q1), .second, .val (.long q2), .second, .val (.long q3), .second, .val (.int p4), .val (.int (3 : Int32)), .val (.ref b17), .val (.long (own_r1c3 q0 q1 q2 q3)), .second, .val (.long (own_f0c3_103 q0 q1 q2 q3)), .second, .val (.int (own_f0c3_157 q1 q2 q3))] []) _
        refine own_step (fun t k => XS.iconst X25.here hx rfl (hb hby at_184) k) ?_
        show own_Run p e below T25 (mkF m 185 #[.val (.long q0), .second, .val (.long q1), .second, .val (.long q2), .second, .val (.long q3), .second, .val (.int p4), .val (.int (3 : Int32)), .val (.ref b17), .val (.long (own_r1c3 q0 q1 q2 q3)), .second, .val (.long (own_f0c3_103 q0 q1 q2 q3)), .second, .val (.int (own_f0c3_157 q1 q2 q3))] [(.int (0 : Int32))]) _
        have hj0 : (own_f0c3_j185_S0 q0 q1 q2 q3) = (0 : Int32) := ((if_pos hc31).trans (if_pos hc32))
        exact own_here (by rw [hj0])
      · refine own_step (fun t k => XS.ifNo X25.here hx rfl (hb hby at_169) rfl ((if0 _ _).trans (feq hc32).1) k) ?_
        show own_Run p e below T25 (mkF m 172 #[.val (.long q0), .second, .val (.long q1), .second, .val (.long q2), .second, .val (.long q3), .second, .val (.int p4), .val (.int (3 : Int32)), .val (.ref b17), .val (.long (own_r1c3 q0 q1 q2 q3)), .second, .val (.long (own_f0c3_103 q0 q1 q2 q3)), .second, .val (.int (own_f0c3_157 q1 q2 q3))] []) _
        refine own_step (fun t k => XS.aload X25.here hx rfl (hb hby at_172) rfl rfl k) ?_
        show own_Run p e below T25 (mkF m 174 #[.val (.long q0), .second, .val (.long q1), .second, .val (.long q2), .second, .val (.long q3), .second, .val (.int p4), .val (.int (3 : Int32)), .val (.ref b17), .val (.long (own_r1c3 q0 q1 q2 q3)), .second, .val (.long (own_f0c3_103 q0 q1 q2 q3)), .second, .val (.int (own_f0c3_157 q1 q2 q3))] [(.ref b17)]) _
        refine own_step (own_len X25 hx hZ e25 V20x (g := (mkF m 174 #[.val (.long q0), .second, .val (.long q1), .second, .val (.long q2), .second, .val (.long q3), .second, .val (.int p4), .val (.int (3 : Int32)), .val (.ref b17), .val (.long (own_r1c3 q0 q1 q2 q3)), .second, .val (.long (own_f0c3_103 q0 q1 q2 q3)), .second, .val (.int (own_f0c3_157 q1 q2 q3))] [(.ref b17)])) rfl rfl (hb hby at_174)) ?_
        show own_Run p e below T25 (mkF m 175 #[.val (.long q0), .second, .val (.long q1), .second, .val (.long q2), .second, .val (.long q3), .second, .val (.int p4), .val (.int (3 : Int32)), .val (.ref b17), .val (.long (own_r1c3 q0 q1 q2 q3)), .second, .val (.long (own_f0c3_103 q0 q1 q2 q3)), .second, .val (.int (own_f0c3_157 q1 q2 q3))] [(.int (3 : Int32))]) _
        refine own_step (fun t k => XS.iload X25.here hx rfl (hb hby at_175) rfl  k) ?_
        show own_Run p e below T25 (mkF m 177 #[.val (.long q0), .second, .val (.long q1), .second, .val (.long q2), .second, .val (.long q3), .second, .val (.int p4), .val (.int (3 : Int32)), .val (.ref b17), .val (.long (own_r1c3 q0 q1 q2 q3)), .second, .val (.long (own_f0c3_103 q0 q1 q2 q3)), .second, .val (.int (own_f0c3_157 q1 q2 q3))] [(.int (3 : Int32)), (.int (3 : Int32))]) _
        refine own_step (fun t k => XS.icmpNo X25.here hx rfl (hb hby at_177) rfl (teq (rfl : (3 : Int32) = (3 : Int32))).2 k) ?_
        show own_Run p e below T25 (mkF m 180 #[.val (.long q0), .second, .val (.long q1), .second, .val (.long q2), .second, .val (.long q3), .second, .val (.int p4), .val (.int (3 : Int32)), .val (.ref b17), .val (.long (own_r1c3 q0 q1 q2 q3)), .second, .val (.long (own_f0c3_103 q0 q1 q2 q3)), .second, .val (.int (own_f0c3_157 q1 q2 q3))] []) _
        refine own_step (fun t k => XS.iconst X25.here hx rfl (hb hby at_180) k) ?_
        show own_Run p e below T25 (mkF m 181 #[.val (.long q0), .second, .val (.long q1), .second, .val (.long q2), .second, .val (.long q3), .second, .val (.int p4), .val (.int (3 : Int32)), .val (.ref b17), .val (.long (own_r1c3 q0 q1 q2 q3)), .second, .val (.long (own_f0c3_103 q0 q1 q2 q3)), .second, .val (.int (own_f0c3_157 q1 q2 q3))] [(.int (1 : Int32))]) _
        refine own_step (fun t k => XS.goto X25.here hx rfl (pc0 := 181) (pc' := 185) rfl (hb hby at_181) (by decide) (by decide) k) ?_
        show own_Run p e below T25 (mkF m 185 #[.val (.long q0), .second, .val (.long q1), .second, .val (.long q2), .second, .val (.long q3), .second, .val (.int p4), .val (.int (3 : Int32)), .val (.ref b17), .val (.long (own_r1c3 q0 q1 q2 q3)), .second, .val (.long (own_f0c3_103 q0 q1 q2 q3)), .second, .val (.int (own_f0c3_157 q1 q2 q3))] [(.int (1 : Int32))]) _
        have hj0 : (own_f0c3_j185_S0 q0 q1 q2 q3) = (1 : Int32) := ((if_pos hc31).trans (if_neg hc32))
        exact own_here (by rw [hj0])
    · refine own_step (fun t k => XS.ifYes X25.here hx rfl (pc0 := 164) (pc' := 184) rfl (hb hby at_164) rfl ((if0 _ _).trans (feq hc31).2) (by decide) (by decide) k) ?_
      show own_Run p e below T25 (mkF m 184 #[.val (.long q0), .second, .val (.long q1), .second, .val (.long q2), .second, .val (.long q3), .second, .val (.int p4), .val (.int (3 : Int32)), .val (.ref b17), .val (.long (own_r1c3 q0 q1 q2 q3)), .second, .val (.long (own_f0c3_103 q0 q1 q2 q3)), .second, .val (.int (own_f0c3_157 q1 q2 q3))] []) _
      refine own_step (fun t k => XS.iconst X25.here hx rfl (hb hby at_184) k) ?_
      show own_Run p e below T25 (mkF m 185 #[.val (.long q0), .second, .val (.long q1), .second, .val (.long q2), .second, .val (.long q3), .second, .val (.int p4), .val (.int (3 : Int32)), .val (.ref b17), .val (.long (own_r1c3 q0 q1 q2 q3)), .second, .val (.long (own_f0c3_103 q0 q1 q2 q3)), .second, .val (.int (own_f0c3_157 q1 q2 q3))] [(.int (0 : Int32))]) _
      have hj0 : (own_f0c3_j185_S0 q0 q1 q2 q3) = (0 : Int32) := (if_neg hc31)
      exact own_here (by rw [hj0])
  refine own_tr st30 ?_
  show own_Run p e below T25 (mkF m 185 #[.val (.long q0), .second, .val (.long q1), .second, .val (.long q2), .second, .val (.long q3), .second, .val (.int p4), .val (.int (3 : Int32)), .val (.ref b17), .val (.long (own_r1c3 q0 q1 q2 q3)), .second, .val (.long (own_f0c3_103 q0 q1 q2 q3)), .second, .val (.int (own_f0c3_157 q1 q2 q3))] [(.int (own_f0c3_j185_S0 q0 q1 q2 q3))]) _
  exact own_retZ X25 hx hlk hret (hb hby at_185) (by decide) (by decide) N25 trivial
theorem own_four (x : Int32) : (x &&& (3 : Int32)) = (0 : Int32) ∨ (x &&& (3 : Int32)) = (1 : Int32) ∨ (x &&& (3 : Int32)) = (2 : Int32) ∨ (x &&& (3 : Int32)) = (3 : Int32) := by
  have h : (x &&& (3 : Int32)).toInt = x.toInt % 2 ^ 2 := Jvm.Kit.i32_mask x 3 (k := 2) (by decide) (by decide)
  have q : x.toInt % 2 ^ 2 = 0 ∨ x.toInt % 2 ^ 2 = 1 ∨ x.toInt % 2 ^ 2 = 2 ∨ x.toInt % 2 ^ 2 = 3 := by omega
  rcases q with q | q | q | q
  · exact Or.inl (Int32.toInt_inj.mp (by rw [h, q]; rfl))
  · exact Or.inr (Or.inl (Int32.toInt_inj.mp (by rw [h, q]; rfl)))
  · exact Or.inr (Or.inr (Or.inl (Int32.toInt_inj.mp (by rw [h, q]; rfl))))
  · exact Or.inr (Or.inr (Or.inr (Int32.toInt_inj.mp (by rw [h, q]; rfl))))
theorem own_plain0 (q0 q1 q2 q3 : Int64) (p4 : Int32) : own_r0c0 q0 q1 q2 q3 p4 = 1 := by
  have e : own_r1c0 q0 = own_r2 q0 := rfl
  unfold own_r0c0 own_f0c0_j185_S0; rw [if_pos ((lw_eq _ _).mpr e)]; rfl
theorem own_plain1 (q0 q1 q2 q3 : Int64) (p4 : Int32) : own_r0c1 q0 q1 q2 q3 p4 = 1 := by
  have b : own_f0c1_j157_S0 q1 = 1 := if_pos ((lw_eq _ _).mpr rfl)
  have e : own_r1c1 q0 q1 = own_r3 (own_r2 q0) q1 := rfl
  unfold own_r0c1 own_f0c1_j185_S0; rw [if_pos ((lw_eq _ _).mpr e), b]; rfl
theorem own_plain2 (q0 q1 q2 q3 : Int64) (p4 : Int32) : own_r0c2 q0 q1 q2 q3 p4 = 1 := by
  have b : own_f0c2_157 q1 q2 = 1 := by unfold own_f0c2_157 own_f0c2_j157_S0; rw [if_pos ((lw_eq _ _).mpr rfl), if_pos ((lw_eq _ _).mpr rfl)]
  have e : own_r1c2 q0 q1 q2 = own_f0c2_88 q0 q1 q2 := rfl
  unfold own_r0c2 own_f0c2_j185_S0; rw [if_pos ((lw_eq _ _).mpr e), b]; rfl
theorem own_plain3 (q0 q1 q2 q3 : Int64) (p4 : Int32) : own_r0c3 q0 q1 q2 q3 p4 = 1 := by
  have b : own_f0c3_157 q1 q2 q3 = 1 := by unfold own_f0c3_157 own_f0c3_j157_S0; rw [if_pos ((lw_eq _ _).mpr rfl), if_pos ((lw_eq _ _).mpr rfl), if_pos ((lw_eq _ _).mpr rfl)]
  have e : own_r1c3 q0 q1 q2 q3 = own_f0c3_103 q0 q1 q2 q3 := rfl
  unfold own_r0c3 own_f0c3_j185_S0; rw [if_pos ((lw_eq _ _).mpr e), b]; rfl

set_option maxRecDepth 65536 in
set_option maxHeartbeats 40000000 in
theorem own_comes {Post : Tables → Env → Array Value → State → Outcome → State → Prop} (hpost : ∀ tb e args s v u, (limb_1_1.after args s (.returned v) u = true ∧ limb_1_2.after args s (.returned v) u = true ∧ True) → FrameEnd s (.returned v) u (Jvm.fieldLocs frame_1_writes args s ++ Jvm.arrayLocs frame_1_arrays args s ++ Jvm.staticLocs frame_1_statics s) 16 128 → Post tb e args s (.returned v) u) :
    ArmFor flags0 classFile x code maxLocals ret World_1 tables_1 room_1 Calls_1 rest_1 Pre_1 Post := by
  intro l hfl _ _ p e ha hc hk s m args below hf hA hF happ hP
  obtain ⟨hcalls, hrest, hpre⟩ := hP
  obtain ⟨-, -, -, hnamed, -, -, -, hat⟩ := (Spec.applies_iff hf).mp happ
  obtain ⟨hg, hn⟩ := and_e (Cond.before_iff.mp (show (Jvm.Cond.and given_1 narrow_1).before args s = true from hpre))
  obtain ⟨gc, g0⟩ := and_e hg
  obtain ⟨v0, g1⟩ := and_e g0
  obtain ⟨v1, g2⟩ := and_e g1
  obtain ⟨v2, g3⟩ := and_e g2
  obtain ⟨v3, g4⟩ := and_e g3
  obtain ⟨w0, w1, w2, w3, w4, rfl⟩ : ∃ w0 w1 w2 w3 w4 : Value, args = #[w0, w1, w2, w3, w4] := by
    have hs : args.size = 5 := by simpa [Cond.value, given_1] using gc
    obtain ⟨L⟩ := args
    match L, hs with
    | [w0, w1, w2, w3, w4], _ => exact ⟨w0, w1, w2, w3, w4, rfl⟩
  have hw := fun d (hd : d ∈ tables_1) => atoms_spec (ws := Jvm.Cond.code x code maxLocals ret :: tables_1) hat d (List.mem_cons_of_mem _ hd)
  obtain ⟨i0, ei0⟩ := isL_v v0
  obtain rfl : w0 = (.long i0) := Option.some.inj ei0
  obtain ⟨i1, ei1⟩ := isL_v v1
  obtain rfl : w1 = (.long i1) := Option.some.inj ei1
  obtain ⟨i2, ei2⟩ := isL_v v2
  obtain rfl : w2 = (.long i2) := Option.some.inj ei2
  obtain ⟨i3, ei3⟩ := isL_v v3
  obtain rfl : w3 = (.long i3) := Option.some.inj ei3
  obtain ⟨i4, ei4⟩ := is_v g4
  obtain rfl : w4 = (.int i4) := Option.some.inj ei4
  rcases own_four i4 with hcase | hcase | hcase | hcase
  · obtain ⟨n, o, h1, h2, h3, _, L, rfl, ⟨rfl, N, -⟩, hq⟩ := rm0c0 l s _ hw tables_1 i0 i1 i2 i3 i4  s.heap s.heap.size (Nat.le_refl _) hcase p e ha hc hk s m _ below hf ((Spec.applies_iff_loose hf).mp happ).1 ⟨rfl, State.Warmed39.refl s, rfl⟩ trivial
    have hv : own_r0c0 i0 i1 i2 i3 i4 = 1 := own_plain0 i0 i1 i2 i3 i4
    refine ⟨n, _, h1, h2, h3, hpost _ _ _ _ _ _ ⟨Cond.after_iff.mpr rfl, Cond.after_iff.mpr (eq_i res_at (Term.int_eval (1)) (congrArg Value.int hv)), trivial⟩ ⟨hq.1, hq.2.1, (hq.2.2.sift fun y hy => Or.inr (N y hy)).mono (by decide) (by decide)⟩⟩
  · obtain ⟨n, o, h1, h2, h3, _, L, rfl, ⟨rfl, N, -⟩, hq⟩ := rm0c1 l s _ hw tables_1 i0 i1 i2 i3 i4  s.heap s.heap.size (Nat.le_refl _) hcase p e ha hc hk s m _ below hf ((Spec.applies_iff_loose hf).mp happ).1 ⟨rfl, State.Warmed39.refl s, rfl⟩ trivial
    have hv : own_r0c1 i0 i1 i2 i3 i4 = 1 := own_plain1 i0 i1 i2 i3 i4
    refine ⟨n, _, h1, h2, h3, hpost _ _ _ _ _ _ ⟨Cond.after_iff.mpr rfl, Cond.after_iff.mpr (eq_i res_at (Term.int_eval (1)) (congrArg Value.int hv)), trivial⟩ ⟨hq.1, hq.2.1, (hq.2.2.sift fun y hy => Or.inr (N y hy)).mono (by decide) (by decide)⟩⟩
  · obtain ⟨n, o, h1, h2, h3, _, L, rfl, ⟨rfl, N, -⟩, hq⟩ := rm0c2 l s _ hw tables_1 i0 i1 i2 i3 i4  s.heap s.heap.size (Nat.le_refl _) hcase p e ha hc hk s m _ below hf ((Spec.applies_iff_loose hf).mp happ).1 ⟨rfl, State.Warmed39.refl s, rfl⟩ trivial
    have hv : own_r0c2 i0 i1 i2 i3 i4 = 1 := own_plain2 i0 i1 i2 i3 i4
    refine ⟨n, _, h1, h2, h3, hpost _ _ _ _ _ _ ⟨Cond.after_iff.mpr rfl, Cond.after_iff.mpr (eq_i res_at (Term.int_eval (1)) (congrArg Value.int hv)), trivial⟩ ⟨hq.1, hq.2.1, (hq.2.2.sift fun y hy => Or.inr (N y hy)).mono (by decide) (by decide)⟩⟩
  · obtain ⟨n, o, h1, h2, h3, _, L, rfl, ⟨rfl, N, -⟩, hq⟩ := rm0c3 l s _ hw tables_1 i0 i1 i2 i3 i4  s.heap s.heap.size (Nat.le_refl _) hcase p e ha hc hk s m _ below hf ((Spec.applies_iff_loose hf).mp happ).1 ⟨rfl, State.Warmed39.refl s, rfl⟩ trivial
    have hv : own_r0c3 i0 i1 i2 i3 i4 = 1 := own_plain3 i0 i1 i2 i3 i4
    refine ⟨n, _, h1, h2, h3, hpost _ _ _ _ _ _ ⟨Cond.after_iff.mpr rfl, Cond.after_iff.mpr (eq_i res_at (Term.int_eval (1)) (congrArg Value.int hv)), trivial⟩ ⟨hq.1, hq.2.1, (hq.2.2.sift fun y hy => Or.inr (N y hy)).mono (by decide) (by decide)⟩⟩
theorem main_1_1 : Claimed_1_1 := own_comes fun _ _ _ _ _ _ h hF => ⟨h.1, hF⟩
theorem main_1_2 : Claimed_1_2 := own_comes fun _ _ _ _ _ _ h hF => ⟨h.2.1, hF⟩
end Jvm.Pilot.@@N@@
namespace Jvm.Pilot.@@N@@
open Jvm Jvm.ClassFile Sem Op Lib Jvm.Free Jvm.Stand Jvm.Pilot.@@N@@.Jvm.D
/-! MADE BY PROGRAM (witnessworld.py) out of the Statement's table words and the real class files: 11 classes; the members and pool entries that the words name. The judged class is class 1, her method 2. -/
namespace start1
open Jvm.ClassFile
def u (s : String) : CpInfo := .utf8 (stringToUtf16 s)
/-- a pool by its gaps: so many unusable entries, then the entry; so many at the end -/
def gap : Nat → List CpInfo → List CpInfo
  | 0, r => r
  | n + 1, r => .unusable :: gap n r
def poolList (es : List (Nat × CpInfo)) (last : Nat) : List CpInfo := es.foldr (fun e r => gap e.1 (e.2 :: r)) (gap last [])
def pool (es : List (Nat × CpInfo)) (last : Nat) : Array CpInfo := ⟨poolList es last⟩
def fileOf (pool : Array CpInfo) (this : Nat) (attrs : Array Attribute := #[]) (ms : Array MethodInfo := #[]) (fl : Nat := 33) (sup : Nat := 0) (ifs : Array Nat := #[]) (fds : Array FieldInfo := #[]) : ClassFile where
  minorVersion := 0
  majorVersion := 65
  constantPool := pool
  accessFlags := fl
  thisClass := this
  superClass := sup
  interfaces := ifs
  fields := fds
  methods := ms
  attributes := attrs
def plain (name : String) (sup : Option ClassId) : Class where
  name := name
  kind := .ordinary
  loader := none
  accessFlags := 33
  super := sup
  interfaces := #[]
  cf := none
  fields := #[]
  methods := #[]
  instanceTypes := #[]
  staticTypes := #[]
  resolved := #[]
  callSites := []
  init := .initialized
  statics := none
  mirror := none

def pool0 : Array CpInfo := pool [(5, u "<init>"), (0, u "()V"), (1, .class_ 10), (1, u "java/lang/Object")] 113

def k0m0 : Method := { name := "<init>", desc := "()V", sig := { parameters := [], returnType := none }, accessFlags := 1, code := none }
/-- java/lang/Object -/
def k0 : Class := { plain "java/lang/Object" none with
  accessFlags := 33
  interfaces := #[]
  cf := some (fileOf pool0 8 #[] #[{ accessFlags := 1, nameIndex := 5, descriptorIndex := 6, attributes := #[] }] 33 0 #[] #[])
  fields := #[]
  methods := #[k0m0]
  instanceTypes := #[]
  staticTypes := #[]
  resolved := Array.replicate 124 none
  statics := none }

def pool1 : Array CpInfo := pool [(2, .class_ 4), (1, u "java/lang/Object"), (0, u "<init>"), (0, u "()V"), (0, .class_ 8), (0, u "com/example/surefoot/surefoot/SplitMixDerivePinLaw"), (0, .long 11400714819323198485), (1, .methodref 12 13), (0, .class_ 14), (0, .nameAndType 15 16), (0, u "com/example/surefoot/surefoot/SplitMix"), (0, u "mix"), (0, u "(J)J"), (0, .methodref 12 18), (0, .nameAndType 19 20), (0, u "derive"), (0, u "(J[J)J"), (0, .methodref 7 22), (0, .nameAndType 23 24), (0, u "step"), (0, u "(JJ)J"), (0, u "G"), (0, u "J"), (3, u "law"), (0, u "(JJJJI)Z")] 5

def k1m0 : Method := { name := "<init>", desc := "()V", sig := { parameters := [], returnType := none }, accessFlags := 1, code := none }
def k1c1 : Code := { maxStack := 8, maxLocals := 4, code := method_2_code, exceptionTable := #[], attributes := #[] }
def k1m1 : Method := { name := "step", desc := "(JJ)J", sig := { parameters := [.long, .long], returnType := some .long }, accessFlags := 10, code := some k1c1 }
def k1c2 : Code := { maxStack := 4, maxLocals := 16, code := code, exceptionTable := #[], attributes := #[] }
def k1m2 : Method := { name := "law", desc := "(JJJJI)Z", sig := { parameters := [.long, .long, .long, .long, .int], returnType := some .boolean }, accessFlags := 9, code := some k1c2 }
/-- com/example/surefoot/surefoot/SplitMixDerivePinLaw -/
def k1 : Class := { plain "com/example/surefoot/surefoot/SplitMixDerivePinLaw" (some 0) with
  accessFlags := 49
  interfaces := #[]
  cf := some (fileOf pool1 7 #[] #[{ accessFlags := 1, nameIndex := 5, descriptorIndex := 6, attributes := #[] }, { accessFlags := 10, nameIndex := 23, descriptorIndex := 24, attributes := #[] }, { accessFlags := 9, nameIndex := 30, descriptorIndex := 31, attributes := #[] }] 49 2 #[] #[{ accessFlags := 26, nameIndex := 25, descriptorIndex := 26, attributes := #[] }])
  fields := #[{ name := "G", type := .long, accessFlags := 26, slot := 0, constantValue := 0 }]
  methods := #[k1m0, k1m1, k1m2]
  instanceTypes := #[]
  staticTypes := #[.long]
  resolved := Array.replicate 37 none
  statics := none }

def pool2 : Array CpInfo := pool [(2, .class_ 4), (1, u "java/lang/Object"), (0, u "<init>"), (0, u "()V"), (0, .long 13787848793156543929), (1, .long 10723151780598845931), (1, .methodref 12 13), (0, .class_ 14), (0, .nameAndType 15 16), (0, u "com/example/surefoot/surefoot/SplitMix"), (0, u "mix"), (0, u "(J)J"), (0, .long 11400714819323198485), (1, u "GAMMA"), (0, u "J"), (3, u "derive"), (0, u "(J[J)J")] 5

def k2m0 : Method := { name := "<init>", desc := "()V", sig := { parameters := [], returnType := none }, accessFlags := 2, code := none }
def k2c1 : Code := { maxStack := 5, maxLocals := 4, code := prog_23_method_2_code, exceptionTable := #[], attributes := #[] }
def k2m1 : Method := { name := "mix", desc := "(J)J", sig := { parameters := [.long], returnType := some .long }, accessFlags := 8, code := some k2c1 }
def k2c2 : Code := { maxStack := 8, maxLocals := 10, code := prog_23_method_3_code, exceptionTable := #[], attributes := #[] }
def k2m2 : Method := { name := "derive", desc := "(J[J)J", sig := { parameters := [.long, (.array .long)], returnType := some .long }, accessFlags := 136, code := some k2c2 }
/-- com/example/surefoot/surefoot/SplitMix -/
def k2 : Class := { plain "com/example/surefoot/surefoot/SplitMix" (some 0) with
  accessFlags := 48
  interfaces := #[]
  cf := some (fileOf pool2 12 #[] #[{ accessFlags := 2, nameIndex := 5, descriptorIndex := 6, attributes := #[] }, { accessFlags := 8, nameIndex := 15, descriptorIndex := 16, attributes := #[] }, { accessFlags := 136, nameIndex := 24, descriptorIndex := 25, attributes := #[] }] 48 2 #[] #[{ accessFlags := 24, nameIndex := 19, descriptorIndex := 20, attributes := #[] }])
  fields := #[{ name := "GAMMA", type := .long, accessFlags := 24, slot := 0, constantValue := 0 }]
  methods := #[k2m0, k2m1, k2m2]
  instanceTypes := #[]
  staticTypes := #[.long]
  resolved := Array.replicate 31 none
  statics := none }

def pool3 : Array CpInfo := pool [(1, u "java/lang/Cloneable"), (0, .class_ 1), (0, u "java/lang/Object"), (0, .class_ 3)] 3

/-- java/lang/Cloneable -/
def k3 : Class := { plain "java/lang/Cloneable" (some 0) with
  accessFlags := 1537
  interfaces := #[]
  cf := some (fileOf pool3 2 #[] #[] 1537 4 #[] #[])
  fields := #[]
  methods := #[]
  instanceTypes := #[]
  staticTypes := #[]
  resolved := Array.replicate 8 none
  statics := none }

def pool4 : Array CpInfo := pool [(1, u "java/io/Serializable"), (0, .class_ 1), (0, u "java/lang/Object"), (0, .class_ 3)] 3

/-- java/io/Serializable -/
def k4 : Class := { plain "java/io/Serializable" (some 0) with
  accessFlags := 1537
  interfaces := #[]
  cf := some (fileOf pool4 2 #[] #[] 1537 4 #[] #[])
  fields := #[]
  methods := #[]
  instanceTypes := #[]
  staticTypes := #[]
  resolved := Array.replicate 8 none
  statics := none }

/-- the primitive byte -/
def k5 : Class := { plain "byte" none with kind := .primitive 'B', accessFlags := 0x411 }
/-- [B -/
def k6 : Class := { plain "[B" (some 0) with kind := .array 5 .byte, interfaces := #[3, 4], accessFlags := 1041 }

/-- the primitive int -/
def k7 : Class := { plain "int" none with kind := .primitive 'I', accessFlags := 0x411 }
/-- [I -/
def k8 : Class := { plain "[I" (some 0) with kind := .array 7 .int, interfaces := #[3, 4], accessFlags := 1041 }

/-- the primitive long -/
def k9 : Class := { plain "long" none with kind := .primitive 'J', accessFlags := 0x411 }
/-- [J -/
def k10 : Class := { plain "[J" (some 0) with kind := .array 9 .long, interfaces := #[3, 4], accessFlags := 1041 }

def heap : Heap := #[]
def classes : Array Class := #[k0, k1, k2, k3, k4, k5, k6, k7, k8, k9, k10]
def interned : List (Array UInt16 × Addr) := []
def slotsUsed : Nat := 0
def theMethod : MethodId := ⟨1, 2⟩
def args0 : Array Value := #[.long 5, .long 6, .long 7, .long 8, .int 2]
def aboutOver (below : List Frame) : State where
  vm := { classes := classes, interned := interned.toArray }
  heap := heap
  slotsUsed := slotsUsed
  threads := #[{ frames := .invoking theMethod args0 :: below }]
def below0 : List Frame := [.native { method := ⟨0, 0⟩, args := #[] }]
def about1 : State := aboutOver below0
def p0 : Program := .bare "" "" ""
def e0 : Env := launch0.env 0 0 0
theorem w_frames : about1.frames = Frame.invoking theMethod args0 :: below0 := rfl
set_option maxRecDepth 65536 in
theorem w_args : argsFit about1.vm theMethod args0 = true := by decide +kernel
set_option maxRecDepth 65536 in
theorem w_heap : heapFits about1 = true := by decide +kernel
set_option maxRecDepth 65536 in
theorem w_runnable : about1.curStatus? = some .runnable := by decide +kernel
set_option maxRecDepth 65536 in
theorem w_alone : about1.alone = true := by decide +kernel
set_option maxRecDepth 65536 in
theorem w_named : about1.methodNamed? x = some theMethod := by decide +kernel
set_option maxRecDepth 65536 in
theorem w_hears : about1.hears theMethod below0 = true := by decide +kernel
set_option maxRecDepth 65536 in
theorem w_ripe : about1.ripe theMethod args0 below0 = true := by decide +kernel
theorem w_running : about1.status = .running := rfl
set_option maxRecDepth 65536 in
theorem w_room : about1.hasRoom e0.platform room_1 = true :=
  launch0.hasRoom_least _ room_1 (by decide +kernel) (by decide +kernel) (by decide +kernel) (by decide +kernel) (by decide +kernel) (by decide +kernel)
theorem allAtoms_all (ts : List Jvm.Cond) (a : Array Jvm.Value) (st : Jvm.State) : (allAtoms ts).before a st = ts.all (fun c => c.before a st) := by
  induction ts with
  | nil => rfl
  | cons c t ih =>
    show (Jvm.Cond.and c (allAtoms t)).before a st = _
    rw [Jvm.Cond.before_and, ih, List.all_cons]
def words1 : List Jvm.Cond := Jvm.Cond.code x code maxLocals ret :: tables_1
/-- a 'code' word, met by the world's own term for the bytes: nothing is compared byte by byte -/
theorem code_word {y : MethodName} {bytes : ByteArray} {mx : Nat} {rt : Option FieldType} {a : Array Value} {s : State} {m : MethodId} {meth : Method} {c : Code} (h1 : s.methodNamed? y = some m) (h2 : s.vm.method? m = some meth) (h3 : meth.code = some c) (h4 : c.code = bytes)
    (h5 : (c.maxLocals == mx && c.exceptionTable.isEmpty && decide (c.maxStack ≤ mostOperands) && decide (meth.sig.returnType = rt) && !meth.locks && decide (parseMethodDescriptor y.desc = some meth.sig)) = true) : (Jvm.Cond.code y bytes mx rt).before a s = true := by
  simp only [Bool.and_eq_true, beq_iff_eq, Bool.not_eq_true', decide_eq_true_eq] at h5
  obtain ⟨⟨⟨⟨⟨g1, g2⟩, g3⟩, g4⟩, g5⟩, g6⟩ := h5
  simp [Cond.before, Cond.holds, Cond.value, h1, h2, h3, h4, g1, g2, g3, g4, g5, g6]
def isCode : Jvm.Cond → Bool
  | .code _ _ _ _ => true
  | _ => false
theorem all_split {L : List Jvm.Cond} {P : Jvm.Cond → Bool} (h1 : L.all (fun c => isCode c || P c) = true) (h2 : ∀ c ∈ L.filter isCode, P c = true) : L.all P = true := by
  refine List.all_eq_true.mpr fun c hc => ?_
  have h := List.all_eq_true.mp h1 c hc
  rcases Bool.eq_false_or_eq_true (isCode c) with hi | hi
  · exact h2 c (List.mem_filter.mpr ⟨hc, hi⟩)
  · simpa [hi] using h
set_option maxRecDepth 65536 in
theorem w_c0 : (Jvm.Cond.code x code maxLocals ret).before args0 about1 = true := code_word (m := ⟨1, 2⟩) (meth := k1m2) (c := k1c2) (by decide +kernel) rfl rfl rfl (by decide +kernel)
set_option maxRecDepth 65536 in
theorem w_c1 : (Jvm.Cond.code ({ cls := "com/example/surefoot/surefoot/SplitMix", name := "derive", desc := "(J[J)J" } : Jvm.MethodName) prog_23_method_3_code (10 : Nat) (Option.some Jvm.ClassFile.FieldType.long)).before args0 about1 = true := code_word (m := ⟨2, 2⟩) (meth := k2m2) (c := k2c2) (by decide +kernel) rfl rfl rfl (by decide +kernel)
set_option maxRecDepth 65536 in
theorem w_c2 : (Jvm.Cond.code ({ cls := "com/example/surefoot/surefoot/SplitMix", name := "mix", desc := "(J)J" } : Jvm.MethodName) prog_23_method_2_code (4 : Nat) (Option.some Jvm.ClassFile.FieldType.long)).before args0 about1 = true := code_word (m := ⟨2, 1⟩) (meth := k2m1) (c := k2c1) (by decide +kernel) rfl rfl rfl (by decide +kernel)
set_option maxRecDepth 65536 in
theorem w_c3 : (Jvm.Cond.code ({ cls := "com/example/surefoot/surefoot/SplitMixDerivePinLaw", name := "step", desc := "(JJ)J" } : Jvm.MethodName) method_2_code (4 : Nat) (Option.some Jvm.ClassFile.FieldType.long)).before args0 about1 = true := code_word (m := ⟨1, 1⟩) (meth := k1m1) (c := k1c1) (by decide +kernel) rfl rfl rfl (by decide +kernel)
def codes1 : List Jvm.Cond := [Jvm.Cond.code x code maxLocals ret, Jvm.Cond.code ({ cls := "com/example/surefoot/surefoot/SplitMix", name := "derive", desc := "(J[J)J" } : Jvm.MethodName) prog_23_method_3_code (10 : Nat) (Option.some Jvm.ClassFile.FieldType.long), Jvm.Cond.code ({ cls := "com/example/surefoot/surefoot/SplitMix", name := "mix", desc := "(J)J" } : Jvm.MethodName) prog_23_method_2_code (4 : Nat) (Option.some Jvm.ClassFile.FieldType.long), Jvm.Cond.code ({ cls := "com/example/surefoot/surefoot/SplitMixDerivePinLaw", name := "step", desc := "(JJ)J" } : Jvm.MethodName) method_2_code (4 : Nat) (Option.some Jvm.ClassFile.FieldType.long)]
set_option maxRecDepth 65536 in
theorem codes_eq : words1.filter isCode = codes1 := rfl
theorem w_codes : ∀ c ∈ words1.filter isCode, c.before args0 about1 = true := by
  rw [codes_eq]
  intro c hc
  simp only [codes1, List.mem_cons, List.not_mem_nil, or_false] at hc
  rcases hc with rfl | rfl | rfl | rfl
  · exact w_c0
  · exact w_c1
  · exact w_c2
  · exact w_c3
set_option maxRecDepth 65536 in
theorem w_t1 : words1.all (fun c => isCode c || c.before args0 about1) = true := by decide +kernel
theorem w_tables : (allAtoms (Jvm.Cond.code x code maxLocals ret :: tables_1)).before args0 about1 = true := by
  rw [allAtoms_all]
  show words1.all (fun c => c.before args0 about1) = true
  refine all_split ?_ w_codes
  rw [w_t1]
set_option maxRecDepth 65536 in
theorem w_case : (Jvm.Cond.and given_1 narrow_1).before args0 about1 = true := by decide +kernel
theorem w_applies : (headSpec (Jvm.Cond.code x code maxLocals ret :: tables_1) room_1).applies x e0.platform about1 = true :=
  (Spec.applies_iff w_frames).mpr ⟨w_running, w_runnable, w_alone, w_named, w_hears, w_ripe, w_room, w_tables⟩
theorem atStart : AtStart classFile x code maxLocals ret World_1 tables_1 room_1 Calls_1 rest_1 Pre_1 launch0 p0 e0 about1 theMethod args0 below0 :=
  ⟨lists_1, trivial, launch0.admits_env _ _ _, launch0.least_env, fairChoices_fair.cas, fairChoices_fair.clock, w_frames, w_args, w_heap, w_applies, trivial, trivial, w_case⟩
end start1
theorem witness_1 : WitnessClaimed_1 := ⟨start1.p0, start1.e0, start1.about1, start1.theMethod, start1.args0, start1.below0, start1.atStart⟩
end Jvm.Pilot.@@N@@
