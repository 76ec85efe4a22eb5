import JvmDerived
import JvmDerived.Pilot.@@N@@Statement
import JvmDerived.Pilot.@@N@@Code
set_option linter.unusedVariables false
set_option linter.unusedSimpArgs false
@@BLOCK:NumsL.lean.txt@@
namespace Jvm.RoadKit
open Sem ClassFile Op Lib Jvm.Stand Jvm.Free Jvm.LawKit
section New
variable {p : Program} {l : Launch} {e : Env} {R : Room} {s : State} {m : MethodId} {args : Array Value} {below : List Frame} {meth : Method} {c : Code} {T : State} {locs : List Loc} {cells slots : Nat}
theorem retI (X : Stand p l e R s m args below meth c T locs cells slots) (hx : p.tables.exec = Jvm.exec) {pc : Nat} {Ls : Array Slot} {z : Int32} {rest : List Value} (hret : meth.sig.returnType = some .int) (hd : decode c.code pc = .ok (.ireturn, 1)) {fs : List Frame}
    (hl : ∀ (f : JFrame) (acts : List Action), f.method = m → f.locked = none → f.entered = [] → (doReturn e (T.setTop f) acts (some (.int z))).1 = T.setFrames fs) : Steps p.tables e below (T.setTop (mkF m pc Ls (.int z :: rest))) (T.setFrames fs) := by
  have hm' : T.vm.method? m = some meth := X.method'
  have hn : narrow .int (.int z) = .int z := rfl
  show Steps p.tables e below (T.setTop { method := m, pc := pc, locals := Ls, stack := _ :: rest, locked := none }) _
  jvm_step X.here [X.here.top, hx, hd, hm', hret, hn]
  first | (intro acts; rw [hl _ acts rfl rfl rfl]) | rw [hl _ _ rfl rfl rfl]
  exact Steps.refl _
end New
end Jvm.RoadKit
namespace Jvm.Pilot.@@N@@
open Jvm Jvm.ClassFile Sem Op Lib Jvm.Free Jvm.Stand Jvm.LawKit Jvm.RoadKit Bundle Jvm.Pilot.@@N@@.Jvm.D
/-! own: Java's shifts and remainders, written short -/
def own_shl (x y : Int32) : Int32 := x <<< (y &&& 31)
def own_shr (x y : Int32) : Int32 := x >>> (y &&& 31)
def own_ushr (x y : Int32) : Int32 := (x.toUInt32 >>> (y &&& 31).toUInt32).toInt32
def own_shlL (x : Int64) (y : Int32) : Int64 := x <<< (y &&& 0x3f).toInt64
def own_shrL (x : Int64) (y : Int32) : Int64 := x >>> (y &&& 0x3f).toInt64
def own_ushrL (x : Int64) (y : Int32) : Int64 := (x.toUInt64 >>> (y &&& 0x3f).toInt64.toUInt64).toInt64
def own_rem (x y : Int32) : Int32 := x - (x / y) * y
def own_remL (x y : Int64) : Int64 := x - (x / y) * y
theorem own_rem_nn {x y : Int32} (hx : 0 ≤ x.toInt) (hy : 0 < y.toInt) : (own_rem x y).toInt = x.toInt % y.toInt := by
  have hd : (x / y).toInt = x.toInt / y.toInt := by
    rw [Jvm.Kit.i32_div (by omega), Int.tdiv_eq_ediv_of_nonneg hx]
  have b1 := Int.emod_add_mul_ediv x.toInt y.toInt
  have b2 := Int.emod_nonneg x.toInt (by omega : y.toInt ≠ 0)
  have b3 := Int.emod_lt_of_pos x.toInt hy
  have b4 : 0 ≤ x.toInt / y.toInt := Int.ediv_nonneg hx (by omega)
  have hX := Int32.toInt_lt x
  have b5 : 0 ≤ y.toInt * (x.toInt / y.toInt) := Int.mul_nonneg (by omega) b4
  have hm : ((x / y) * y).toInt = y.toInt * (x.toInt / y.toInt) := by
    rw [Jvm.Kit.i32_mul (by rw [hd, Int.mul_comm]; omega) (by rw [hd, Int.mul_comm]; omega), hd, Int.mul_comm]
  unfold own_rem
  rw [Jvm.Kit.i32_sub (by rw [hm]; omega) (by rw [hm]; omega), hm]; omega
/-! own: a run from a frame to what 'Post' says -/
section OwnRun
variable {p : Program} {l : Launch} {e : Env} {R : Room} {s : State} {m : MethodId} {args : Array Value} {below : List Frame} {meth : Method} {c : Code} {T T' : State} {locs : List Loc} {cells slots : Nat} {g g' : JFrame} {Post : State → Prop} {n0 : Nat} {P : Heap → Prop} {C S : Nat} {Z : State} {h : Heap} {a : Addr} {k : ClassId} {n j : Int32} {vs : List Value} {d v : Value} {E : State → Outcome → State → List Loc → Nat → Nat → Prop}
def own_Run (p : Program) (e : Env) (below : List Frame) (T : State) (g : JFrame) (Post : State → Prop) : Prop := ∃ t, Steps p.tables e below (T.setTop g) t ∧ Post t
theorem own_step (st : ∀ t, Steps p.tables e below (T'.setTop g') t → Steps p.tables e below (T.setTop g) t) (h : own_Run p e below T' g' Post) : own_Run p e below T g Post := h.imp fun t k => ⟨st t k.1, k.2⟩
theorem own_tr (st : Steps p.tables e below (T.setTop g) (T'.setTop g')) (h : own_Run p e below T' g' Post) : own_Run p e below T g Post := h.imp fun t k => ⟨st.trans k.1, k.2⟩
theorem own_here (h : Post (T.setTop g)) : own_Run p e below T g Post := ⟨_, Steps.refl _, h⟩
theorem own_entry {Q : State → Prop} (q : g = g') (h : own_Run p e below T g' Q) : own_Run p e below T g Q := q ▸ h
def own_Q (n0 : Nat) (P : Heap → Prop) (w : Option Value) : Option Value → Heap → List Loc → Prop := fun v h L => v = w ∧ Fr n0 L ∧ P h
def own_Ret (E : State → Outcome → State → List Loc → Nat → Nat → Prop) (U : State) (below : List Frame) (C S : Nat) (Q : Option Value → Heap → List Loc → Prop) : State → Prop := fun t => t.status = .running ∧ ∃ o, Ended t below o ∧ ∃ v L, o = .returned v ∧ Q v t.heap L ∧ E U o t L C S
theorem own_fin {Q : Option Value → Heap → List Loc → Prop} (h : own_Run p e below T g (own_Ret E s below C S Q)) : ∃ s₂ o, Steps p.tables e below (T.setTop g) s₂ ∧ s₂.status = .running ∧ Ended s₂ below o ∧ ∃ v L, o = .returned v ∧ Q v s₂.heap L ∧ E s o s₂ L C S := by
  obtain ⟨t, st, hr, o, he, r⟩ := h; exact ⟨t, o, st, hr, he, r⟩
theorem own_vi {x y : Int32} (q : x = y) (h : own_Run p e below T g (own_Ret E s below C S (own_Q n0 P (some (.int y))))) : own_Run p e below T g (own_Ret E s below C S (own_Q n0 P (some (.int x)))) := q ▸ h
theorem own_vj {x y : Int64} (q : x = y) (h : own_Run p e below T g (own_Ret E s below C S (own_Q n0 P (some (.long y))))) : own_Run p e below T g (own_Ret E s below C S (own_Q n0 P (some (.long x)))) := q ▸ h
theorem own_leave {w : Option Value} (X : Stand p l e R s m args below meth c T locs cells slots) (hv : meth.sig.returnType = none → w = none) (hlk : meth.locks = false) (hC : cells ≤ C) (hS : slots ≤ S) (N : Fr n0 locs) (hP : P T.heap)
    (st : ∀ fs, (∀ (f : JFrame) (acts : List Action), f.method = m → f.locked = none → f.entered = [] → (doReturn e (T.setTop f) acts w).1 = T.setFrames fs) → Steps p.tables e below (T.setTop g) (T.setFrames fs)) : own_Run p e below T g (own_Ret FrameEnd s below C S (own_Q n0 P w)) := by
  obtain ⟨fs, hr, hrun, hended, hW, hsame⟩ := X.leave (v := w) hv hlk
  exact ⟨_, st fs hr, hrun, _, hended, _, _, rfl, ⟨rfl, N, hP⟩, ⟨_, rfl⟩, hW, hsame.mono hC hS⟩
theorem own_retZ (X : Stand p l e R s m args below meth c T locs cells slots) (hx : p.tables.exec = Jvm.exec) (hlk : meth.locks = false) {pc : Nat} {Ls : Array Slot} {z : Int32} {rest : List Value} (hret : meth.sig.returnType = some .boolean) (hd : decode c.code pc = .ok (.ireturn, 1)) (hC : cells ≤ C) (hS : slots ≤ S) (N : Fr n0 locs) (hP : P T.heap) :
    own_Run p e below T (mkF m pc Ls (.int z :: rest)) (own_Ret FrameEnd s below C S (own_Q n0 P (some (.int (nar .boolean z))))) :=
  own_leave X (fun q => by rw [hret] at q; cases q) hlk hC hS N hP fun fs hr => retN X hx (t := .boolean) hret (by simp) hd hr
theorem own_retI (X : Stand p l e R s m args below meth c T locs cells slots) (hx : p.tables.exec = Jvm.exec) (hlk : meth.locks = false) {pc : Nat} {Ls : Array Slot} {z : Int32} {rest : List Value} (hret : meth.sig.returnType = some .int) (hd : decode c.code pc = .ok (.ireturn, 1)) (hC : cells ≤ C) (hS : slots ≤ S) (N : Fr n0 locs) (hP : P T.heap) :
    own_Run p e below T (mkF m pc Ls (.int z :: rest)) (own_Ret FrameEnd s below C S (own_Q n0 P (some (.int z)))) :=
  own_leave X (fun q => by rw [hret] at q; cases q) hlk hC hS N hP fun fs hr => retI X hx hret hd hr
theorem own_retJ (X : Stand p l e R s m args below meth c T locs cells slots) (hx : p.tables.exec = Jvm.exec) (hlk : meth.locks = false) {pc : Nat} {Ls : Array Slot} {z : Int64} (hret : meth.sig.returnType = some .long) (hd : decode c.code pc = .ok (.lreturn, 1)) (hC : cells ≤ C) (hS : slots ≤ S) (N : Fr n0 locs) (hP : P T.heap) :
    own_Run p e below T (mkF m pc Ls [.long z]) (own_Ret FrameEnd s below C S (own_Q n0 P (some (.long z)))) :=
  own_leave X (fun q => by rw [hret] at q; cases q) hlk hC hS N hP fun fs hr => X.lreturnOut hx hret hd hr
theorem own_retD (X : Stand p l e R s m args below meth c T locs cells slots) (hx : p.tables.exec = Jvm.exec) (hlk : meth.locks = false) {pc : Nat} {Ls : Array Slot} {z : UInt64} {rest : List Value} (hret : meth.sig.returnType = some .double) (hd : decode c.code pc = .ok (.dreturn, 1)) (hC : cells ≤ C) (hS : slots ≤ S) (N : Fr n0 locs) (hP : P T.heap) :
    own_Run p e below T (mkF m pc Ls (.double z :: rest)) (own_Ret FrameEnd s below C S (own_Q n0 P (some (.double z)))) :=
  own_leave X (fun q => by rw [hret] at q; cases q) hlk hC hS N hP fun fs hr => retOut X hx (i := .dreturn) hret rfl (Or.inr (Or.inr (Or.inl ⟨rfl, rfl, z, rfl⟩))) hd hr
theorem own_retV (X : Stand p l e R s m args below meth c T locs cells slots) (hx : p.tables.exec = Jvm.exec) (hlk : meth.locks = false) {pc : Nat} {Ls : Array Slot} (hret : meth.sig.returnType = none) (hd : decode c.code pc = .ok (.return_, 1)) (hC : cells ≤ C) (hS : slots ≤ S) (N : Fr n0 locs) (hP : P T.heap) :
    own_Run p e below T (mkF m pc Ls []) (own_Ret FrameEnd s below C S (own_Q n0 P none)) :=
  own_leave X (fun _ => rfl) hlk hC hS N hP fun fs hr => X.returnOut hx hret hd hr
theorem own_retA (X : Stand p l e R s m args below meth c T locs cells slots) (hx : p.tables.exec = Jvm.exec) (hlk : meth.locks = false) {pc : Nat} {Ls : Array Slot} {w : Value} {t : FieldType} (hret : meth.sig.returnType = some t) (ht : t.isReference = true) (hw : w.isRef = true) (hd : decode c.code pc = .ok (.areturn, 1)) (hC : cells ≤ C) (hS : slots ≤ S) (N : Fr n0 locs) (hP : P T.heap) :
    own_Run p e below T (mkF m pc Ls [w]) (own_Ret FrameEnd s below C S (own_Q n0 P (some w))) :=
  own_leave X (fun q => by rw [hret] at q; cases q) hlk hC hS N hP fun fs hr => X.areturnOut hx hw hret ht hd hr
/-! own: the same where the walk may have loaded a String constant (the tables may hold a new pair) -/
theorem own_mixW {U t : State} {o : Outcome} {L : List Loc} {k n k' n' : Nat} (h : ReturnedEndW U o t L k n) (hk : k ≤ k') (hn : n ≤ n') : ReturnedEndW U o t L k' n' := ⟨h.1, h.2.1, h.2.2.1, h.2.2.2.mono hk hn⟩
theorem own_leaveW {vm₁ : Vm} {n : Nat} {w : Option Value} (X : Stand p l e R (s.setVm vm₁) m args below meth c T locs cells slots) (hS : s.Since vm₁ n) (hn : n ≤ T.heap.size) (hv : meth.sig.returnType = none → w = none) (hlk : meth.locks = false) (hC : cells ≤ C) (hSl : slots ≤ S) (N : Fr n0 locs) (hP : P T.heap)
    (st : ∀ fs, (∀ (f : JFrame) (acts : List Action), f.method = m → f.locked = none → f.entered = [] → (doReturn e (T.setTop f) acts w).1 = T.setFrames fs) → Steps p.tables e below (T.setTop g) (T.setFrames fs)) : own_Run p e below T g (own_Ret ReturnedEndW s below C S (own_Q n0 P w)) := by
  obtain ⟨fs, hr, hrun, hended, hW⟩ := X.leaveW hS hn (v := w) hv hlk
  exact ⟨_, st fs hr, hrun, _, hended, _, _, rfl, ⟨rfl, N, hP⟩, own_mixW hW hC hSl⟩
theorem own_retZW {vm₁ : Vm} {n : Nat} (X : Stand p l e R (s.setVm vm₁) m args below meth c T locs cells slots) (hx : p.tables.exec = Jvm.exec) (hlk : meth.locks = false) {pc : Nat} {Ls : Array Slot} {z : Int32} {rest : List Value} (hret : meth.sig.returnType = some .boolean) (hd : decode c.code pc = .ok (.ireturn, 1)) (hC : cells ≤ C) (hSl : slots ≤ S) (N : Fr n0 locs) (hP : P T.heap) (hS : s.Since vm₁ n) (hn : n ≤ T.heap.size) :
    own_Run p e below T (mkF m pc Ls (.int z :: rest)) (own_Ret ReturnedEndW s below C S (own_Q n0 P (some (.int (nar .boolean z))))) :=
  own_leaveW X hS hn (fun q => by rw [hret] at q; cases q) hlk hC hSl N hP fun fs hr => retN X hx (t := .boolean) hret (by simp) hd hr
theorem own_retVW {vm₁ : Vm} {n : Nat} (X : Stand p l e R (s.setVm vm₁) m args below meth c T locs cells slots) (hx : p.tables.exec = Jvm.exec) (hlk : meth.locks = false) {pc : Nat} {Ls : Array Slot} (hret : meth.sig.returnType = none) (hd : decode c.code pc = .ok (.return_, 1)) (hC : cells ≤ C) (hSl : slots ≤ S) (N : Fr n0 locs) (hP : P T.heap) (hS : s.Since vm₁ n) (hn : n ≤ T.heap.size) :
    own_Run p e below T (mkF m pc Ls []) (own_Ret ReturnedEndW s below C S (own_Q n0 P none)) :=
  own_leaveW X hS hn (fun _ => rfl) hlk hC hSl N hP fun fs hr => X.returnOut hx hret hd hr
/-- no static's home -/
def own_Pl (h : Heap) (a : Addr) : Prop := ∃ c : Cell, h[a]? = some c ∧ c.vm.isStatics = false
theorem own_plV {ty : FieldType} (F : Arv Z h a k ty n vs d) : own_Pl h a := by obtain ⟨c, A, -⟩ := F; exact ⟨c, A.1, A.plain⟩
theorem own_plE {Cn : String} (F : Exa Z h a Cn) : own_Pl h a := by obtain ⟨c, kk, h1, -, -, h4, -⟩ := F; exact ⟨c, h1, h4⟩
theorem own_keepS {h' : Heap} {ws : List Addr} {Cn fn dn : String} (F : Sta Z h Cn fn dn v) (K : Keep h h' ws) (A : ∀ a ∈ ws, own_Pl h a) : Sta Z h' Cn fn dn v := by
  obtain ⟨cf, i, kk, f, st, cell, h1, h2, h3, h4, h5, h6, h7⟩ := F
  refine ⟨cf, i, kk, f, st, cell, h1, h2, h3, h4, K.2.1 st cell h5 (fun hm => ?_), h6, h7⟩
  obtain ⟨c, q1, q2⟩ := A st hm
  cases h5.symm.trans q1; rw [q2] at h6; cases h6
/-! own: an array's component, by its Arv -/
theorem own_ldI (X : Stand p l e R s m args below meth c T locs cells slots) (hx : p.tables.exec = Jvm.exec) (hZ : Z.Warmed39 s.vm) (eT : T.heap = h) (F : Arv Z h a k .int n vs d) (q : ¬ j < 0 ∧ j < n) (u : vs.getD j.toNatClampNeg d = v) (hg : g.method = m) {rest : List Value} (hs : g.stack = .int j :: .ref a :: rest) (hd : decode c.code g.pc = .ok (.iaload, 1)) :
    ∀ t, Steps p.tables e below (T.setTop { g with pc := g.pc + 1, stack := v :: rest }) t → Steps p.tables e below (T.setTop g) t := by
  obtain ⟨cl, Ar, -, Sz, -, Hs, -⟩ := F
  exact fun t kt => X.iaload hx (by rw [eT]; exact Ar.1) (State.isArrayOf_alike hZ.alike Ar.2.1) Ar.2.2 (inb_of Sz q) (Hs.at (inb_of Sz q) u) hg hs hd t kt
theorem own_ldJ (X : Stand p l e R s m args below meth c T locs cells slots) (hx : p.tables.exec = Jvm.exec) (hZ : Z.Warmed39 s.vm) (eT : T.heap = h) (F : Arv Z h a k .long n vs d) (q : ¬ j < 0 ∧ j < n) (u : vs.getD j.toNatClampNeg d = v) (hg : g.method = m) {rest : List Value} (hs : g.stack = .int j :: .ref a :: rest) (hd : decode c.code g.pc = .ok (.laload, 1)) :
    ∀ t, Steps p.tables e below (T.setTop { g with pc := g.pc + 1, stack := v :: rest }) t → Steps p.tables e below (T.setTop g) t := by
  obtain ⟨cl, Ar, -, Sz, -, Hs, -⟩ := F
  exact fun t kt => X.laload hx (by rw [eT]; exact Ar.1) (State.isArrayOf_alike hZ.alike Ar.2.1) Ar.2.2 (inb_of Sz q) (Hs.at (inb_of Sz q) u) hg hs hd t kt
theorem own_ldB (X : Stand p l e R s m args below meth c T locs cells slots) (hx : p.tables.exec = Jvm.exec) (hZ : Z.Warmed39 s.vm) (eT : T.heap = h) (F : Arv Z h a k .byte n vs d) (q : ¬ j < 0 ∧ j < n) (u : vs.getD j.toNatClampNeg d = v) (hg : g.method = m) {rest : List Value} (hs : g.stack = .int j :: .ref a :: rest) (hd : decode c.code g.pc = .ok (.baload, 1)) :
    ∀ t, Steps p.tables e below (T.setTop { g with pc := g.pc + 1, stack := v :: rest }) t → Steps p.tables e below (T.setTop g) t := by
  obtain ⟨cl, Ar, -, Sz, -, Hs, -⟩ := F
  exact fun t kt => X.baloadBytes hx (by rw [eT]; exact Ar.1) (State.isArrayOf_alike hZ.alike Ar.2.1) Ar.2.2 (inb_of Sz q) (Hs.at (inb_of Sz q) u) hg hs hd t kt
theorem own_len (X : Stand p l e R s m args below meth c T locs cells slots) (hx : p.tables.exec = Jvm.exec) (hZ : Z.Warmed39 s.vm) (eT : T.heap = h) {ty : FieldType} (F : Arv Z h a k ty n vs d) (hg : g.method = m) {rest : List Value} (hs : g.stack = .ref a :: rest) (hd : decode c.code g.pc = .ok (.arraylength, 1)) :
    ∀ t, Steps p.tables e below (T.setTop { g with pc := g.pc + 1, stack := .int n :: rest }) t → Steps p.tables e below (T.setTop g) t := by
  obtain ⟨cl, Ar, -, Sz, Ng, -, -⟩ := F
  intro t kt
  refine X.arraylength hx (by rw [eT]; exact Ar.1) (State.isArrayOf_alike hZ.alike Ar.2.1) hg hs hd t ?_
  rw [len_of Sz Ng]; exact kt
theorem own_stI (X : Stand p l e R s m args below meth c T locs cells slots) (hx : p.tables.exec = Jvm.exec) (hZ : Z.Warmed39 s.vm) (eT : T.heap = h) (F : Arv Z h a k .int n vs d) (N : Fr n0 locs) (ge : n0 ≤ a) {x : Int32} (q : ¬ j < 0 ∧ j < n) (i : Nat) (hi : j.toNatClampNeg = i) (hl : i < vs.length) (hg : g.method = m) {rest : List Value} (hs : g.stack = .int x :: .int j :: .ref a :: rest) (hd : decode c.code g.pc = .ok (.iastore, 1)) :
    ∃ T' h' L, Stand p l e R s m args below meth c T' L cells slots ∧ T'.heap = h' ∧ Fr n0 L ∧ Wr h h' a j.toNatClampNeg (.int x) ∧ Arv Z h' a k .int n (vs.set i (.int x)) d ∧ ∀ t, Steps p.tables e below (T'.setTop { g with pc := g.pc + 1, stack := rest }) t → Steps p.tables e below (T.setTop g) t := by
  obtain ⟨cl, Ar, q1, Sz, Ng, Hs, Gs⟩ := F
  obtain ⟨T', h', X', e', W, st⟩ := stI X hx hZ eT Ar (j := j) (x := x) (inb_of Sz q) hg hs hd
  exact ⟨T', h', _, X', e', Fr.snoc X' N ge, W, Arv.set Ar q1 Sz Ng Hs Gs rfl W i hi hl, st⟩
theorem own_stJ (X : Stand p l e R s m args below meth c T locs cells slots) (hx : p.tables.exec = Jvm.exec) (hZ : Z.Warmed39 s.vm) (eT : T.heap = h) (F : Arv Z h a k .long n vs d) (N : Fr n0 locs) (ge : n0 ≤ a) {x : Int64} (q : ¬ j < 0 ∧ j < n) (i : Nat) (hi : j.toNatClampNeg = i) (hl : i < vs.length) (hg : g.method = m) {rest : List Value} (hs : g.stack = .long x :: .int j :: .ref a :: rest) (hd : decode c.code g.pc = .ok (.lastore, 1)) :
    ∃ T' h' L, Stand p l e R s m args below meth c T' L cells slots ∧ T'.heap = h' ∧ Fr n0 L ∧ Wr h h' a j.toNatClampNeg (.long x) ∧ Arv Z h' a k .long n (vs.set i (.long x)) d ∧ ∀ t, Steps p.tables e below (T'.setTop { g with pc := g.pc + 1, stack := rest }) t → Steps p.tables e below (T.setTop g) t := by
  obtain ⟨cl, Ar, q1, Sz, Ng, Hs, Gs⟩ := F
  obtain ⟨T', h', X', e', W, st⟩ := stJ X hx hZ eT Ar (j := j) (x := x) (inb_of Sz q) hg hs hd
  exact ⟨T', h', _, X', e', Fr.snoc X' N ge, W, Arv.set Ar q1 Sz Ng Hs Gs rfl W i hi hl, st⟩
theorem own_stB (X : Stand p l e R s m args below meth c T locs cells slots) (hx : p.tables.exec = Jvm.exec) (hZ : Z.Warmed39 s.vm) (eT : T.heap = h) (F : Arv Z h a k .byte n vs d) (N : Fr n0 locs) (ge : n0 ≤ a) {x : Int32} (q : ¬ j < 0 ∧ j < n) (i : Nat) (hi : j.toNatClampNeg = i) (hl : i < vs.length) (hg : g.method = m) {rest : List Value} (hs : g.stack = .int x :: .int j :: .ref a :: rest) (hd : decode c.code g.pc = .ok (.bastore, 1)) :
    ∃ T' h' L, Stand p l e R s m args below meth c T' L cells slots ∧ T'.heap = h' ∧ Fr n0 L ∧ Wr h h' a j.toNatClampNeg (.int (nar .byte x)) ∧ Arv Z h' a k .byte n (vs.set i (.int (nar .byte x))) d ∧ ∀ t, Steps p.tables e below (T'.setTop { g with pc := g.pc + 1, stack := rest }) t → Steps p.tables e below (T.setTop g) t := by
  obtain ⟨cl, Ar, q1, Sz, Ng, Hs, Gs⟩ := F
  obtain ⟨T', h', X', e', W, st⟩ := stB X hx hZ eT Ar (j := j) (x := x) (inb_of Sz q) hg hs hd
  exact ⟨T', h', _, X', e', Fr.snoc X' N ge, W, Arv.set Ar q1 Sz Ng Hs Gs (fits_nar_byte _) W i hi hl, st⟩
theorem own_ldR {Cn : String} (X : Stand p l e R s m args below meth c T locs cells slots) (hx : p.tables.exec = Jvm.exec) (hZ : Z.Warmed39 s.vm) (eT : T.heap = h) (F : Arv Z h a k (.object Cn) n vs d) (q : ¬ j < 0 ∧ j < n) (u : vs.getD j.toNatClampNeg d = v) (hg : g.method = m) {rest : List Value} (hs : g.stack = .int j :: .ref a :: rest) (hd : decode c.code g.pc = .ok (.aaload, 1)) :
    ∀ t, Steps p.tables e below (T.setTop { g with pc := g.pc + 1, stack := v :: rest }) t → Steps p.tables e below (T.setTop g) t := by
  obtain ⟨cl, Ar, -, Sz, -, Hs, -⟩ := F
  exact fun t kt => X.aaload hx (by rw [eT]; exact Ar.1) (State.isArrayOf_alike hZ.alike Ar.2.1) rfl Ar.2.2 (inb_of Sz q) (Hs.at (inb_of Sz q) u) hg hs hd t kt
theorem own_stR {Cn : String} {y : Addr} (X : Stand p l e R s m args below meth c T locs cells slots) (hx : p.tables.exec = Jvm.exec) (hZ : Z.Warmed39 s.vm) (eT : T.heap = h) (F : Arv Z h a k (.object Cn) n vs d) (O : Ovr Z k Cn) (I : Ins Z h y Cn true) (N : Fr n0 locs) (ge : n0 ≤ a) (q : ¬ j < 0 ∧ j < n) (i : Nat) (hi : j.toNatClampNeg = i) (hl : i < vs.length) (hg : g.method = m) {rest : List Value} (hs : g.stack = .ref y :: .int j :: .ref a :: rest) (hd : decode c.code g.pc = .ok (.aastore, 1)) :
    ∃ T' h' L, Stand p l e R s m args below meth c T' L cells slots ∧ T'.heap = h' ∧ Fr n0 L ∧ Wr h h' a j.toNatClampNeg (.ref y) ∧ Arv Z h' a k (.object Cn) n (vs.set i (.ref y)) d ∧ ∀ t, Steps p.tables e below (T'.setTop { g with pc := g.pc + 1, stack := rest }) t → Steps p.tables e below (T.setTop g) t := by
  obtain ⟨cl, Ar, q1, Sz, Ng, Hs, Gs⟩ := F
  obtain ⟨T', h', X', e', W, st⟩ := stR X hx hZ eT Ar (j := j) (v := .ref y) (inb_of Sz q) rfl (Sto.ofV Ar q1 O I) hg hs hd
  exact ⟨T', h', _, X', e', Fr.snoc X' N ge, W, Arv.set Ar q1 Sz Ng Hs Gs rfl W i hi hl, st⟩
end OwnRun
theorem own_last (x : Int32) (h0 : ¬ (x &&& (7 : Int32)) = (0 : Int32)) (h1 : ¬ (x &&& (7 : Int32)) = (1 : Int32)) (h2 : ¬ (x &&& (7 : Int32)) = (2 : Int32)) (h3 : ¬ (x &&& (7 : Int32)) = (3 : Int32)) (h4 : ¬ (x &&& (7 : Int32)) = (4 : Int32)) (h5 : ¬ (x &&& (7 : Int32)) = (5 : Int32)) (h6 : ¬ (x &&& (7 : Int32)) = (6 : Int32)) : (x &&& (7 : Int32)) = (7 : Int32) := by
  have h : (x &&& (7 : Int32)).toInt = x.toInt % 2 ^ 3 := Jvm.Kit.i32_mask x 7 (k := 3) (by decide) (by decide)
  have e0 : (0 : Int32).toInt = 0 := by decide
  have e1 : (1 : Int32).toInt = 1 := by decide
  have e2 : (2 : Int32).toInt = 2 := by decide
  have e3 : (3 : Int32).toInt = 3 := by decide
  have e4 : (4 : Int32).toInt = 4 := by decide
  have e5 : (5 : Int32).toInt = 5 := by decide
  have e6 : (6 : Int32).toInt = 6 := by decide
  have e7 : (7 : Int32).toInt = 7 := by decide
  rw [← Int32.toInt_inj] at h0 h1 h2 h3 h4 h5 h6 ⊢
  omega
theorem own_fieldJ {args : Array Value} {s : State} {t : Term} {w : Addr} {C f : String} {v : Int64} (ev : t.eval args s none [] s = some (.ref w)) (h : (Cond.eq (Term.field t C f "J") (Term.long v)).value args s none s [] = some true) : Fld s s.heap w C f "J" (.long v) := by
  obtain ⟨x, y, hx, hy, k1, k2⟩ := cmp_v (Or.inl h)
  have hy' : (.long v : Value) = y := by simpa [Term.eval] using hy
  subst hy'
  obtain ⟨z, rfl⟩ : ∃ z, x = .long z := k2
  have := gotT (eq_L hx hy) h; subst this
  exact Fld.start (by rw [← fld_at ev]; exact hx)

theorem own_pn0 : plainName "com/example/fuxi/fuxi/model/PartKeepsPinLaw" = true := by first | (simp [plainName, overriddenIn]; done) | decide +kernel
theorem own_d1_0 : decode method_2_code 0 = .ok (.iload_n 0, 1) := by decide +kernel
theorem own_d1_1 : decode method_2_code 1 = .ok (.bipush 65, 2) := by decide +kernel
theorem own_d1_3 : decode method_2_code 3 = .ok (.if_icmp .lt 9, 3) := by decide +kernel
theorem own_d1_6 : decode method_2_code 6 = .ok (.iload_n 0, 1) := by decide +kernel
theorem own_d1_7 : decode method_2_code 7 = .ok (.bipush 90, 2) := by decide +kernel
theorem own_d1_9 : decode method_2_code 9 = .ok (.if_icmp .le 27, 3) := by decide +kernel
theorem own_d1_12 : decode method_2_code 12 = .ok (.iload_n 0, 1) := by decide +kernel
theorem own_d1_13 : decode method_2_code 13 = .ok (.bipush 97, 2) := by decide +kernel
theorem own_d1_15 : decode method_2_code 15 = .ok (.if_icmp .lt 9, 3) := by decide +kernel
theorem own_d1_18 : decode method_2_code 18 = .ok (.iload_n 0, 1) := by decide +kernel
theorem own_d1_19 : decode method_2_code 19 = .ok (.bipush 122, 2) := by decide +kernel
theorem own_d1_21 : decode method_2_code 21 = .ok (.if_icmp .le 15, 3) := by decide +kernel
theorem own_d1_24 : decode method_2_code 24 = .ok (.iload_n 0, 1) := by decide +kernel
theorem own_d1_25 : decode method_2_code 25 = .ok (.bipush 48, 2) := by decide +kernel
theorem own_d1_27 : decode method_2_code 27 = .ok (.if_icmp .lt 13, 3) := by decide +kernel
theorem own_d1_30 : decode method_2_code 30 = .ok (.iload_n 0, 1) := by decide +kernel
theorem own_d1_31 : decode method_2_code 31 = .ok (.bipush 57, 2) := by decide +kernel
theorem own_d1_33 : decode method_2_code 33 = .ok (.if_icmp .gt 7, 3) := by decide +kernel
theorem own_d1_36 : decode method_2_code 36 = .ok (.iconst 1, 1) := by decide +kernel
theorem own_d1_37 : decode method_2_code 37 = .ok (.goto 4, 3) := by decide +kernel
theorem own_d1_40 : decode method_2_code 40 = .ok (.iconst 0, 1) := by decide +kernel
theorem own_d1_41 : decode method_2_code 41 = .ok (.ireturn, 1) := by decide +kernel
def own_r1_24 (p0 : Int32) : Int32 := (if p0 < (48 : Int32) then (0 : Int32) else (if (57 : Int32) < p0 then (0 : Int32) else (1 : Int32)))
def own_r1_12 (p0 : Int32) : Int32 := (if p0 < (97 : Int32) then (own_r1_24 p0) else (if (122 : Int32) < p0 then (own_r1_24 p0) else (1 : Int32)))
def own_r1 (p0 : Int32) : Int32 := (if p0 < (65 : Int32) then (own_r1_12 p0) else (if (90 : Int32) < p0 then (own_r1_12 p0) else (1 : Int32)))
theorem own_ef1 (m : MethodId) (p0 : Int32) : entryFrame m #[(.int p0)] 1 = (mkF m 0 #[.val (.int p0)] []) := by first | (simp [entryFrame, mkF, argsToLocals, Value.category]; done) | rfl
set_option maxRecDepth 65536 in
set_option maxHeartbeats 40000000 in
theorem rm1 (l : Launch) (Z : State) (av0 : Array Value) (hw : ∀ d ∈ tables_1, d.before av0 Z = true) (ws : List Jvm.Cond) (p0 : Int32) (h0 : Heap) (n0 : Nat) (Z0 : n0 ≤ h0.size) :
    MetFree l (⟨"com/example/fuxi/fuxi/model/PartKeepsPinLaw", "alnum", "(I)Z"⟩ : MethodName) (head1 (Jvm.Cond.code (⟨"com/example/fuxi/fuxi/model/PartKeepsPinLaw", "alnum", "(I)Z"⟩ : MethodName) method_2_code 1 (some .boolean) :: ws) ({ frames := 0, cells := 0, slots := 0, locals := 0 } : Room)) (fun a U => a = #[(.int p0)] ∧ Z.Warmed39 U.vm ∧ U.heap = h0) (fun _ _ _ _ _ => True) (fun _ U o U' => ∃ v L, o = .returned v ∧ own_Q n0 (fun h => h = h0) (some (.int (own_r1 p0))) v U'.heap L ∧ FrameEnd U o U' L ({ frames := 0, cells := 0, slots := 0, locals := 0 } : Room).cells ({ frames := 0, cells := 0, slots := 0, locals := 0 } : Room).slots) := by
  refine MetFree.of_bodySF (plainFor_of_name own_pn0) hisR ?_
  intro p e s m args below meth c s₁ Bd hml0 hP hK
  obtain ⟨rfl, hZ, hh⟩ := hP
  have hx := Bd.exec
  have hby := Bd.bytes
  have hml : c.maxLocals = 1 := hml0
  have hown : s.vm.findClass "com/example/fuxi/fuxi/model/PartKeepsPinLaw" = some m.cls := findClass_of_methodNamed Bd.named
  have hnm := (name_of_methodNamed Bd.named Bd.method).1
  have hret := Bd.returns
  have hlk : meth.locks = false := BodyLoose.notSynchronized Bd
  have X0 : Stand p l e ({ frames := 0, cells := 0, slots := 0, locals := 0 } : Room) s m #[(.int p0)] below meth c s₁ [] 0 0 := Stand.of_body Bd
  have e0 : s₁.heap = h0 := by rw [← hh, Bd.state]; rfl
  have N0 := Fr.nil n0
  clear Bd hh hK
  have B24 : ∀ (T : State) (L : List Loc) , Stand p l e ({ frames := 0, cells := 0, slots := 0, locals := 0 } : Room) s m #[(.int p0)] below meth c T L 0 0 → T.heap = h0 → Fr n0 L → own_Run p e below T (mkF m 24 #[.val (.int p0)] []) (own_Ret FrameEnd s below ({ frames := 0, cells := 0, slots := 0, locals := 0 } : Room).cells ({ frames := 0, cells := 0, slots := 0, locals := 0 } : Room).slots (own_Q n0 (fun h => h = h0) (some (.int (own_r1_24 p0))))) := by
    intro T L  X eT N
    show own_Run p e below T (mkF m 24 #[.val (.int p0)] []) _
    refine own_step (fun t k => XS.iloadN X.here hx rfl (hb hby own_d1_24) rfl  k) ?_
    show own_Run p e below T (mkF m 25 #[.val (.int p0)] [(.int p0)]) _
    refine own_step (fun t k => XS.bipush X.here hx rfl (hb hby own_d1_25) k) ?_
    show own_Run p e below T (mkF m 27 #[.val (.int p0)] [(.int (48 : Int32)), (.int p0)]) _
    by_cases hc7 : p0 < (48 : Int32)
    · refine own_vi (if_pos hc7) ?_
      refine own_step (fun t k => XS.icmpYes X.here hx rfl (pc0 := 27) (pc' := 40) rfl (hb hby own_d1_27) rfl (tlt hc7).1 (by decide) (by decide) k) ?_
      show own_Run p e below T (mkF m 40 #[.val (.int p0)] []) _
      refine own_step (fun t k => XS.iconst X.here hx rfl (hb hby own_d1_40) k) ?_
      show own_Run p e below T (mkF m 41 #[.val (.int p0)] [(.int (0 : Int32))]) _
      exact own_retZ X hx hlk hret (hb hby own_d1_41) (by decide) (by decide) N eT
    · refine own_vi (if_neg hc7) ?_
      refine own_step (fun t k => XS.icmpNo X.here hx rfl (hb hby own_d1_27) rfl (flt hc7).1 k) ?_
      show own_Run p e below T (mkF m 30 #[.val (.int p0)] []) _
      refine own_step (fun t k => XS.iloadN X.here hx rfl (hb hby own_d1_30) rfl  k) ?_
      show own_Run p e below T (mkF m 31 #[.val (.int p0)] [(.int p0)]) _
      refine own_step (fun t k => XS.bipush X.here hx rfl (hb hby own_d1_31) k) ?_
      show own_Run p e below T (mkF m 33 #[.val (.int p0)] [(.int (57 : Int32)), (.int p0)]) _
      by_cases hc8 : (57 : Int32) < p0
      · refine own_vi (if_pos hc8) ?_
        refine own_step (fun t k => XS.icmpYes X.here hx rfl (pc0 := 33) (pc' := 40) rfl (hb hby own_d1_33) rfl (tlt hc8).2.2.1 (by decide) (by decide) k) ?_
        show own_Run p e below T (mkF m 40 #[.val (.int p0)] []) _
        refine own_step (fun t k => XS.iconst X.here hx rfl (hb hby own_d1_40) k) ?_
        show own_Run p e below T (mkF m 41 #[.val (.int p0)] [(.int (0 : Int32))]) _
        exact own_retZ X hx hlk hret (hb hby own_d1_41) (by decide) (by decide) N eT
      · refine own_vi (if_neg hc8) ?_
        refine own_step (fun t k => XS.icmpNo X.here hx rfl (hb hby own_d1_33) rfl (flt hc8).2.2.1 k) ?_
        show own_Run p e below T (mkF m 36 #[.val (.int p0)] []) _
        refine own_step (fun t k => XS.iconst X.here hx rfl (hb hby own_d1_36) k) ?_
        show own_Run p e below T (mkF m 37 #[.val (.int p0)] [(.int (1 : Int32))]) _
        refine own_step (fun t k => XS.goto X.here hx rfl (pc0 := 37) (pc' := 41) rfl (hb hby own_d1_37) (by decide) (by decide) k) ?_
        show own_Run p e below T (mkF m 41 #[.val (.int p0)] [(.int (1 : Int32))]) _
        exact own_retZ X hx hlk hret (hb hby own_d1_41) (by decide) (by decide) N eT
  have B12 : ∀ (T : State) (L : List Loc) , Stand p l e ({ frames := 0, cells := 0, slots := 0, locals := 0 } : Room) s m #[(.int p0)] below meth c T L 0 0 → T.heap = h0 → Fr n0 L → own_Run p e below T (mkF m 12 #[.val (.int p0)] []) (own_Ret FrameEnd s below ({ frames := 0, cells := 0, slots := 0, locals := 0 } : Room).cells ({ frames := 0, cells := 0, slots := 0, locals := 0 } : Room).slots (own_Q n0 (fun h => h = h0) (some (.int (own_r1_12 p0))))) := by
    intro T L  X eT N
    show own_Run p e below T (mkF m 12 #[.val (.int p0)] []) _
    refine own_step (fun t k => XS.iloadN X.here hx rfl (hb hby own_d1_12) rfl  k) ?_
    show own_Run p e below T (mkF m 13 #[.val (.int p0)] [(.int p0)]) _
    refine own_step (fun t k => XS.bipush X.here hx rfl (hb hby own_d1_13) k) ?_
    show own_Run p e below T (mkF m 15 #[.val (.int p0)] [(.int (97 : Int32)), (.int p0)]) _
    by_cases hc9 : p0 < (97 : Int32)
    · refine own_vi (if_pos hc9) ?_
      refine own_step (fun t k => XS.icmpYes X.here hx rfl (pc0 := 15) (pc' := 24) rfl (hb hby own_d1_15) rfl (tlt hc9).1 (by decide) (by decide) k) ?_
      show own_Run p e below T (mkF m 24 #[.val (.int p0)] []) _
      exact B24 T _  X eT N
    · refine own_vi (if_neg hc9) ?_
      refine own_step (fun t k => XS.icmpNo X.here hx rfl (hb hby own_d1_15) rfl (flt hc9).1 k) ?_
      show own_Run p e below T (mkF m 18 #[.val (.int p0)] []) _
      refine own_step (fun t k => XS.iloadN X.here hx rfl (hb hby own_d1_18) rfl  k) ?_
      show own_Run p e below T (mkF m 19 #[.val (.int p0)] [(.int p0)]) _
      refine own_step (fun t k => XS.bipush X.here hx rfl (hb hby own_d1_19) k) ?_
      show own_Run p e below T (mkF m 21 #[.val (.int p0)] [(.int (122 : Int32)), (.int p0)]) _
      by_cases hc10 : (122 : Int32) < p0
      · refine own_vi (if_pos hc10) ?_
        refine own_step (fun t k => XS.icmpNo X.here hx rfl (hb hby own_d1_21) rfl (tlt hc10).2.2.2 k) ?_
        show own_Run p e below T (mkF m 24 #[.val (.int p0)] []) _
        exact B24 T _  X eT N
      · refine own_vi (if_neg hc10) ?_
        refine own_step (fun t k => XS.icmpYes X.here hx rfl (pc0 := 21) (pc' := 36) rfl (hb hby own_d1_21) rfl (flt hc10).2.2.2 (by decide) (by decide) k) ?_
        show own_Run p e below T (mkF m 36 #[.val (.int p0)] []) _
        refine own_step (fun t k => XS.iconst X.here hx rfl (hb hby own_d1_36) k) ?_
        show own_Run p e below T (mkF m 37 #[.val (.int p0)] [(.int (1 : Int32))]) _
        refine own_step (fun t k => XS.goto X.here hx rfl (pc0 := 37) (pc' := 41) rfl (hb hby own_d1_37) (by decide) (by decide) k) ?_
        show own_Run p e below T (mkF m 41 #[.val (.int p0)] [(.int (1 : Int32))]) _
        exact own_retZ X hx hlk hret (hb hby own_d1_41) (by decide) (by decide) N eT
  refine own_fin ?_
  refine own_entry (own_ef1 m p0) ?_
  show own_Run p e below s₁ _ (own_Ret _ s below _ _ (own_Q n0 _ (some (.int (if p0 < (65 : Int32) then (own_r1_12 p0) else (if (90 : Int32) < p0 then (own_r1_12 p0) else (1 : Int32)))))))
  show own_Run p e below s₁ (mkF m 0 #[.val (.int p0)] []) _
  refine own_step (fun t k => XS.iloadN X0.here hx rfl (hb hby own_d1_0) rfl  k) ?_
  show own_Run p e below s₁ (mkF m 1 #[.val (.int p0)] [(.int p0)]) _
  refine own_step (fun t k => XS.bipush X0.here hx rfl (hb hby own_d1_1) k) ?_
  show own_Run p e below s₁ (mkF m 3 #[.val (.int p0)] [(.int (65 : Int32)), (.int p0)]) _
  by_cases hc11 : p0 < (65 : Int32)
  · refine own_vi (if_pos hc11) ?_
    refine own_step (fun t k => XS.icmpYes X0.here hx rfl (pc0 := 3) (pc' := 12) rfl (hb hby own_d1_3) rfl (tlt hc11).1 (by decide) (by decide) k) ?_
    show own_Run p e below s₁ (mkF m 12 #[.val (.int p0)] []) _
    exact B12 s₁ _  X0 e0 N0
  · refine own_vi (if_neg hc11) ?_
    refine own_step (fun t k => XS.icmpNo X0.here hx rfl (hb hby own_d1_3) rfl (flt hc11).1 k) ?_
    show own_Run p e below s₁ (mkF m 6 #[.val (.int p0)] []) _
    refine own_step (fun t k => XS.iloadN X0.here hx rfl (hb hby own_d1_6) rfl  k) ?_
    show own_Run p e below s₁ (mkF m 7 #[.val (.int p0)] [(.int p0)]) _
    refine own_step (fun t k => XS.bipush X0.here hx rfl (hb hby own_d1_7) k) ?_
    show own_Run p e below s₁ (mkF m 9 #[.val (.int p0)] [(.int (90 : Int32)), (.int p0)]) _
    by_cases hc12 : (90 : Int32) < p0
    · refine own_vi (if_pos hc12) ?_
      refine own_step (fun t k => XS.icmpNo X0.here hx rfl (hb hby own_d1_9) rfl (tlt hc12).2.2.2 k) ?_
      show own_Run p e below s₁ (mkF m 12 #[.val (.int p0)] []) _
      exact B12 s₁ _  X0 e0 N0
    · refine own_vi (if_neg hc12) ?_
      refine own_step (fun t k => XS.icmpYes X0.here hx rfl (pc0 := 9) (pc' := 36) rfl (hb hby own_d1_9) rfl (flt hc12).2.2.2 (by decide) (by decide) k) ?_
      show own_Run p e below s₁ (mkF m 36 #[.val (.int p0)] []) _
      refine own_step (fun t k => XS.iconst X0.here hx rfl (hb hby own_d1_36) k) ?_
      show own_Run p e below s₁ (mkF m 37 #[.val (.int p0)] [(.int (1 : Int32))]) _
      refine own_step (fun t k => XS.goto X0.here hx rfl (pc0 := 37) (pc' := 41) rfl (hb hby own_d1_37) (by decide) (by decide) k) ?_
      show own_Run p e below s₁ (mkF m 41 #[.val (.int p0)] [(.int (1 : Int32))]) _
      exact own_retZ X0 hx hlk hret (hb hby own_d1_41) (by decide) (by decide) N0 e0
theorem own_d2_0 : decode method_3_code 0 = .ok (.iload_n 0, 1) := by decide +kernel
theorem own_d2_1 : decode method_3_code 1 = .ok (.bipush 7, 2) := by decide +kernel
theorem own_d2_3 : decode method_3_code 3 = .ok (.if_icmp .ne 33, 3) := by decide +kernel
theorem own_d2_6 : decode method_3_code 6 = .ok (.iload_n 1, 1) := by decide +kernel
theorem own_d2_7 : decode method_3_code 7 = .ok (.bipush 42, 2) := by decide +kernel
theorem own_d2_9 : decode method_3_code 9 = .ok (.if_icmp .eq 21, 3) := by decide +kernel
theorem own_d2_12 : decode method_3_code 12 = .ok (.iload_n 1, 1) := by decide +kernel
theorem own_d2_13 : decode method_3_code 13 = .ok (.bipush 45, 2) := by decide +kernel
theorem own_d2_15 : decode method_3_code 15 = .ok (.if_icmp .eq 15, 3) := by decide +kernel
theorem own_d2_18 : decode method_3_code 18 = .ok (.iload_n 1, 1) := by decide +kernel
theorem own_d2_19 : decode method_3_code 19 = .ok (.bipush 46, 2) := by decide +kernel
theorem own_d2_21 : decode method_3_code 21 = .ok (.if_icmp .eq 9, 3) := by decide +kernel
theorem own_d2_24 : decode method_3_code 24 = .ok (.iload_n 1, 1) := by decide +kernel
theorem own_d2_25 : decode method_3_code 25 = .ok (.bipush 95, 2) := by decide +kernel
theorem own_d2_27 : decode method_3_code 27 = .ok (.if_icmp .ne 7, 3) := by decide +kernel
theorem own_d2_30 : decode method_3_code 30 = .ok (.iconst 1, 1) := by decide +kernel
theorem own_d2_31 : decode method_3_code 31 = .ok (.goto 4, 3) := by decide +kernel
theorem own_d2_34 : decode method_3_code 34 = .ok (.iconst 0, 1) := by decide +kernel
theorem own_d2_35 : decode method_3_code 35 = .ok (.ireturn, 1) := by decide +kernel
theorem own_d2_36 : decode method_3_code 36 = .ok (.iload_n 1, 1) := by decide +kernel
theorem own_d2_37 : decode method_3_code 37 = .ok (.bipush 45, 2) := by decide +kernel
theorem own_d2_39 : decode method_3_code 39 = .ok (.if_icmp .eq 21, 3) := by decide +kernel
theorem own_d2_42 : decode method_3_code 42 = .ok (.iload_n 1, 1) := by decide +kernel
theorem own_d2_43 : decode method_3_code 43 = .ok (.bipush 46, 2) := by decide +kernel
theorem own_d2_45 : decode method_3_code 45 = .ok (.if_icmp .eq 15, 3) := by decide +kernel
theorem own_d2_48 : decode method_3_code 48 = .ok (.iload_n 1, 1) := by decide +kernel
theorem own_d2_49 : decode method_3_code 49 = .ok (.bipush 95, 2) := by decide +kernel
theorem own_d2_51 : decode method_3_code 51 = .ok (.if_icmp .eq 9, 3) := by decide +kernel
theorem own_d2_54 : decode method_3_code 54 = .ok (.iload_n 1, 1) := by decide +kernel
theorem own_d2_55 : decode method_3_code 55 = .ok (.bipush 126, 2) := by decide +kernel
theorem own_d2_57 : decode method_3_code 57 = .ok (.if_icmp .ne 5, 3) := by decide +kernel
theorem own_d2_60 : decode method_3_code 60 = .ok (.iconst 1, 1) := by decide +kernel
theorem own_d2_61 : decode method_3_code 61 = .ok (.ireturn, 1) := by decide +kernel
theorem own_d2_62 : decode method_3_code 62 = .ok (.iload_n 0, 1) := by decide +kernel
theorem own_d2_63 : decode method_3_code 63 = .ok (.ifCond .ne 5, 3) := by decide +kernel
theorem own_d2_66 : decode method_3_code 66 = .ok (.iconst 0, 1) := by decide +kernel
theorem own_d2_67 : decode method_3_code 67 = .ok (.ireturn, 1) := by decide +kernel
theorem own_d2_68 : decode method_3_code 68 = .ok (.iload_n 1, 1) := by decide +kernel
theorem own_d2_69 : decode method_3_code 69 = .ok (.bipush 33, 2) := by decide +kernel
theorem own_d2_71 : decode method_3_code 71 = .ok (.if_icmp .eq 39, 3) := by decide +kernel
theorem own_d2_74 : decode method_3_code 74 = .ok (.iload_n 1, 1) := by decide +kernel
theorem own_d2_75 : decode method_3_code 75 = .ok (.bipush 36, 2) := by decide +kernel
theorem own_d2_77 : decode method_3_code 77 = .ok (.if_icmp .eq 33, 3) := by decide +kernel
theorem own_d2_80 : decode method_3_code 80 = .ok (.iload_n 1, 1) := by decide +kernel
theorem own_d2_81 : decode method_3_code 81 = .ok (.bipush 39, 2) := by decide +kernel
theorem own_d2_83 : decode method_3_code 83 = .ok (.if_icmp .eq 27, 3) := by decide +kernel
theorem own_d2_86 : decode method_3_code 86 = .ok (.iload_n 1, 1) := by decide +kernel
theorem own_d2_87 : decode method_3_code 87 = .ok (.bipush 40, 2) := by decide +kernel
theorem own_d2_89 : decode method_3_code 89 = .ok (.if_icmp .eq 21, 3) := by decide +kernel
theorem own_d2_92 : decode method_3_code 92 = .ok (.iload_n 1, 1) := by decide +kernel
theorem own_d2_93 : decode method_3_code 93 = .ok (.bipush 41, 2) := by decide +kernel
theorem own_d2_95 : decode method_3_code 95 = .ok (.if_icmp .eq 15, 3) := by decide +kernel
theorem own_d2_98 : decode method_3_code 98 = .ok (.iload_n 1, 1) := by decide +kernel
theorem own_d2_99 : decode method_3_code 99 = .ok (.bipush 42, 2) := by decide +kernel
theorem own_d2_101 : decode method_3_code 101 = .ok (.if_icmp .eq 9, 3) := by decide +kernel
theorem own_d2_104 : decode method_3_code 104 = .ok (.iload_n 1, 1) := by decide +kernel
theorem own_d2_105 : decode method_3_code 105 = .ok (.bipush 44, 2) := by decide +kernel
theorem own_d2_107 : decode method_3_code 107 = .ok (.if_icmp .ne 5, 3) := by decide +kernel
theorem own_d2_110 : decode method_3_code 110 = .ok (.iconst 1, 1) := by decide +kernel
theorem own_d2_111 : decode method_3_code 111 = .ok (.ireturn, 1) := by decide +kernel
theorem own_d2_112 : decode method_3_code 112 = .ok (.iload_n 1, 1) := by decide +kernel
theorem own_d2_113 : decode method_3_code 113 = .ok (.bipush 38, 2) := by decide +kernel
theorem own_d2_115 : decode method_3_code 115 = .ok (.if_icmp .eq 21, 3) := by decide +kernel
theorem own_d2_118 : decode method_3_code 118 = .ok (.iload_n 1, 1) := by decide +kernel
theorem own_d2_119 : decode method_3_code 119 = .ok (.bipush 43, 2) := by decide +kernel
theorem own_d2_121 : decode method_3_code 121 = .ok (.if_icmp .eq 15, 3) := by decide +kernel
theorem own_d2_124 : decode method_3_code 124 = .ok (.iload_n 1, 1) := by decide +kernel
theorem own_d2_125 : decode method_3_code 125 = .ok (.bipush 59, 2) := by decide +kernel
theorem own_d2_127 : decode method_3_code 127 = .ok (.if_icmp .eq 9, 3) := by decide +kernel
theorem own_d2_130 : decode method_3_code 130 = .ok (.iload_n 1, 1) := by decide +kernel
theorem own_d2_131 : decode method_3_code 131 = .ok (.bipush 61, 2) := by decide +kernel
theorem own_d2_133 : decode method_3_code 133 = .ok (.if_icmp .ne 14, 3) := by decide +kernel
theorem own_d2_136 : decode method_3_code 136 = .ok (.iload_n 0, 1) := by decide +kernel
theorem own_d2_137 : decode method_3_code 137 = .ok (.iconst 4, 1) := by decide +kernel
theorem own_d2_138 : decode method_3_code 138 = .ok (.if_icmp .eq 7, 3) := by decide +kernel
theorem own_d2_141 : decode method_3_code 141 = .ok (.iconst 1, 1) := by decide +kernel
theorem own_d2_142 : decode method_3_code 142 = .ok (.goto 4, 3) := by decide +kernel
theorem own_d2_145 : decode method_3_code 145 = .ok (.iconst 0, 1) := by decide +kernel
theorem own_d2_146 : decode method_3_code 146 = .ok (.ireturn, 1) := by decide +kernel
theorem own_d2_147 : decode method_3_code 147 = .ok (.iload_n 1, 1) := by decide +kernel
theorem own_d2_148 : decode method_3_code 148 = .ok (.bipush 58, 2) := by decide +kernel
theorem own_d2_150 : decode method_3_code 150 = .ok (.if_icmp .eq 9, 3) := by decide +kernel
theorem own_d2_153 : decode method_3_code 153 = .ok (.iload_n 1, 1) := by decide +kernel
theorem own_d2_154 : decode method_3_code 154 = .ok (.bipush 64, 2) := by decide +kernel
theorem own_d2_156 : decode method_3_code 156 = .ok (.if_icmp .ne 19, 3) := by decide +kernel
theorem own_d2_159 : decode method_3_code 159 = .ok (.iload_n 0, 1) := by decide +kernel
theorem own_d2_160 : decode method_3_code 160 = .ok (.iconst 1, 1) := by decide +kernel
theorem own_d2_161 : decode method_3_code 161 = .ok (.if_icmp .lt 12, 3) := by decide +kernel
theorem own_d2_164 : decode method_3_code 164 = .ok (.iload_n 0, 1) := by decide +kernel
theorem own_d2_165 : decode method_3_code 165 = .ok (.iconst 5, 1) := by decide +kernel
theorem own_d2_166 : decode method_3_code 166 = .ok (.if_icmp .gt 7, 3) := by decide +kernel
theorem own_d2_169 : decode method_3_code 169 = .ok (.iconst 1, 1) := by decide +kernel
theorem own_d2_170 : decode method_3_code 170 = .ok (.goto 4, 3) := by decide +kernel
theorem own_d2_173 : decode method_3_code 173 = .ok (.iconst 0, 1) := by decide +kernel
theorem own_d2_174 : decode method_3_code 174 = .ok (.ireturn, 1) := by decide +kernel
theorem own_d2_175 : decode method_3_code 175 = .ok (.iload_n 1, 1) := by decide +kernel
theorem own_d2_176 : decode method_3_code 176 = .ok (.bipush 47, 2) := by decide +kernel
theorem own_d2_178 : decode method_3_code 178 = .ok (.if_icmp .ne 19, 3) := by decide +kernel
theorem own_d2_181 : decode method_3_code 181 = .ok (.iload_n 0, 1) := by decide +kernel
theorem own_d2_182 : decode method_3_code 182 = .ok (.iconst 2, 1) := by decide +kernel
theorem own_d2_183 : decode method_3_code 183 = .ok (.if_icmp .lt 12, 3) := by decide +kernel
theorem own_d2_186 : decode method_3_code 186 = .ok (.iload_n 0, 1) := by decide +kernel
theorem own_d2_187 : decode method_3_code 187 = .ok (.iconst 5, 1) := by decide +kernel
theorem own_d2_188 : decode method_3_code 188 = .ok (.if_icmp .gt 7, 3) := by decide +kernel
theorem own_d2_191 : decode method_3_code 191 = .ok (.iconst 1, 1) := by decide +kernel
theorem own_d2_192 : decode method_3_code 192 = .ok (.goto 4, 3) := by decide +kernel
theorem own_d2_195 : decode method_3_code 195 = .ok (.iconst 0, 1) := by decide +kernel
theorem own_d2_196 : decode method_3_code 196 = .ok (.ireturn, 1) := by decide +kernel
theorem own_d2_197 : decode method_3_code 197 = .ok (.iload_n 1, 1) := by decide +kernel
theorem own_d2_198 : decode method_3_code 198 = .ok (.bipush 63, 2) := by decide +kernel
theorem own_d2_200 : decode method_3_code 200 = .ok (.if_icmp .ne 19, 3) := by decide +kernel
theorem own_d2_203 : decode method_3_code 203 = .ok (.iload_n 0, 1) := by decide +kernel
theorem own_d2_204 : decode method_3_code 204 = .ok (.iconst 3, 1) := by decide +kernel
theorem own_d2_205 : decode method_3_code 205 = .ok (.if_icmp .lt 12, 3) := by decide +kernel
theorem own_d2_208 : decode method_3_code 208 = .ok (.iload_n 0, 1) := by decide +kernel
theorem own_d2_209 : decode method_3_code 209 = .ok (.iconst 5, 1) := by decide +kernel
theorem own_d2_210 : decode method_3_code 210 = .ok (.if_icmp .gt 7, 3) := by decide +kernel
theorem own_d2_213 : decode method_3_code 213 = .ok (.iconst 1, 1) := by decide +kernel
theorem own_d2_214 : decode method_3_code 214 = .ok (.goto 4, 3) := by decide +kernel
theorem own_d2_217 : decode method_3_code 217 = .ok (.iconst 0, 1) := by decide +kernel
theorem own_d2_218 : decode method_3_code 218 = .ok (.ireturn, 1) := by decide +kernel
theorem own_d2_219 : decode method_3_code 219 = .ok (.iconst 0, 1) := by decide +kernel
theorem own_d2_220 : decode method_3_code 220 = .ok (.ireturn, 1) := by decide +kernel
def own_r2_159 (p0 : Int32) (p1 : Int32) : Int32 := (if p0 < (1 : Int32) then (0 : Int32) else (if (5 : Int32) < p0 then (0 : Int32) else (1 : Int32)))
def own_r2_136 (p0 : Int32) (p1 : Int32) : Int32 := (if p0 = (4 : Int32) then (0 : Int32) else (1 : Int32))
def own_r2 (p0 : Int32) (p1 : Int32) : Int32 := (if p0 = (7 : Int32) then (if p1 = (42 : Int32) then (1 : Int32) else (if p1 = (45 : Int32) then (1 : Int32) else (if p1 = (46 : Int32) then (1 : Int32) else (if p1 = (95 : Int32) then (1 : Int32) else (0 : Int32))))) else (if p1 = (45 : Int32) then (1 : Int32) else (if p1 = (46 : Int32) then (1 : Int32) else (if p1 = (95 : Int32) then (1 : Int32) else (if p1 = (126 : Int32) then (1 : Int32) else (if p0 = (0 : Int32) then (0 : Int32) else (if p1 = (33 : Int32) then (1 : Int32) else (if p1 = (36 : Int32) then (1 : Int32) else (if p1 = (39 : Int32) then (1 : Int32) else (if p1 = (40 : Int32) then (1 : Int32) else (if p1 = (41 : Int32) then (1 : Int32) else (if p1 = (42 : Int32) then (1 : Int32) else (if p1 = (44 : Int32) then (1 : Int32) else (if p1 = (38 : Int32) then (own_r2_136 p0 p1) else (if p1 = (43 : Int32) then (own_r2_136 p0 p1) else (if p1 = (59 : Int32) then (own_r2_136 p0 p1) else (if p1 = (61 : Int32) then (own_r2_136 p0 p1) else (if p1 = (58 : Int32) then (own_r2_159 p0 p1) else (if p1 = (64 : Int32) then (own_r2_159 p0 p1) else (if p1 = (47 : Int32) then (if p0 < (2 : Int32) then (0 : Int32) else (if (5 : Int32) < p0 then (0 : Int32) else (1 : Int32))) else (if p1 = (63 : Int32) then (if p0 < (3 : Int32) then (0 : Int32) else (if (5 : Int32) < p0 then (0 : Int32) else (1 : Int32))) else (0 : Int32))))))))))))))))))))))
theorem own_ef2 (m : MethodId) (p0 : Int32) (p1 : Int32) : entryFrame m #[(.int p0), (.int p1)] 2 = (mkF m 0 #[.val (.int p0), .val (.int p1)] []) := by first | (simp [entryFrame, mkF, argsToLocals, Value.category]; done) | rfl
set_option maxRecDepth 65536 in
set_option maxHeartbeats 40000000 in
theorem rm2 (l : Launch) (Z : State) (av0 : Array Value) (hw : ∀ d ∈ tables_1, d.before av0 Z = true) (ws : List Jvm.Cond) (p0 : Int32) (p1 : Int32) (h0 : Heap) (n0 : Nat) (Z0 : n0 ≤ h0.size) :
    MetFree l (⟨"com/example/fuxi/fuxi/model/PartKeepsPinLaw", "punct", "(II)Z"⟩ : MethodName) (head1 (Jvm.Cond.code (⟨"com/example/fuxi/fuxi/model/PartKeepsPinLaw", "punct", "(II)Z"⟩ : MethodName) method_3_code 2 (some .boolean) :: ws) ({ frames := 0, cells := 0, slots := 0, locals := 0 } : Room)) (fun a U => a = #[(.int p0), (.int p1)] ∧ Z.Warmed39 U.vm ∧ U.heap = h0) (fun _ _ _ _ _ => True) (fun _ U o U' => ∃ v L, o = .returned v ∧ own_Q n0 (fun h => h = h0) (some (.int (own_r2 p0 p1))) v U'.heap L ∧ FrameEnd U o U' L ({ frames := 0, cells := 0, slots := 0, locals := 0 } : Room).cells ({ frames := 0, cells := 0, slots := 0, locals := 0 } : Room).slots) := by
  refine MetFree.of_bodySF (plainFor_of_name own_pn0) hisR ?_
  intro p e s m args below meth c s₁ Bd hml0 hP hK
  obtain ⟨rfl, hZ, hh⟩ := hP
  have hx := Bd.exec
  have hby := Bd.bytes
  have hml : c.maxLocals = 2 := hml0
  have hown : s.vm.findClass "com/example/fuxi/fuxi/model/PartKeepsPinLaw" = some m.cls := findClass_of_methodNamed Bd.named
  have hnm := (name_of_methodNamed Bd.named Bd.method).1
  have hret := Bd.returns
  have hlk : meth.locks = false := BodyLoose.notSynchronized Bd
  have X0 : Stand p l e ({ frames := 0, cells := 0, slots := 0, locals := 0 } : Room) s m #[(.int p0), (.int p1)] below meth c s₁ [] 0 0 := Stand.of_body Bd
  have e0 : s₁.heap = h0 := by rw [← hh, Bd.state]; rfl
  have N0 := Fr.nil n0
  clear Bd hh hK
  have B159 : ∀ (T : State) (L : List Loc) , Stand p l e ({ frames := 0, cells := 0, slots := 0, locals := 0 } : Room) s m #[(.int p0), (.int p1)] below meth c T L 0 0 → T.heap = h0 → Fr n0 L → own_Run p e below T (mkF m 159 #[.val (.int p0), .val (.int p1)] []) (own_Ret FrameEnd s below ({ frames := 0, cells := 0, slots := 0, locals := 0 } : Room).cells ({ frames := 0, cells := 0, slots := 0, locals := 0 } : Room).slots (own_Q n0 (fun h => h = h0) (some (.int (own_r2_159 p0 p1))))) := by
    intro T L  X eT N
    show own_Run p e below T (mkF m 159 #[.val (.int p0), .val (.int p1)] []) _
    refine own_step (fun t k => XS.iloadN X.here hx rfl (hb hby own_d2_159) rfl  k) ?_
    show own_Run p e below T (mkF m 160 #[.val (.int p0), .val (.int p1)] [(.int p0)]) _
    refine own_step (fun t k => XS.iconst X.here hx rfl (hb hby own_d2_160) k) ?_
    show own_Run p e below T (mkF m 161 #[.val (.int p0), .val (.int p1)] [(.int (1 : Int32)), (.int p0)]) _
    by_cases hc33 : p0 < (1 : Int32)
    · refine own_vi (if_pos hc33) ?_
      refine own_step (fun t k => XS.icmpYes X.here hx rfl (pc0 := 161) (pc' := 173) rfl (hb hby own_d2_161) rfl (tlt hc33).1 (by decide) (by decide) k) ?_
      show own_Run p e below T (mkF m 173 #[.val (.int p0), .val (.int p1)] []) _
      refine own_step (fun t k => XS.iconst X.here hx rfl (hb hby own_d2_173) k) ?_
      show own_Run p e below T (mkF m 174 #[.val (.int p0), .val (.int p1)] [(.int (0 : Int32))]) _
      exact own_retZ X hx hlk hret (hb hby own_d2_174) (by decide) (by decide) N eT
    · refine own_vi (if_neg hc33) ?_
      refine own_step (fun t k => XS.icmpNo X.here hx rfl (hb hby own_d2_161) rfl (flt hc33).1 k) ?_
      show own_Run p e below T (mkF m 164 #[.val (.int p0), .val (.int p1)] []) _
      refine own_step (fun t k => XS.iloadN X.here hx rfl (hb hby own_d2_164) rfl  k) ?_
      show own_Run p e below T (mkF m 165 #[.val (.int p0), .val (.int p1)] [(.int p0)]) _
      refine own_step (fun t k => XS.iconst X.here hx rfl (hb hby own_d2_165) k) ?_
      show own_Run p e below T (mkF m 166 #[.val (.int p0), .val (.int p1)] [(.int (5 : Int32)), (.int p0)]) _
      by_cases hc34 : (5 : Int32) < p0
      · refine own_vi (if_pos hc34) ?_
        refine own_step (fun t k => XS.icmpYes X.here hx rfl (pc0 := 166) (pc' := 173) rfl (hb hby own_d2_166) rfl (tlt hc34).2.2.1 (by decide) (by decide) k) ?_
        show own_Run p e below T (mkF m 173 #[.val (.int p0), .val (.int p1)] []) _
        refine own_step (fun t k => XS.iconst X.here hx rfl (hb hby own_d2_173) k) ?_
        show own_Run p e below T (mkF m 174 #[.val (.int p0), .val (.int p1)] [(.int (0 : Int32))]) _
        exact own_retZ X hx hlk hret (hb hby own_d2_174) (by decide) (by decide) N eT
      · refine own_vi (if_neg hc34) ?_
        refine own_step (fun t k => XS.icmpNo X.here hx rfl (hb hby own_d2_166) rfl (flt hc34).2.2.1 k) ?_
        show own_Run p e below T (mkF m 169 #[.val (.int p0), .val (.int p1)] []) _
        refine own_step (fun t k => XS.iconst X.here hx rfl (hb hby own_d2_169) k) ?_
        show own_Run p e below T (mkF m 170 #[.val (.int p0), .val (.int p1)] [(.int (1 : Int32))]) _
        refine own_step (fun t k => XS.goto X.here hx rfl (pc0 := 170) (pc' := 174) rfl (hb hby own_d2_170) (by decide) (by decide) k) ?_
        show own_Run p e below T (mkF m 174 #[.val (.int p0), .val (.int p1)] [(.int (1 : Int32))]) _
        exact own_retZ X hx hlk hret (hb hby own_d2_174) (by decide) (by decide) N eT
  have B136 : ∀ (T : State) (L : List Loc) , Stand p l e ({ frames := 0, cells := 0, slots := 0, locals := 0 } : Room) s m #[(.int p0), (.int p1)] below meth c T L 0 0 → T.heap = h0 → Fr n0 L → own_Run p e below T (mkF m 136 #[.val (.int p0), .val (.int p1)] []) (own_Ret FrameEnd s below ({ frames := 0, cells := 0, slots := 0, locals := 0 } : Room).cells ({ frames := 0, cells := 0, slots := 0, locals := 0 } : Room).slots (own_Q n0 (fun h => h = h0) (some (.int (own_r2_136 p0 p1))))) := by
    intro T L  X eT N
    show own_Run p e below T (mkF m 136 #[.val (.int p0), .val (.int p1)] []) _
    refine own_step (fun t k => XS.iloadN X.here hx rfl (hb hby own_d2_136) rfl  k) ?_
    show own_Run p e below T (mkF m 137 #[.val (.int p0), .val (.int p1)] [(.int p0)]) _
    refine own_step (fun t k => XS.iconst X.here hx rfl (hb hby own_d2_137) k) ?_
    show own_Run p e below T (mkF m 138 #[.val (.int p0), .val (.int p1)] [(.int (4 : Int32)), (.int p0)]) _
    by_cases hc35 : p0 = (4 : Int32)
    · refine own_vi (if_pos hc35) ?_
      refine own_step (fun t k => XS.icmpYes X.here hx rfl (pc0 := 138) (pc' := 145) rfl (hb hby own_d2_138) rfl (teq hc35).1 (by decide) (by decide) k) ?_
      show own_Run p e below T (mkF m 145 #[.val (.int p0), .val (.int p1)] []) _
      refine own_step (fun t k => XS.iconst X.here hx rfl (hb hby own_d2_145) k) ?_
      show own_Run p e below T (mkF m 146 #[.val (.int p0), .val (.int p1)] [(.int (0 : Int32))]) _
      exact own_retZ X hx hlk hret (hb hby own_d2_146) (by decide) (by decide) N eT
    · refine own_vi (if_neg hc35) ?_
      refine own_step (fun t k => XS.icmpNo X.here hx rfl (hb hby own_d2_138) rfl (feq hc35).1 k) ?_
      show own_Run p e below T (mkF m 141 #[.val (.int p0), .val (.int p1)] []) _
      refine own_step (fun t k => XS.iconst X.here hx rfl (hb hby own_d2_141) k) ?_
      show own_Run p e below T (mkF m 142 #[.val (.int p0), .val (.int p1)] [(.int (1 : Int32))]) _
      refine own_step (fun t k => XS.goto X.here hx rfl (pc0 := 142) (pc' := 146) rfl (hb hby own_d2_142) (by decide) (by decide) k) ?_
      show own_Run p e below T (mkF m 146 #[.val (.int p0), .val (.int p1)] [(.int (1 : Int32))]) _
      exact own_retZ X hx hlk hret (hb hby own_d2_146) (by decide) (by decide) N eT
  refine own_fin ?_
  refine own_entry (own_ef2 m p0 p1) ?_
  show own_Run p e below s₁ _ (own_Ret _ s below _ _ (own_Q n0 _ (some (.int (if p0 = (7 : Int32) then (if p1 = (42 : Int32) then (1 : Int32) else (if p1 = (45 : Int32) then (1 : Int32) else (if p1 = (46 : Int32) then (1 : Int32) else (if p1 = (95 : Int32) then (1 : Int32) else (0 : Int32))))) else (if p1 = (45 : Int32) then (1 : Int32) else (if p1 = (46 : Int32) then (1 : Int32) else (if p1 = (95 : Int32) then (1 : Int32) else (if p1 = (126 : Int32) then (1 : Int32) else (if p0 = (0 : Int32) then (0 : Int32) else (if p1 = (33 : Int32) then (1 : Int32) else (if p1 = (36 : Int32) then (1 : Int32) else (if p1 = (39 : Int32) then (1 : Int32) else (if p1 = (40 : Int32) then (1 : Int32) else (if p1 = (41 : Int32) then (1 : Int32) else (if p1 = (42 : Int32) then (1 : Int32) else (if p1 = (44 : Int32) then (1 : Int32) else (if p1 = (38 : Int32) then (own_r2_136 p0 p1) else (if p1 = (43 : Int32) then (own_r2_136 p0 p1) else (if p1 = (59 : Int32) then (own_r2_136 p0 p1) else (if p1 = (61 : Int32) then (own_r2_136 p0 p1) else (if p1 = (58 : Int32) then (own_r2_159 p0 p1) else (if p1 = (64 : Int32) then (own_r2_159 p0 p1) else (if p1 = (47 : Int32) then (if p0 < (2 : Int32) then (0 : Int32) else (if (5 : Int32) < p0 then (0 : Int32) else (1 : Int32))) else (if p1 = (63 : Int32) then (if p0 < (3 : Int32) then (0 : Int32) else (if (5 : Int32) < p0 then (0 : Int32) else (1 : Int32))) else (0 : Int32))))))))))))))))))))))))))
  show own_Run p e below s₁ (mkF m 0 #[.val (.int p0), .val (.int p1)] []) _
  refine own_step (fun t k => XS.iloadN X0.here hx rfl (hb hby own_d2_0) rfl  k) ?_
  show own_Run p e below s₁ (mkF m 1 #[.val (.int p0), .val (.int p1)] [(.int p0)]) _
  refine own_step (fun t k => XS.bipush X0.here hx rfl (hb hby own_d2_1) k) ?_
  show own_Run p e below s₁ (mkF m 3 #[.val (.int p0), .val (.int p1)] [(.int (7 : Int32)), (.int p0)]) _
  by_cases hc36 : p0 = (7 : Int32)
  · refine own_vi (if_pos hc36) ?_
    refine own_step (fun t k => XS.icmpNo X0.here hx rfl (hb hby own_d2_3) rfl (teq hc36).2 k) ?_
    show own_Run p e below s₁ (mkF m 6 #[.val (.int p0), .val (.int p1)] []) _
    refine own_step (fun t k => XS.iloadN X0.here hx rfl (hb hby own_d2_6) rfl  k) ?_
    show own_Run p e below s₁ (mkF m 7 #[.val (.int p0), .val (.int p1)] [(.int p1)]) _
    refine own_step (fun t k => XS.bipush X0.here hx rfl (hb hby own_d2_7) k) ?_
    show own_Run p e below s₁ (mkF m 9 #[.val (.int p0), .val (.int p1)] [(.int (42 : Int32)), (.int p1)]) _
    by_cases hc37 : p1 = (42 : Int32)
    · refine own_vi (if_pos hc37) ?_
      refine own_step (fun t k => XS.icmpYes X0.here hx rfl (pc0 := 9) (pc' := 30) rfl (hb hby own_d2_9) rfl (teq hc37).1 (by decide) (by decide) k) ?_
      show own_Run p e below s₁ (mkF m 30 #[.val (.int p0), .val (.int p1)] []) _
      refine own_step (fun t k => XS.iconst X0.here hx rfl (hb hby own_d2_30) k) ?_
      show own_Run p e below s₁ (mkF m 31 #[.val (.int p0), .val (.int p1)] [(.int (1 : Int32))]) _
      refine own_step (fun t k => XS.goto X0.here hx rfl (pc0 := 31) (pc' := 35) rfl (hb hby own_d2_31) (by decide) (by decide) k) ?_
      show own_Run p e below s₁ (mkF m 35 #[.val (.int p0), .val (.int p1)] [(.int (1 : Int32))]) _
      exact own_retZ X0 hx hlk hret (hb hby own_d2_35) (by decide) (by decide) N0 e0
    · refine own_vi (if_neg hc37) ?_
      refine own_step (fun t k => XS.icmpNo X0.here hx rfl (hb hby own_d2_9) rfl (feq hc37).1 k) ?_
      show own_Run p e below s₁ (mkF m 12 #[.val (.int p0), .val (.int p1)] []) _
      refine own_step (fun t k => XS.iloadN X0.here hx rfl (hb hby own_d2_12) rfl  k) ?_
      show own_Run p e below s₁ (mkF m 13 #[.val (.int p0), .val (.int p1)] [(.int p1)]) _
      refine own_step (fun t k => XS.bipush X0.here hx rfl (hb hby own_d2_13) k) ?_
      show own_Run p e below s₁ (mkF m 15 #[.val (.int p0), .val (.int p1)] [(.int (45 : Int32)), (.int p1)]) _
      by_cases hc38 : p1 = (45 : Int32)
      · refine own_vi (if_pos hc38) ?_
        refine own_step (fun t k => XS.icmpYes X0.here hx rfl (pc0 := 15) (pc' := 30) rfl (hb hby own_d2_15) rfl (teq hc38).1 (by decide) (by decide) k) ?_
        show own_Run p e below s₁ (mkF m 30 #[.val (.int p0), .val (.int p1)] []) _
        refine own_step (fun t k => XS.iconst X0.here hx rfl (hb hby own_d2_30) k) ?_
        show own_Run p e below s₁ (mkF m 31 #[.val (.int p0), .val (.int p1)] [(.int (1 : Int32))]) _
        refine own_step (fun t k => XS.goto X0.here hx rfl (pc0 := 31) (pc' := 35) rfl (hb hby own_d2_31) (by decide) (by decide) k) ?_
        show own_Run p e below s₁ (mkF m 35 #[.val (.int p0), .val (.int p1)] [(.int (1 : Int32))]) _
        exact own_retZ X0 hx hlk hret (hb hby own_d2_35) (by decide) (by decide) N0 e0
      · refine own_vi (if_neg hc38) ?_
        refine own_step (fun t k => XS.icmpNo X0.here hx rfl (hb hby own_d2_15) rfl (feq hc38).1 k) ?_
        show own_Run p e below s₁ (mkF m 18 #[.val (.int p0), .val (.int p1)] []) _
        refine own_step (fun t k => XS.iloadN X0.here hx rfl (hb hby own_d2_18) rfl  k) ?_
        show own_Run p e below s₁ (mkF m 19 #[.val (.int p0), .val (.int p1)] [(.int p1)]) _
        refine own_step (fun t k => XS.bipush X0.here hx rfl (hb hby own_d2_19) k) ?_
        show own_Run p e below s₁ (mkF m 21 #[.val (.int p0), .val (.int p1)] [(.int (46 : Int32)), (.int p1)]) _
        by_cases hc39 : p1 = (46 : Int32)
        · refine own_vi (if_pos hc39) ?_
          refine own_step (fun t k => XS.icmpYes X0.here hx rfl (pc0 := 21) (pc' := 30) rfl (hb hby own_d2_21) rfl (teq hc39).1 (by decide) (by decide) k) ?_
          show own_Run p e below s₁ (mkF m 30 #[.val (.int p0), .val (.int p1)] []) _
          refine own_step (fun t k => XS.iconst X0.here hx rfl (hb hby own_d2_30) k) ?_
          show own_Run p e below s₁ (mkF m 31 #[.val (.int p0), .val (.int p1)] [(.int (1 : Int32))]) _
          refine own_step (fun t k => XS.goto X0.here hx rfl (pc0 := 31) (pc' := 35) rfl (hb hby own_d2_31) (by decide) (by decide) k) ?_
          show own_Run p e below s₁ (mkF m 35 #[.val (.int p0), .val (.int p1)] [(.int (1 : Int32))]) _
          exact own_retZ X0 hx hlk hret (hb hby own_d2_35) (by decide) (by decide) N0 e0
        · refine own_vi (if_neg hc39) ?_
          refine own_step (fun t k => XS.icmpNo X0.here hx rfl (hb hby own_d2_21) rfl (feq hc39).1 k) ?_
          show own_Run p e below s₁ (mkF m 24 #[.val (.int p0), .val (.int p1)] []) _
          refine own_step (fun t k => XS.iloadN X0.here hx rfl (hb hby own_d2_24) rfl  k) ?_
          show own_Run p e below s₁ (mkF m 25 #[.val (.int p0), .val (.int p1)] [(.int p1)]) _
          refine own_step (fun t k => XS.bipush X0.here hx rfl (hb hby own_d2_25) k) ?_
          show own_Run p e below s₁ (mkF m 27 #[.val (.int p0), .val (.int p1)] [(.int (95 : Int32)), (.int p1)]) _
          by_cases hc40 : p1 = (95 : Int32)
          · refine own_vi (if_pos hc40) ?_
            refine own_step (fun t k => XS.icmpNo X0.here hx rfl (hb hby own_d2_27) rfl (teq hc40).2 k) ?_
            show own_Run p e below s₁ (mkF m 30 #[.val (.int p0), .val (.int p1)] []) _
            refine own_step (fun t k => XS.iconst X0.here hx rfl (hb hby own_d2_30) k) ?_
            show own_Run p e below s₁ (mkF m 31 #[.val (.int p0), .val (.int p1)] [(.int (1 : Int32))]) _
            refine own_step (fun t k => XS.goto X0.here hx rfl (pc0 := 31) (pc' := 35) rfl (hb hby own_d2_31) (by decide) (by decide) k) ?_
            show own_Run p e below s₁ (mkF m 35 #[.val (.int p0), .val (.int p1)] [(.int (1 : Int32))]) _
            exact own_retZ X0 hx hlk hret (hb hby own_d2_35) (by decide) (by decide) N0 e0
          · refine own_vi (if_neg hc40) ?_
            refine own_step (fun t k => XS.icmpYes X0.here hx rfl (pc0 := 27) (pc' := 34) rfl (hb hby own_d2_27) rfl (feq hc40).2 (by decide) (by decide) k) ?_
            show own_Run p e below s₁ (mkF m 34 #[.val (.int p0), .val (.int p1)] []) _
            refine own_step (fun t k => XS.iconst X0.here hx rfl (hb hby own_d2_34) k) ?_
            show own_Run p e below s₁ (mkF m 35 #[.val (.int p0), .val (.int p1)] [(.int (0 : Int32))]) _
            exact own_retZ X0 hx hlk hret (hb hby own_d2_35) (by decide) (by decide) N0 e0
  · refine own_vi (if_neg hc36) ?_
    refine own_step (fun t k => XS.icmpYes X0.here hx rfl (pc0 := 3) (pc' := 36) rfl (hb hby own_d2_3) rfl (feq hc36).2 (by decide) (by decide) k) ?_
    show own_Run p e below s₁ (mkF m 36 #[.val (.int p0), .val (.int p1)] []) _
    refine own_step (fun t k => XS.iloadN X0.here hx rfl (hb hby own_d2_36) rfl  k) ?_
    show own_Run p e below s₁ (mkF m 37 #[.val (.int p0), .val (.int p1)] [(.int p1)]) _
    refine own_step (fun t k => XS.bipush X0.here hx rfl (hb hby own_d2_37) k) ?_
    show own_Run p e below s₁ (mkF m 39 #[.val (.int p0), .val (.int p1)] [(.int (45 : Int32)), (.int p1)]) _
    by_cases hc41 : p1 = (45 : Int32)
    · refine own_vi (if_pos hc41) ?_
      refine own_step (fun t k => XS.icmpYes X0.here hx rfl (pc0 := 39) (pc' := 60) rfl (hb hby own_d2_39) rfl (teq hc41).1 (by decide) (by decide) k) ?_
      show own_Run p e below s₁ (mkF m 60 #[.val (.int p0), .val (.int p1)] []) _
      refine own_step (fun t k => XS.iconst X0.here hx rfl (hb hby own_d2_60) k) ?_
      show own_Run p e below s₁ (mkF m 61 #[.val (.int p0), .val (.int p1)] [(.int (1 : Int32))]) _
      exact own_retZ X0 hx hlk hret (hb hby own_d2_61) (by decide) (by decide) N0 e0
    · refine own_vi (if_neg hc41) ?_
      refine own_step (fun t k => XS.icmpNo X0.here hx rfl (hb hby own_d2_39) rfl (feq hc41).1 k) ?_
      show own_Run p e below s₁ (mkF m 42 #[.val (.int p0), .val (.int p1)] []) _
      refine own_step (fun t k => XS.iloadN X0.here hx rfl (hb hby own_d2_42) rfl  k) ?_
      show own_Run p e below s₁ (mkF m 43 #[.val (.int p0), .val (.int p1)] [(.int p1)]) _
      refine own_step (fun t k => XS.bipush X0.here hx rfl (hb hby own_d2_43) k) ?_
      show own_Run p e below s₁ (mkF m 45 #[.val (.int p0), .val (.int p1)] [(.int (46 : Int32)), (.int p1)]) _
      by_cases hc42 : p1 = (46 : Int32)
      · refine own_vi (if_pos hc42) ?_
        refine own_step (fun t k => XS.icmpYes X0.here hx rfl (pc0 := 45) (pc' := 60) rfl (hb hby own_d2_45) rfl (teq hc42).1 (by decide) (by decide) k) ?_
        show own_Run p e below s₁ (mkF m 60 #[.val (.int p0), .val (.int p1)] []) _
        refine own_step (fun t k => XS.iconst X0.here hx rfl (hb hby own_d2_60) k) ?_
        show own_Run p e below s₁ (mkF m 61 #[.val (.int p0), .val (.int p1)] [(.int (1 : Int32))]) _
        exact own_retZ X0 hx hlk hret (hb hby own_d2_61) (by decide) (by decide) N0 e0
      · refine own_vi (if_neg hc42) ?_
        refine own_step (fun t k => XS.icmpNo X0.here hx rfl (hb hby own_d2_45) rfl (feq hc42).1 k) ?_
        show own_Run p e below s₁ (mkF m 48 #[.val (.int p0), .val (.int p1)] []) _
        refine own_step (fun t k => XS.iloadN X0.here hx rfl (hb hby own_d2_48) rfl  k) ?_
        show own_Run p e below s₁ (mkF m 49 #[.val (.int p0), .val (.int p1)] [(.int p1)]) _
        refine own_step (fun t k => XS.bipush X0.here hx rfl (hb hby own_d2_49) k) ?_
        show own_Run p e below s₁ (mkF m 51 #[.val (.int p0), .val (.int p1)] [(.int (95 : Int32)), (.int p1)]) _
        by_cases hc43 : p1 = (95 : Int32)
        · refine own_vi (if_pos hc43) ?_
          refine own_step (fun t k => XS.icmpYes X0.here hx rfl (pc0 := 51) (pc' := 60) rfl (hb hby own_d2_51) rfl (teq hc43).1 (by decide) (by decide) k) ?_
          show own_Run p e below s₁ (mkF m 60 #[.val (.int p0), .val (.int p1)] []) _
          refine own_step (fun t k => XS.iconst X0.here hx rfl (hb hby own_d2_60) k) ?_
          show own_Run p e below s₁ (mkF m 61 #[.val (.int p0), .val (.int p1)] [(.int (1 : Int32))]) _
          exact own_retZ X0 hx hlk hret (hb hby own_d2_61) (by decide) (by decide) N0 e0
        · refine own_vi (if_neg hc43) ?_
          refine own_step (fun t k => XS.icmpNo X0.here hx rfl (hb hby own_d2_51) rfl (feq hc43).1 k) ?_
          show own_Run p e below s₁ (mkF m 54 #[.val (.int p0), .val (.int p1)] []) _
          refine own_step (fun t k => XS.iloadN X0.here hx rfl (hb hby own_d2_54) rfl  k) ?_
          show own_Run p e below s₁ (mkF m 55 #[.val (.int p0), .val (.int p1)] [(.int p1)]) _
          refine own_step (fun t k => XS.bipush X0.here hx rfl (hb hby own_d2_55) k) ?_
          show own_Run p e below s₁ (mkF m 57 #[.val (.int p0), .val (.int p1)] [(.int (126 : Int32)), (.int p1)]) _
          by_cases hc44 : p1 = (126 : Int32)
          · refine own_vi (if_pos hc44) ?_
            refine own_step (fun t k => XS.icmpNo X0.here hx rfl (hb hby own_d2_57) rfl (teq hc44).2 k) ?_
            show own_Run p e below s₁ (mkF m 60 #[.val (.int p0), .val (.int p1)] []) _
            refine own_step (fun t k => XS.iconst X0.here hx rfl (hb hby own_d2_60) k) ?_
            show own_Run p e below s₁ (mkF m 61 #[.val (.int p0), .val (.int p1)] [(.int (1 : Int32))]) _
            exact own_retZ X0 hx hlk hret (hb hby own_d2_61) (by decide) (by decide) N0 e0
          · refine own_vi (if_neg hc44) ?_
            refine own_step (fun t k => XS.icmpYes X0.here hx rfl (pc0 := 57) (pc' := 62) rfl (hb hby own_d2_57) rfl (feq hc44).2 (by decide) (by decide) k) ?_
            show own_Run p e below s₁ (mkF m 62 #[.val (.int p0), .val (.int p1)] []) _
            refine own_step (fun t k => XS.iloadN X0.here hx rfl (hb hby own_d2_62) rfl  k) ?_
            show own_Run p e below s₁ (mkF m 63 #[.val (.int p0), .val (.int p1)] [(.int p0)]) _
            by_cases hc45 : p0 = (0 : Int32)
            · refine own_vi (if_pos hc45) ?_
              refine own_step (fun t k => XS.ifNo X0.here hx rfl (hb hby own_d2_63) rfl ((if0 _ _).trans (teq hc45).2) k) ?_
              show own_Run p e below s₁ (mkF m 66 #[.val (.int p0), .val (.int p1)] []) _
              refine own_step (fun t k => XS.iconst X0.here hx rfl (hb hby own_d2_66) k) ?_
              show own_Run p e below s₁ (mkF m 67 #[.val (.int p0), .val (.int p1)] [(.int (0 : Int32))]) _
              exact own_retZ X0 hx hlk hret (hb hby own_d2_67) (by decide) (by decide) N0 e0
            · refine own_vi (if_neg hc45) ?_
              refine own_step (fun t k => XS.ifYes X0.here hx rfl (pc0 := 63) (pc' := 68) rfl (hb hby own_d2_63) rfl ((if0 _ _).trans (feq hc45).2) (by decide) (by decide) k) ?_
              show own_Run p e below s₁ (mkF m 68 #[.val (.int p0), .val (.int p1)] []) _
              refine own_step (fun t k => XS.iloadN X0.here hx rfl (hb hby own_d2_68) rfl  k) ?_
              show own_Run p e below s₁ (mkF m 69 #[.val (.int p0), .val (.int p1)] [(.int p1)]) _
              refine own_step (fun t k => XS.bipush X0.here hx rfl (hb hby own_d2_69) k) ?_
              show own_Run p e below s₁ (mkF m 71 #[.val (.int p0), .val (.int p1)] [(.int (33 : Int32)), (.int p1)]) _
              by_cases hc46 : p1 = (33 : Int32)
              · refine own_vi (if_pos hc46) ?_
                refine own_step (fun t k => XS.icmpYes X0.here hx rfl (pc0 := 71) (pc' := 110) rfl (hb hby own_d2_71) rfl (teq hc46).1 (by decide) (by decide) k) ?_
                show own_Run p e below s₁ (mkF m 110 #[.val (.int p0), .val (.int p1)] []) _
                refine own_step (fun t k => XS.iconst X0.here hx rfl (hb hby own_d2_110) k) ?_
                show own_Run p e below s₁ (mkF m 111 #[.val (.int p0), .val (.int p1)] [(.int (1 : Int32))]) _
                exact own_retZ X0 hx hlk hret (hb hby own_d2_111) (by decide) (by decide) N0 e0
              · refine own_vi (if_neg hc46) ?_
                refine own_step (fun t k => XS.icmpNo X0.here hx rfl (hb hby own_d2_71) rfl (feq hc46).1 k) ?_
                show own_Run p e below s₁ (mkF m 74 #[.val (.int p0), .val (.int p1)] []) _
                refine own_step (fun t k => XS.iloadN X0.here hx rfl (hb hby own_d2_74) rfl  k) ?_
                show own_Run p e below s₁ (mkF m 75 #[.val (.int p0), .val (.int p1)] [(.int p1)]) _
                refine own_step (fun t k => XS.bipush X0.here hx rfl (hb hby own_d2_75) k) ?_
                show own_Run p e below s₁ (mkF m 77 #[.val (.int p0), .val (.int p1)] [(.int (36 : Int32)), (.int p1)]) _
                by_cases hc47 : p1 = (36 : Int32)
                · refine own_vi (if_pos hc47) ?_
                  refine own_step (fun t k => XS.icmpYes X0.here hx rfl (pc0 := 77) (pc' := 110) rfl (hb hby own_d2_77) rfl (teq hc47).1 (by decide) (by decide) k) ?_
                  show own_Run p e below s₁ (mkF m 110 #[.val (.int p0), .val (.int p1)] []) _
                  refine own_step (fun t k => XS.iconst X0.here hx rfl (hb hby own_d2_110) k) ?_
                  show own_Run p e below s₁ (mkF m 111 #[.val (.int p0), .val (.int p1)] [(.int (1 : Int32))]) _
                  exact own_retZ X0 hx hlk hret (hb hby own_d2_111) (by decide) (by decide) N0 e0
                · refine own_vi (if_neg hc47) ?_
                  refine own_step (fun t k => XS.icmpNo X0.here hx rfl (hb hby own_d2_77) rfl (feq hc47).1 k) ?_
                  show own_Run p e below s₁ (mkF m 80 #[.val (.int p0), .val (.int p1)] []) _
                  refine own_step (fun t k => XS.iloadN X0.here hx rfl (hb hby own_d2_80) rfl  k) ?_
                  show own_Run p e below s₁ (mkF m 81 #[.val (.int p0), .val (.int p1)] [(.int p1)]) _
                  refine own_step (fun t k => XS.bipush X0.here hx rfl (hb hby own_d2_81) k) ?_
                  show own_Run p e below s₁ (mkF m 83 #[.val (.int p0), .val (.int p1)] [(.int (39 : Int32)), (.int p1)]) _
                  by_cases hc48 : p1 = (39 : Int32)
                  · refine own_vi (if_pos hc48) ?_
                    refine own_step (fun t k => XS.icmpYes X0.here hx rfl (pc0 := 83) (pc' := 110) rfl (hb hby own_d2_83) rfl (teq hc48).1 (by decide) (by decide) k) ?_
                    show own_Run p e below s₁ (mkF m 110 #[.val (.int p0), .val (.int p1)] []) _
                    refine own_step (fun t k => XS.iconst X0.here hx rfl (hb hby own_d2_110) k) ?_
                    show own_Run p e below s₁ (mkF m 111 #[.val (.int p0), .val (.int p1)] [(.int (1 : Int32))]) _
                    exact own_retZ X0 hx hlk hret (hb hby own_d2_111) (by decide) (by decide) N0 e0
                  · refine own_vi (if_neg hc48) ?_
                    refine own_step (fun t k => XS.icmpNo X0.here hx rfl (hb hby own_d2_83) rfl (feq hc48).1 k) ?_
                    show own_Run p e below s₁ (mkF m 86 #[.val (.int p0), .val (.int p1)] []) _
                    refine own_step (fun t k => XS.iloadN X0.here hx rfl (hb hby own_d2_86) rfl  k) ?_
                    show own_Run p e below s₁ (mkF m 87 #[.val (.int p0), .val (.int p1)] [(.int p1)]) _
                    refine own_step (fun t k => XS.bipush X0.here hx rfl (hb hby own_d2_87) k) ?_
                    show own_Run p e below s₁ (mkF m 89 #[.val (.int p0), .val (.int p1)] [(.int (40 : Int32)), (.int p1)]) _
                    by_cases hc49 : p1 = (40 : Int32)
                    · refine own_vi (if_pos hc49) ?_
                      refine own_step (fun t k => XS.icmpYes X0.here hx rfl (pc0 := 89) (pc' := 110) rfl (hb hby own_d2_89) rfl (teq hc49).1 (by decide) (by decide) k) ?_
                      show own_Run p e below s₁ (mkF m 110 #[.val (.int p0), .val (.int p1)] []) _
                      refine own_step (fun t k => XS.iconst X0.here hx rfl (hb hby own_d2_110) k) ?_
                      show own_Run p e below s₁ (mkF m 111 #[.val (.int p0), .val (.int p1)] [(.int (1 : Int32))]) _
                      exact own_retZ X0 hx hlk hret (hb hby own_d2_111) (by decide) (by decide) N0 e0
                    · refine own_vi (if_neg hc49) ?_
                      refine own_step (fun t k => XS.icmpNo X0.here hx rfl (hb hby own_d2_89) rfl (feq hc49).1 k) ?_
                      show own_Run p e below s₁ (mkF m 92 #[.val (.int p0), .val (.int p1)] []) _
                      refine own_step (fun t k => XS.iloadN X0.here hx rfl (hb hby own_d2_92) rfl  k) ?_
                      show own_Run p e below s₁ (mkF m 93 #[.val (.int p0), .val (.int p1)] [(.int p1)]) _
                      refine own_step (fun t k => XS.bipush X0.here hx rfl (hb hby own_d2_93) k) ?_
                      show own_Run p e below s₁ (mkF m 95 #[.val (.int p0), .val (.int p1)] [(.int (41 : Int32)), (.int p1)]) _
                      by_cases hc50 : p1 = (41 : Int32)
                      · refine own_vi (if_pos hc50) ?_
                        refine own_step (fun t k => XS.icmpYes X0.here hx rfl (pc0 := 95) (pc' := 110) rfl (hb hby own_d2_95) rfl (teq hc50).1 (by decide) (by decide) k) ?_
                        show own_Run p e below s₁ (mkF m 110 #[.val (.int p0), .val (.int p1)] []) _
                        refine own_step (fun t k => XS.iconst X0.here hx rfl (hb hby own_d2_110) k) ?_
                        show own_Run p e below s₁ (mkF m 111 #[.val (.int p0), .val (.int p1)] [(.int (1 : Int32))]) _
                        exact own_retZ X0 hx hlk hret (hb hby own_d2_111) (by decide) (by decide) N0 e0
                      · refine own_vi (if_neg hc50) ?_
                        refine own_step (fun t k => XS.icmpNo X0.here hx rfl (hb hby own_d2_95) rfl (feq hc50).1 k) ?_
                        show own_Run p e below s₁ (mkF m 98 #[.val (.int p0), .val (.int p1)] []) _
                        refine own_step (fun t k => XS.iloadN X0.here hx rfl (hb hby own_d2_98) rfl  k) ?_
                        show own_Run p e below s₁ (mkF m 99 #[.val (.int p0), .val (.int p1)] [(.int p1)]) _
                        refine own_step (fun t k => XS.bipush X0.here hx rfl (hb hby own_d2_99) k) ?_
                        show own_Run p e below s₁ (mkF m 101 #[.val (.int p0), .val (.int p1)] [(.int (42 : Int32)), (.int p1)]) _
                        by_cases hc51 : p1 = (42 : Int32)
                        · refine own_vi (if_pos hc51) ?_
                          refine own_step (fun t k => XS.icmpYes X0.here hx rfl (pc0 := 101) (pc' := 110) rfl (hb hby own_d2_101) rfl (teq hc51).1 (by decide) (by decide) k) ?_
                          show own_Run p e below s₁ (mkF m 110 #[.val (.int p0), .val (.int p1)] []) _
                          refine own_step (fun t k => XS.iconst X0.here hx rfl (hb hby own_d2_110) k) ?_
                          show own_Run p e below s₁ (mkF m 111 #[.val (.int p0), .val (.int p1)] [(.int (1 : Int32))]) _
                          exact own_retZ X0 hx hlk hret (hb hby own_d2_111) (by decide) (by decide) N0 e0
                        · refine own_vi (if_neg hc51) ?_
                          refine own_step (fun t k => XS.icmpNo X0.here hx rfl (hb hby own_d2_101) rfl (feq hc51).1 k) ?_
                          show own_Run p e below s₁ (mkF m 104 #[.val (.int p0), .val (.int p1)] []) _
                          refine own_step (fun t k => XS.iloadN X0.here hx rfl (hb hby own_d2_104) rfl  k) ?_
                          show own_Run p e below s₁ (mkF m 105 #[.val (.int p0), .val (.int p1)] [(.int p1)]) _
                          refine own_step (fun t k => XS.bipush X0.here hx rfl (hb hby own_d2_105) k) ?_
                          show own_Run p e below s₁ (mkF m 107 #[.val (.int p0), .val (.int p1)] [(.int (44 : Int32)), (.int p1)]) _
                          by_cases hc52 : p1 = (44 : Int32)
                          · refine own_vi (if_pos hc52) ?_
                            refine own_step (fun t k => XS.icmpNo X0.here hx rfl (hb hby own_d2_107) rfl (teq hc52).2 k) ?_
                            show own_Run p e below s₁ (mkF m 110 #[.val (.int p0), .val (.int p1)] []) _
                            refine own_step (fun t k => XS.iconst X0.here hx rfl (hb hby own_d2_110) k) ?_
                            show own_Run p e below s₁ (mkF m 111 #[.val (.int p0), .val (.int p1)] [(.int (1 : Int32))]) _
                            exact own_retZ X0 hx hlk hret (hb hby own_d2_111) (by decide) (by decide) N0 e0
                          · refine own_vi (if_neg hc52) ?_
                            refine own_step (fun t k => XS.icmpYes X0.here hx rfl (pc0 := 107) (pc' := 112) rfl (hb hby own_d2_107) rfl (feq hc52).2 (by decide) (by decide) k) ?_
                            show own_Run p e below s₁ (mkF m 112 #[.val (.int p0), .val (.int p1)] []) _
                            refine own_step (fun t k => XS.iloadN X0.here hx rfl (hb hby own_d2_112) rfl  k) ?_
                            show own_Run p e below s₁ (mkF m 113 #[.val (.int p0), .val (.int p1)] [(.int p1)]) _
                            refine own_step (fun t k => XS.bipush X0.here hx rfl (hb hby own_d2_113) k) ?_
                            show own_Run p e below s₁ (mkF m 115 #[.val (.int p0), .val (.int p1)] [(.int (38 : Int32)), (.int p1)]) _
                            by_cases hc53 : p1 = (38 : Int32)
                            · refine own_vi (if_pos hc53) ?_
                              refine own_step (fun t k => XS.icmpYes X0.here hx rfl (pc0 := 115) (pc' := 136) rfl (hb hby own_d2_115) rfl (teq hc53).1 (by decide) (by decide) k) ?_
                              show own_Run p e below s₁ (mkF m 136 #[.val (.int p0), .val (.int p1)] []) _
                              exact B136 s₁ _  X0 e0 N0
                            · refine own_vi (if_neg hc53) ?_
                              refine own_step (fun t k => XS.icmpNo X0.here hx rfl (hb hby own_d2_115) rfl (feq hc53).1 k) ?_
                              show own_Run p e below s₁ (mkF m 118 #[.val (.int p0), .val (.int p1)] []) _
                              refine own_step (fun t k => XS.iloadN X0.here hx rfl (hb hby own_d2_118) rfl  k) ?_
                              show own_Run p e below s₁ (mkF m 119 #[.val (.int p0), .val (.int p1)] [(.int p1)]) _
                              refine own_step (fun t k => XS.bipush X0.here hx rfl (hb hby own_d2_119) k) ?_
                              show own_Run p e below s₁ (mkF m 121 #[.val (.int p0), .val (.int p1)] [(.int (43 : Int32)), (.int p1)]) _
                              by_cases hc54 : p1 = (43 : Int32)
                              · refine own_vi (if_pos hc54) ?_
                                refine own_step (fun t k => XS.icmpYes X0.here hx rfl (pc0 := 121) (pc' := 136) rfl (hb hby own_d2_121) rfl (teq hc54).1 (by decide) (by decide) k) ?_
                                show own_Run p e below s₁ (mkF m 136 #[.val (.int p0), .val (.int p1)] []) _
                                exact B136 s₁ _  X0 e0 N0
                              · refine own_vi (if_neg hc54) ?_
                                refine own_step (fun t k => XS.icmpNo X0.here hx rfl (hb hby own_d2_121) rfl (feq hc54).1 k) ?_
                                show own_Run p e below s₁ (mkF m 124 #[.val (.int p0), .val (.int p1)] []) _
                                refine own_step (fun t k => XS.iloadN X0.here hx rfl (hb hby own_d2_124) rfl  k) ?_
                                show own_Run p e below s₁ (mkF m 125 #[.val (.int p0), .val (.int p1)] [(.int p1)]) _
                                refine own_step (fun t k => XS.bipush X0.here hx rfl (hb hby own_d2_125) k) ?_
                                show own_Run p e below s₁ (mkF m 127 #[.val (.int p0), .val (.int p1)] [(.int (59 : Int32)), (.int p1)]) _
                                by_cases hc55 : p1 = (59 : Int32)
                                · refine own_vi (if_pos hc55) ?_
                                  refine own_step (fun t k => XS.icmpYes X0.here hx rfl (pc0 := 127) (pc' := 136) rfl (hb hby own_d2_127) rfl (teq hc55).1 (by decide) (by decide) k) ?_
                                  show own_Run p e below s₁ (mkF m 136 #[.val (.int p0), .val (.int p1)] []) _
                                  exact B136 s₁ _  X0 e0 N0
                                · refine own_vi (if_neg hc55) ?_
                                  refine own_step (fun t k => XS.icmpNo X0.here hx rfl (hb hby own_d2_127) rfl (feq hc55).1 k) ?_
                                  show own_Run p e below s₁ (mkF m 130 #[.val (.int p0), .val (.int p1)] []) _
                                  refine own_step (fun t k => XS.iloadN X0.here hx rfl (hb hby own_d2_130) rfl  k) ?_
                                  show own_Run p e below s₁ (mkF m 131 #[.val (.int p0), .val (.int p1)] [(.int p1)]) _
                                  refine own_step (fun t k => XS.bipush X0.here hx rfl (hb hby own_d2_131) k) ?_
                                  show own_Run p e below s₁ (mkF m 133 #[.val (.int p0), .val (.int p1)] [(.int (61 : Int32)), (.int p1)]) _
                                  by_cases hc56 : p1 = (61 : Int32)
                                  · refine own_vi (if_pos hc56) ?_
                                    refine own_step (fun t k => XS.icmpNo X0.here hx rfl (hb hby own_d2_133) rfl (teq hc56).2 k) ?_
                                    show own_Run p e below s₁ (mkF m 136 #[.val (.int p0), .val (.int p1)] []) _
                                    exact B136 s₁ _  X0 e0 N0
                                  · refine own_vi (if_neg hc56) ?_
                                    refine own_step (fun t k => XS.icmpYes X0.here hx rfl (pc0 := 133) (pc' := 147) rfl (hb hby own_d2_133) rfl (feq hc56).2 (by decide) (by decide) k) ?_
                                    show own_Run p e below s₁ (mkF m 147 #[.val (.int p0), .val (.int p1)] []) _
                                    refine own_step (fun t k => XS.iloadN X0.here hx rfl (hb hby own_d2_147) rfl  k) ?_
                                    show own_Run p e below s₁ (mkF m 148 #[.val (.int p0), .val (.int p1)] [(.int p1)]) _
                                    refine own_step (fun t k => XS.bipush X0.here hx rfl (hb hby own_d2_148) k) ?_
                                    show own_Run p e below s₁ (mkF m 150 #[.val (.int p0), .val (.int p1)] [(.int (58 : Int32)), (.int p1)]) _
                                    by_cases hc57 : p1 = (58 : Int32)
                                    · refine own_vi (if_pos hc57) ?_
                                      refine own_step (fun t k => XS.icmpYes X0.here hx rfl (pc0 := 150) (pc' := 159) rfl (hb hby own_d2_150) rfl (teq hc57).1 (by decide) (by decide) k) ?_
                                      show own_Run p e below s₁ (mkF m 159 #[.val (.int p0), .val (.int p1)] []) _
                                      exact B159 s₁ _  X0 e0 N0
                                    · refine own_vi (if_neg hc57) ?_
                                      refine own_step (fun t k => XS.icmpNo X0.here hx rfl (hb hby own_d2_150) rfl (feq hc57).1 k) ?_
                                      show own_Run p e below s₁ (mkF m 153 #[.val (.int p0), .val (.int p1)] []) _
                                      refine own_step (fun t k => XS.iloadN X0.here hx rfl (hb hby own_d2_153) rfl  k) ?_
                                      show own_Run p e below s₁ (mkF m 154 #[.val (.int p0), .val (.int p1)] [(.int p1)]) _
                                      refine own_step (fun t k => XS.bipush X0.here hx rfl (hb hby own_d2_154) k) ?_
                                      show own_Run p e below s₁ (mkF m 156 #[.val (.int p0), .val (.int p1)] [(.int (64 : Int32)), (.int p1)]) _
                                      by_cases hc58 : p1 = (64 : Int32)
                                      · refine own_vi (if_pos hc58) ?_
                                        refine own_step (fun t k => XS.icmpNo X0.here hx rfl (hb hby own_d2_156) rfl (teq hc58).2 k) ?_
                                        show own_Run p e below s₁ (mkF m 159 #[.val (.int p0), .val (.int p1)] []) _
                                        exact B159 s₁ _  X0 e0 N0
                                      · refine own_vi (if_neg hc58) ?_
                                        refine own_step (fun t k => XS.icmpYes X0.here hx rfl (pc0 := 156) (pc' := 175) rfl (hb hby own_d2_156) rfl (feq hc58).2 (by decide) (by decide) k) ?_
                                        show own_Run p e below s₁ (mkF m 175 #[.val (.int p0), .val (.int p1)] []) _
                                        refine own_step (fun t k => XS.iloadN X0.here hx rfl (hb hby own_d2_175) rfl  k) ?_
                                        show own_Run p e below s₁ (mkF m 176 #[.val (.int p0), .val (.int p1)] [(.int p1)]) _
                                        refine own_step (fun t k => XS.bipush X0.here hx rfl (hb hby own_d2_176) k) ?_
                                        show own_Run p e below s₁ (mkF m 178 #[.val (.int p0), .val (.int p1)] [(.int (47 : Int32)), (.int p1)]) _
                                        by_cases hc59 : p1 = (47 : Int32)
                                        · refine own_vi (if_pos hc59) ?_
                                          refine own_step (fun t k => XS.icmpNo X0.here hx rfl (hb hby own_d2_178) rfl (teq hc59).2 k) ?_
                                          show own_Run p e below s₁ (mkF m 181 #[.val (.int p0), .val (.int p1)] []) _
                                          refine own_step (fun t k => XS.iloadN X0.here hx rfl (hb hby own_d2_181) rfl  k) ?_
                                          show own_Run p e below s₁ (mkF m 182 #[.val (.int p0), .val (.int p1)] [(.int p0)]) _
                                          refine own_step (fun t k => XS.iconst X0.here hx rfl (hb hby own_d2_182) k) ?_
                                          show own_Run p e below s₁ (mkF m 183 #[.val (.int p0), .val (.int p1)] [(.int (2 : Int32)), (.int p0)]) _
                                          by_cases hc60 : p0 < (2 : Int32)
                                          · refine own_vi (if_pos hc60) ?_
                                            refine own_step (fun t k => XS.icmpYes X0.here hx rfl (pc0 := 183) (pc' := 195) rfl (hb hby own_d2_183) rfl (tlt hc60).1 (by decide) (by decide) k) ?_
                                            show own_Run p e below s₁ (mkF m 195 #[.val (.int p0), .val (.int p1)] []) _
                                            refine own_step (fun t k => XS.iconst X0.here hx rfl (hb hby own_d2_195) k) ?_
                                            show own_Run p e below s₁ (mkF m 196 #[.val (.int p0), .val (.int p1)] [(.int (0 : Int32))]) _
                                            exact own_retZ X0 hx hlk hret (hb hby own_d2_196) (by decide) (by decide) N0 e0
                                          · refine own_vi (if_neg hc60) ?_
                                            refine own_step (fun t k => XS.icmpNo X0.here hx rfl (hb hby own_d2_183) rfl (flt hc60).1 k) ?_
                                            show own_Run p e below s₁ (mkF m 186 #[.val (.int p0), .val (.int p1)] []) _
                                            refine own_step (fun t k => XS.iloadN X0.here hx rfl (hb hby own_d2_186) rfl  k) ?_
                                            show own_Run p e below s₁ (mkF m 187 #[.val (.int p0), .val (.int p1)] [(.int p0)]) _
                                            refine own_step (fun t k => XS.iconst X0.here hx rfl (hb hby own_d2_187) k) ?_
                                            show own_Run p e below s₁ (mkF m 188 #[.val (.int p0), .val (.int p1)] [(.int (5 : Int32)), (.int p0)]) _
                                            by_cases hc61 : (5 : Int32) < p0
                                            · refine own_vi (if_pos hc61) ?_
                                              refine own_step (fun t k => XS.icmpYes X0.here hx rfl (pc0 := 188) (pc' := 195) rfl (hb hby own_d2_188) rfl (tlt hc61).2.2.1 (by decide) (by decide) k) ?_
                                              show own_Run p e below s₁ (mkF m 195 #[.val (.int p0), .val (.int p1)] []) _
                                              refine own_step (fun t k => XS.iconst X0.here hx rfl (hb hby own_d2_195) k) ?_
                                              show own_Run p e below s₁ (mkF m 196 #[.val (.int p0), .val (.int p1)] [(.int (0 : Int32))]) _
                                              exact own_retZ X0 hx hlk hret (hb hby own_d2_196) (by decide) (by decide) N0 e0
                                            · refine own_vi (if_neg hc61) ?_
                                              refine own_step (fun t k => XS.icmpNo X0.here hx rfl (hb hby own_d2_188) rfl (flt hc61).2.2.1 k) ?_
                                              show own_Run p e below s₁ (mkF m 191 #[.val (.int p0), .val (.int p1)] []) _
                                              refine own_step (fun t k => XS.iconst X0.here hx rfl (hb hby own_d2_191) k) ?_
                                              show own_Run p e below s₁ (mkF m 192 #[.val (.int p0), .val (.int p1)] [(.int (1 : Int32))]) _
                                              refine own_step (fun t k => XS.goto X0.here hx rfl (pc0 := 192) (pc' := 196) rfl (hb hby own_d2_192) (by decide) (by decide) k) ?_
                                              show own_Run p e below s₁ (mkF m 196 #[.val (.int p0), .val (.int p1)] [(.int (1 : Int32))]) _
                                              exact own_retZ X0 hx hlk hret (hb hby own_d2_196) (by decide) (by decide) N0 e0
                                        · refine own_vi (if_neg hc59) ?_
                                          refine own_step (fun t k => XS.icmpYes X0.here hx rfl (pc0 := 178) (pc' := 197) rfl (hb hby own_d2_178) rfl (feq hc59).2 (by decide) (by decide) k) ?_
                                          show own_Run p e below s₁ (mkF m 197 #[.val (.int p0), .val (.int p1)] []) _
                                          refine own_step (fun t k => XS.iloadN X0.here hx rfl (hb hby own_d2_197) rfl  k) ?_
                                          show own_Run p e below s₁ (mkF m 198 #[.val (.int p0), .val (.int p1)] [(.int p1)]) _
                                          refine own_step (fun t k => XS.bipush X0.here hx rfl (hb hby own_d2_198) k) ?_
                                          show own_Run p e below s₁ (mkF m 200 #[.val (.int p0), .val (.int p1)] [(.int (63 : Int32)), (.int p1)]) _
                                          by_cases hc62 : p1 = (63 : Int32)
                                          · refine own_vi (if_pos hc62) ?_
                                            refine own_step (fun t k => XS.icmpNo X0.here hx rfl (hb hby own_d2_200) rfl (teq hc62).2 k) ?_
                                            show own_Run p e below s₁ (mkF m 203 #[.val (.int p0), .val (.int p1)] []) _
                                            refine own_step (fun t k => XS.iloadN X0.here hx rfl (hb hby own_d2_203) rfl  k) ?_
                                            show own_Run p e below s₁ (mkF m 204 #[.val (.int p0), .val (.int p1)] [(.int p0)]) _
                                            refine own_step (fun t k => XS.iconst X0.here hx rfl (hb hby own_d2_204) k) ?_
                                            show own_Run p e below s₁ (mkF m 205 #[.val (.int p0), .val (.int p1)] [(.int (3 : Int32)), (.int p0)]) _
                                            by_cases hc63 : p0 < (3 : Int32)
                                            · refine own_vi (if_pos hc63) ?_
                                              refine own_step (fun t k => XS.icmpYes X0.here hx rfl (pc0 := 205) (pc' := 217) rfl (hb hby own_d2_205) rfl (tlt hc63).1 (by decide) (by decide) k) ?_
                                              show own_Run p e below s₁ (mkF m 217 #[.val (.int p0), .val (.int p1)] []) _
                                              refine own_step (fun t k => XS.iconst X0.here hx rfl (hb hby own_d2_217) k) ?_
                                              show own_Run p e below s₁ (mkF m 218 #[.val (.int p0), .val (.int p1)] [(.int (0 : Int32))]) _
                                              exact own_retZ X0 hx hlk hret (hb hby own_d2_218) (by decide) (by decide) N0 e0
                                            · refine own_vi (if_neg hc63) ?_
                                              refine own_step (fun t k => XS.icmpNo X0.here hx rfl (hb hby own_d2_205) rfl (flt hc63).1 k) ?_
                                              show own_Run p e below s₁ (mkF m 208 #[.val (.int p0), .val (.int p1)] []) _
                                              refine own_step (fun t k => XS.iloadN X0.here hx rfl (hb hby own_d2_208) rfl  k) ?_
                                              show own_Run p e below s₁ (mkF m 209 #[.val (.int p0), .val (.int p1)] [(.int p0)]) _
                                              refine own_step (fun t k => XS.iconst X0.here hx rfl (hb hby own_d2_209) k) ?_
                                              show own_Run p e below s₁ (mkF m 210 #[.val (.int p0), .val (.int p1)] [(.int (5 : Int32)), (.int p0)]) _
                                              by_cases hc64 : (5 : Int32) < p0
                                              · refine own_vi (if_pos hc64) ?_
                                                refine own_step (fun t k => XS.icmpYes X0.here hx rfl (pc0 := 210) (pc' := 217) rfl (hb hby own_d2_210) rfl (tlt hc64).2.2.1 (by decide) (by decide) k) ?_
                                                show own_Run p e below s₁ (mkF m 217 #[.val (.int p0), .val (.int p1)] []) _
                                                refine own_step (fun t k => XS.iconst X0.here hx rfl (hb hby own_d2_217) k) ?_
                                                show own_Run p e below s₁ (mkF m 218 #[.val (.int p0), .val (.int p1)] [(.int (0 : Int32))]) _
                                                exact own_retZ X0 hx hlk hret (hb hby own_d2_218) (by decide) (by decide) N0 e0
                                              · refine own_vi (if_neg hc64) ?_
                                                refine own_step (fun t k => XS.icmpNo X0.here hx rfl (hb hby own_d2_210) rfl (flt hc64).2.2.1 k) ?_
                                                show own_Run p e below s₁ (mkF m 213 #[.val (.int p0), .val (.int p1)] []) _
                                                refine own_step (fun t k => XS.iconst X0.here hx rfl (hb hby own_d2_213) k) ?_
                                                show own_Run p e below s₁ (mkF m 214 #[.val (.int p0), .val (.int p1)] [(.int (1 : Int32))]) _
                                                refine own_step (fun t k => XS.goto X0.here hx rfl (pc0 := 214) (pc' := 218) rfl (hb hby own_d2_214) (by decide) (by decide) k) ?_
                                                show own_Run p e below s₁ (mkF m 218 #[.val (.int p0), .val (.int p1)] [(.int (1 : Int32))]) _
                                                exact own_retZ X0 hx hlk hret (hb hby own_d2_218) (by decide) (by decide) N0 e0
                                          · refine own_vi (if_neg hc62) ?_
                                            refine own_step (fun t k => XS.icmpYes X0.here hx rfl (pc0 := 200) (pc' := 219) rfl (hb hby own_d2_200) rfl (feq hc62).2 (by decide) (by decide) k) ?_
                                            show own_Run p e below s₁ (mkF m 219 #[.val (.int p0), .val (.int p1)] []) _
                                            refine own_step (fun t k => XS.iconst X0.here hx rfl (hb hby own_d2_219) k) ?_
                                            show own_Run p e below s₁ (mkF m 220 #[.val (.int p0), .val (.int p1)] [(.int (0 : Int32))]) _
                                            exact own_retZ X0 hx hlk hret (hb hby own_d2_220) (by decide) (by decide) N0 e0
theorem own_pn1 : plainName "com/example/fuxi/fuxi/model/Part" = true := by first | (simp [plainName, overriddenIn]; done) | decide +kernel
theorem own_d3_0 : decode prog_21_method_4_code 0 = .ok (.iload_n 1, 1) := by decide +kernel
theorem own_d3_1 : decode prog_21_method_4_code 1 = .ok (.bipush 64, 2) := by decide +kernel
theorem own_d3_3 : decode prog_21_method_4_code 3 = .ok (.if_icmp .ge 10, 3) := by decide +kernel
theorem own_d3_6 : decode prog_21_method_4_code 6 = .ok (.aload_n 0, 1) := by decide +kernel
theorem own_d3_7 : decode prog_21_method_4_code 7 = .ok (.getfield 61, 3) := by decide +kernel
theorem own_d3_10 : decode prog_21_method_4_code 10 = .ok (.goto 7, 3) := by decide +kernel
theorem own_d3_13 : decode prog_21_method_4_code 13 = .ok (.aload_n 0, 1) := by decide +kernel
theorem own_d3_14 : decode prog_21_method_4_code 14 = .ok (.getfield 65, 3) := by decide +kernel
theorem own_d3_17 : decode prog_21_method_4_code 17 = .ok (.lstore_n 2, 1) := by decide +kernel
theorem own_d3_18 : decode prog_21_method_4_code 18 = .ok (.iload_n 1, 1) := by decide +kernel
theorem own_d3_19 : decode prog_21_method_4_code 19 = .ok (.bipush 7, 2) := by decide +kernel
theorem own_d3_21 : decode prog_21_method_4_code 21 = .ok (.iushr, 1) := by decide +kernel
theorem own_d3_22 : decode prog_21_method_4_code 22 = .ok (.ifCond .ne 17, 3) := by decide +kernel
theorem own_d3_25 : decode prog_21_method_4_code 25 = .ok (.lload_n 2, 1) := by decide +kernel
theorem own_d3_26 : decode prog_21_method_4_code 26 = .ok (.lconst 1, 1) := by decide +kernel
theorem own_d3_27 : decode prog_21_method_4_code 27 = .ok (.iload_n 1, 1) := by decide +kernel
theorem own_d3_28 : decode prog_21_method_4_code 28 = .ok (.lshl, 1) := by decide +kernel
theorem own_d3_29 : decode prog_21_method_4_code 29 = .ok (.land, 1) := by decide +kernel
theorem own_d3_30 : decode prog_21_method_4_code 30 = .ok (.lconst 0, 1) := by decide +kernel
theorem own_d3_31 : decode prog_21_method_4_code 31 = .ok (.lcmp, 1) := by decide +kernel
theorem own_d3_32 : decode prog_21_method_4_code 32 = .ok (.ifCond .eq 7, 3) := by decide +kernel
theorem own_d3_35 : decode prog_21_method_4_code 35 = .ok (.iconst 1, 1) := by decide +kernel
theorem own_d3_36 : decode prog_21_method_4_code 36 = .ok (.goto 4, 3) := by decide +kernel
theorem own_d3_39 : decode prog_21_method_4_code 39 = .ok (.iconst 0, 1) := by decide +kernel
theorem own_d3_40 : decode prog_21_method_4_code 40 = .ok (.ireturn, 1) := by decide +kernel
def own_f3_j17_S0 (p1 : Int32) (lo : Int64) (hi : Int64) : Int64 := (if p1 < (64 : Int32) then lo else hi)
def own_f3_17 (p1 : Int32) (lo : Int64) (hi : Int64) : Int64 := (own_f3_j17_S0 p1 lo hi)
def own_f3_j40_S0 (p1 : Int32) (lo : Int64) (hi : Int64) : Int32 := (if (own_ushr p1 (7 : Int32)) = (0 : Int32) then (if (lcmpW ((own_f3_17 p1 lo hi) &&& (own_shlL (1 : Int64) p1)) (0 : Int64)) = (0 : Int32) then (0 : Int32) else (1 : Int32)) else (0 : Int32))
def own_r3 (p1 : Int32) (lo : Int64) (hi : Int64) : Int32 := (nar .boolean (own_f3_j40_S0 p1 lo hi))
theorem own_ef3 (m : MethodId) (a0 : Addr) (p1 : Int32) : entryFrame m #[(.ref a0), (.int p1)] 4 = (mkF m 0 #[.val (.ref a0), .val (.int p1), .unset, .unset] []) := by first | (simp [entryFrame, mkF, argsToLocals, Value.category]; done) | rfl
set_option maxRecDepth 65536 in
set_option maxHeartbeats 40000000 in
theorem rm3 (l : Launch) (Z : State) (av0 : Array Value) (hw : ∀ d ∈ tables_1, d.before av0 Z = true) (ws : List Jvm.Cond) (a0 : Addr) (p1 : Int32) (lo : Int64) (hi : Int64) (h0 : Heap) (n0 : Nat) (Z0 : n0 ≤ h0.size) (F1 : Fld Z h0 a0 "com/example/fuxi/fuxi/model/Part" "low" "J" (.long lo)) (F2 : Fld Z h0 a0 "com/example/fuxi/fuxi/model/Part" "high" "J" (.long hi)) :
    MetFree l (⟨"com/example/fuxi/fuxi/model/Part", "keeps", "(I)Z"⟩ : MethodName) (head1 (Jvm.Cond.code (⟨"com/example/fuxi/fuxi/model/Part", "keeps", "(I)Z"⟩ : MethodName) prog_21_method_4_code 4 (some .boolean) :: ws) ({ frames := 0, cells := 0, slots := 0, locals := 0 } : Room)) (fun a U => a = #[(.ref a0), (.int p1)] ∧ Z.Warmed39 U.vm ∧ U.heap = h0) (fun _ _ _ _ _ => True) (fun _ U o U' => ∃ v L, o = .returned v ∧ own_Q n0 (fun h => h = h0) (some (.int (own_r3 p1 lo hi))) v U'.heap L ∧ FrameEnd U o U' L ({ frames := 0, cells := 0, slots := 0, locals := 0 } : Room).cells ({ frames := 0, cells := 0, slots := 0, locals := 0 } : Room).slots) := by
  refine MetFree.of_bodySF (plainFor_of_name own_pn1) hisR ?_
  intro p e s m args below meth c s₁ Bd hml0 hP hK
  obtain ⟨rfl, hZ, hh⟩ := hP
  have hx := Bd.exec
  have hby := Bd.bytes
  have hml : c.maxLocals = 4 := hml0
  have hown : s.vm.findClass "com/example/fuxi/fuxi/model/Part" = some m.cls := findClass_of_methodNamed Bd.named
  have hnm := (name_of_methodNamed Bd.named Bd.method).1
  have hret := Bd.returns
  have hlk : meth.locks = false := BodyLoose.notSynchronized Bd
  have X0 : Stand p l e ({ frames := 0, cells := 0, slots := 0, locals := 0 } : Room) s m #[(.ref a0), (.int p1)] below meth c s₁ [] 0 0 := Stand.of_body Bd
  have e0 : s₁.heap = h0 := by rw [← hh, Bd.state]; rfl
  have N0 := Fr.nil n0
  clear Bd hh hK
  refine own_fin ?_
  refine own_entry (own_ef3 m a0 p1) ?_
  show own_Run p e below s₁ _ (own_Ret _ s below _ _ (own_Q n0 _ (some (.int (nar .boolean (own_f3_j40_S0 p1 lo hi))))))
  show own_Run p e below s₁ (mkF m 0 #[.val (.ref a0), .val (.int p1), .unset, .unset] []) _
  refine own_step (fun t k => XS.iloadN X0.here hx rfl (hb hby own_d3_0) rfl  k) ?_
  show own_Run p e below s₁ (mkF m 1 #[.val (.ref a0), .val (.int p1), .unset, .unset] [(.int p1)]) _
  refine own_step (fun t k => XS.bipush X0.here hx rfl (hb hby own_d3_1) k) ?_
  show own_Run p e below s₁ (mkF m 3 #[.val (.ref a0), .val (.int p1), .unset, .unset] [(.int (64 : Int32)), (.int p1)]) _
  obtain ⟨_, st8, T8, L8, rfl, X8, e8, N8⟩ : own_Run p e below s₁ (mkF m 3 #[.val (.ref a0), .val (.int p1), .unset, .unset] [(.int (64 : Int32)), (.int p1)]) (fun t => ∃ (T' : State) (L' : List Loc) , t = T'.setTop (mkF m 17 #[.val (.ref a0), .val (.int p1), .unset, .unset] [(.long (own_f3_j17_S0 p1 lo hi))]) ∧ Stand p l e ({ frames := 0, cells := 0, slots := 0, locals := 0 } : Room) s m #[(.ref a0), (.int p1)] below meth c T' L' 0 0 ∧ T'.heap = h0 ∧ Fr n0 L') := by
    by_cases hc9 : p1 < (64 : Int32)
    · refine own_step (fun t k => XS.icmpNo X0.here hx rfl (hb hby own_d3_3) rfl (tlt hc9).2.1 k) ?_
      show own_Run p e below s₁ (mkF m 6 #[.val (.ref a0), .val (.int p1), .unset, .unset] []) _
      refine own_step (fun t k => XS.aloadN X0.here hx rfl (hb hby own_d3_6) rfl rfl k) ?_
      show own_Run p e below s₁ (mkF m 7 #[.val (.ref a0), .val (.int p1), .unset, .unset] [(.ref a0)]) _
      obtain ⟨T10, X10, e10, st10⟩ := getF X0 hx hZ hown (host := "") (Or.inl (hw _ (List.mem_of_getElem? (i := 32) rfl))) Via.refl e0 F1 (g := (mkF m 7 #[.val (.ref a0), .val (.int p1), .unset, .unset] [(.ref a0)])) rfl rfl (hb hby own_d3_7)
      refine own_step st10 ?_
      show own_Run p e below T10 (mkF m 10 #[.val (.ref a0), .val (.int p1), .unset, .unset] [(.long lo)]) _
      refine own_step (fun t k => XS.goto X10.here hx rfl (pc0 := 10) (pc' := 17) rfl (hb hby own_d3_10) (by decide) (by decide) k) ?_
      show own_Run p e below T10 (mkF m 17 #[.val (.ref a0), .val (.int p1), .unset, .unset] [(.long lo)]) _
      have hj0 : (own_f3_j17_S0 p1 lo hi) = lo := (if_pos hc9)
      exact own_here ⟨T10, _, (by rw [hj0]), X10, e10, N0⟩
    · refine own_step (fun t k => XS.icmpYes X0.here hx rfl (pc0 := 3) (pc' := 13) rfl (hb hby own_d3_3) rfl (flt hc9).2.1 (by decide) (by decide) k) ?_
      show own_Run p e below s₁ (mkF m 13 #[.val (.ref a0), .val (.int p1), .unset, .unset] []) _
      refine own_step (fun t k => XS.aloadN X0.here hx rfl (hb hby own_d3_13) rfl rfl k) ?_
      show own_Run p e below s₁ (mkF m 14 #[.val (.ref a0), .val (.int p1), .unset, .unset] [(.ref a0)]) _
      obtain ⟨T11, X11, e11, st11⟩ := getF X0 hx hZ hown (host := "") (Or.inl (hw _ (List.mem_of_getElem? (i := 35) rfl))) Via.refl e0 F2 (g := (mkF m 14 #[.val (.ref a0), .val (.int p1), .unset, .unset] [(.ref a0)])) rfl rfl (hb hby own_d3_14)
      refine own_step st11 ?_
      show own_Run p e below T11 (mkF m 17 #[.val (.ref a0), .val (.int p1), .unset, .unset] [(.long hi)]) _
      have hj0 : (own_f3_j17_S0 p1 lo hi) = hi := (if_neg hc9)
      exact own_here ⟨T11, _, (by rw [hj0]), X11, e11, N0⟩
  refine own_tr st8 ?_
  show own_Run p e below T8 (mkF m 17 #[.val (.ref a0), .val (.int p1), .unset, .unset] [(.long (own_f3_j17_S0 p1 lo hi))]) _
  refine own_step (fun t k => XS.lstoreN X8.here hx rfl (hb hby own_d3_17) rfl (l' := #[.val (.ref a0), .val (.int p1), .val (.long (own_f3_17 p1 lo hi)), .second]) rfl k) ?_
  show own_Run p e below T8 (mkF m 18 #[.val (.ref a0), .val (.int p1), .val (.long (own_f3_17 p1 lo hi)), .second] []) _
  refine own_step (fun t k => XS.iloadN X8.here hx rfl (hb hby own_d3_18) rfl  k) ?_
  show own_Run p e below T8 (mkF m 19 #[.val (.ref a0), .val (.int p1), .val (.long (own_f3_17 p1 lo hi)), .second] [(.int p1)]) _
  refine own_step (fun t k => XS.bipush X8.here hx rfl (hb hby own_d3_19) k) ?_
  show own_Run p e below T8 (mkF m 21 #[.val (.ref a0), .val (.int p1), .val (.long (own_f3_17 p1 lo hi)), .second] [(.int (7 : Int32)), (.int p1)]) _
  refine own_step (fun t k => XS.iushr X8.here hx rfl (hb hby own_d3_21) rfl k) ?_
  show own_Run p e below T8 (mkF m 22 #[.val (.ref a0), .val (.int p1), .val (.long (own_f3_17 p1 lo hi)), .second] [(.int (own_ushr p1 (7 : Int32)))]) _
  obtain ⟨_, st12, rfl⟩ : own_Run p e below T8 (mkF m 22 #[.val (.ref a0), .val (.int p1), .val (.long (own_f3_17 p1 lo hi)), .second] [(.int (own_ushr p1 (7 : Int32)))]) (fun t => t = T8.setTop (mkF m 40 #[.val (.ref a0), .val (.int p1), .val (.long (own_f3_17 p1 lo hi)), .second] [(.int (own_f3_j40_S0 p1 lo hi))])) := by
    by_cases hc13 : (own_ushr p1 (7 : Int32)) = (0 : Int32)
    · refine own_step (fun t k => XS.ifNo X8.here hx rfl (hb hby own_d3_22) rfl ((if0 _ _).trans (teq hc13).2) k) ?_
      show own_Run p e below T8 (mkF m 25 #[.val (.ref a0), .val (.int p1), .val (.long (own_f3_17 p1 lo hi)), .second] []) _
      refine own_step (fun t k => XS.lloadN X8.here hx rfl (hb hby own_d3_25) rfl  k) ?_
      show own_Run p e below T8 (mkF m 26 #[.val (.ref a0), .val (.int p1), .val (.long (own_f3_17 p1 lo hi)), .second] [(.long (own_f3_17 p1 lo hi))]) _
      refine own_step (fun t k => XS.lconst X8.here hx rfl (hb hby own_d3_26) k) ?_
      show own_Run p e below T8 (mkF m 27 #[.val (.ref a0), .val (.int p1), .val (.long (own_f3_17 p1 lo hi)), .second] [(.long (1 : Int64)), (.long (own_f3_17 p1 lo hi))]) _
      refine own_step (fun t k => XS.iloadN X8.here hx rfl (hb hby own_d3_27) rfl  k) ?_
      show own_Run p e below T8 (mkF m 28 #[.val (.ref a0), .val (.int p1), .val (.long (own_f3_17 p1 lo hi)), .second] [(.int p1), (.long (1 : Int64)), (.long (own_f3_17 p1 lo hi))]) _
      refine own_step (fun t k => XS.lshl X8.here hx rfl (hb hby own_d3_28) rfl k) ?_
      show own_Run p e below T8 (mkF m 29 #[.val (.ref a0), .val (.int p1), .val (.long (own_f3_17 p1 lo hi)), .second] [(.long (own_shlL (1 : Int64) p1)), (.long (own_f3_17 p1 lo hi))]) _
      refine own_step (fun t k => XS.land X8.here hx rfl (hb hby own_d3_29) rfl k) ?_
      show own_Run p e below T8 (mkF m 30 #[.val (.ref a0), .val (.int p1), .val (.long (own_f3_17 p1 lo hi)), .second] [(.long ((own_f3_17 p1 lo hi) &&& (own_shlL (1 : Int64) p1)))]) _
      refine own_step (fun t k => XS.lconst X8.here hx rfl (hb hby own_d3_30) k) ?_
      show own_Run p e below T8 (mkF m 31 #[.val (.ref a0), .val (.int p1), .val (.long (own_f3_17 p1 lo hi)), .second] [(.long (0 : Int64)), (.long ((own_f3_17 p1 lo hi) &&& (own_shlL (1 : Int64) p1)))]) _
      refine own_step (fun t k => XS.lcmp X8.here hx rfl (hb hby own_d3_31) rfl k) ?_
      show own_Run p e below T8 (mkF m 32 #[.val (.ref a0), .val (.int p1), .val (.long (own_f3_17 p1 lo hi)), .second] [(.int (lcmpW ((own_f3_17 p1 lo hi) &&& (own_shlL (1 : Int64) p1)) (0 : Int64)))]) _
      by_cases hc14 : (lcmpW ((own_f3_17 p1 lo hi) &&& (own_shlL (1 : Int64) p1)) (0 : Int64)) = (0 : Int32)
      · refine own_step (fun t k => XS.ifYes X8.here hx rfl (pc0 := 32) (pc' := 39) rfl (hb hby own_d3_32) rfl ((if0 _ _).trans (teq hc14).1) (by decide) (by decide) k) ?_
        show own_Run p e below T8 (mkF m 39 #[.val (.ref a0), .val (.int p1), .val (.long (own_f3_17 p1 lo hi)), .second] []) _
        refine own_step (fun t k => XS.iconst X8.here hx rfl (hb hby own_d3_39) k) ?_
        show own_Run p e below T8 (mkF m 40 #[.val (.ref a0), .val (.int p1), .val (.long (own_f3_17 p1 lo hi)), .second] [(.int (0 : Int32))]) _
        have hj0 : (own_f3_j40_S0 p1 lo hi) = (0 : Int32) := ((if_pos hc13).trans (if_pos hc14))
        exact own_here (by rw [hj0])
      · refine own_step (fun t k => XS.ifNo X8.here hx rfl (hb hby own_d3_32) rfl ((if0 _ _).trans (feq hc14).1) k) ?_
        show own_Run p e below T8 (mkF m 35 #[.val (.ref a0), .val (.int p1), .val (.long (own_f3_17 p1 lo hi)), .second] []) _
        refine own_step (fun t k => XS.iconst X8.here hx rfl (hb hby own_d3_35) k) ?_
        show own_Run p e below T8 (mkF m 36 #[.val (.ref a0), .val (.int p1), .val (.long (own_f3_17 p1 lo hi)), .second] [(.int (1 : Int32))]) _
        refine own_step (fun t k => XS.goto X8.here hx rfl (pc0 := 36) (pc' := 40) rfl (hb hby own_d3_36) (by decide) (by decide) k) ?_
        show own_Run p e below T8 (mkF m 40 #[.val (.ref a0), .val (.int p1), .val (.long (own_f3_17 p1 lo hi)), .second] [(.int (1 : Int32))]) _
        have hj0 : (own_f3_j40_S0 p1 lo hi) = (1 : Int32) := ((if_pos hc13).trans (if_neg hc14))
        exact own_here (by rw [hj0])
    · refine own_step (fun t k => XS.ifYes X8.here hx rfl (pc0 := 22) (pc' := 39) rfl (hb hby own_d3_22) rfl ((if0 _ _).trans (feq hc13).2) (by decide) (by decide) k) ?_
      show own_Run p e below T8 (mkF m 39 #[.val (.ref a0), .val (.int p1), .val (.long (own_f3_17 p1 lo hi)), .second] []) _
      refine own_step (fun t k => XS.iconst X8.here hx rfl (hb hby own_d3_39) k) ?_
      show own_Run p e below T8 (mkF m 40 #[.val (.ref a0), .val (.int p1), .val (.long (own_f3_17 p1 lo hi)), .second] [(.int (0 : Int32))]) _
      have hj0 : (own_f3_j40_S0 p1 lo hi) = (0 : Int32) := (if_neg hc13)
      exact own_here (by rw [hj0])
  refine own_tr st12 ?_
  show own_Run p e below T8 (mkF m 40 #[.val (.ref a0), .val (.int p1), .val (.long (own_f3_17 p1 lo hi)), .second] [(.int (own_f3_j40_S0 p1 lo hi))]) _
  exact own_retZ X8 hx hlk hret (hb hby own_d3_40) (by decide) (by decide) N8 e8
theorem own_pd170 : parseMethodDescriptor "(I)Z" = some ⟨[.int], some .boolean⟩ := by decide +kernel
theorem own_pd171 : parseMethodDescriptor "(II)Z" = some ⟨[.int, .int], some .boolean⟩ := by decide +kernel
def own_f0_103 (p2 : Int32) : Int32 := (p2 &&& (131071 : Int32))
def own_f0_j115_L6 (p1 : Int32) (p2 : Int32) : Int32 := (if (p1 &&& (3 : Int32)) = (0 : Int32) then p2 else (if (p1 &&& (3 : Int32)) = (1 : Int32) then (p2 &&& (127 : Int32)) else (if (p1 &&& (3 : Int32)) = (2 : Int32) then (own_f0_103 p2) else (p2 &&& (255 : Int32)))))
def own_f0_j151_S0 (p1 : Int32) (p2 : Int32) : Int32 := (if (own_f0_j115_L6 p1 p2) < (0 : Int32) then (0 : Int32) else (if (own_f0_j115_L6 p1 p2) < (128 : Int32) then (if (own_r1 (own_f0_j115_L6 p1 p2)) = (0 : Int32) then (if (own_r2 (0 : Int32) (own_f0_j115_L6 p1 p2)) = (0 : Int32) then (0 : Int32) else (1 : Int32)) else (1 : Int32)) else (0 : Int32)))
def own_f0_j172_S0 (p1 : Int32) (p2 : Int32) : Int32 := (if (own_r3 (own_f0_j115_L6 p1 p2) (288054454291267584 : Int64) (5188146764422578174 : Int64)) = (own_f0_j151_S0 p1 p2) then (1 : Int32) else (0 : Int32))
def own_f0_j151_S0' (p1 : Int32) (p2 : Int32) : Int32 := (if (own_f0_j115_L6 p1 p2) < (0 : Int32) then (0 : Int32) else (if (own_f0_j115_L6 p1 p2) < (128 : Int32) then (if (own_r1 (own_f0_j115_L6 p1 p2)) = (0 : Int32) then (if (own_r2 (1 : Int32) (own_f0_j115_L6 p1 p2)) = (0 : Int32) then (0 : Int32) else (1 : Int32)) else (1 : Int32)) else (0 : Int32)))
def own_f0_j172_S0' (p1 : Int32) (p2 : Int32) : Int32 := (if (own_r3 (own_f0_j115_L6 p1 p2) (3458623578763689984 : Int64) (5188146764422578175 : Int64)) = (own_f0_j151_S0' p1 p2) then (1 : Int32) else (0 : Int32))
def own_f0_j151_S0'' (p1 : Int32) (p2 : Int32) : Int32 := (if (own_f0_j115_L6 p1 p2) < (0 : Int32) then (0 : Int32) else (if (own_f0_j115_L6 p1 p2) < (128 : Int32) then (if (own_r1 (own_f0_j115_L6 p1 p2)) = (0 : Int32) then (if (own_r2 (2 : Int32) (own_f0_j115_L6 p1 p2)) = (0 : Int32) then (0 : Int32) else (1 : Int32)) else (1 : Int32)) else (0 : Int32)))
def own_f0_151 (p1 : Int32) (p2 : Int32) : Int32 := (own_f0_j151_S0'' p1 p2)
def own_f0_j172_S0'' (p1 : Int32) (p2 : Int32) : Int32 := (if (own_r3 (own_f0_j115_L6 p1 p2) (3458764316252045312 : Int64) (5188146764422578175 : Int64)) = (own_f0_151 p1 p2) then (1 : Int32) else (0 : Int32))
def own_f0_j151_S0''' (p1 : Int32) (p2 : Int32) : Int32 := (if (own_f0_j115_L6 p1 p2) < (0 : Int32) then (0 : Int32) else (if (own_f0_j115_L6 p1 p2) < (128 : Int32) then (if (own_r1 (own_f0_j115_L6 p1 p2)) = (0 : Int32) then (if (own_r2 (3 : Int32) (own_f0_j115_L6 p1 p2)) = (0 : Int32) then (0 : Int32) else (1 : Int32)) else (1 : Int32)) else (0 : Int32)))
def own_f0_151' (p1 : Int32) (p2 : Int32) : Int32 := (own_f0_j151_S0''' p1 p2)
def own_f0_j172_S0''' (p1 : Int32) (p2 : Int32) : Int32 := (if (own_r3 (own_f0_j115_L6 p1 p2) (-5764607720602730496 : Int64) (5188146764422578175 : Int64)) = (own_f0_151' p1 p2) then (1 : Int32) else (0 : Int32))
def own_f0_j151_S0'''' (p1 : Int32) (p2 : Int32) : Int32 := (if (own_f0_j115_L6 p1 p2) < (0 : Int32) then (0 : Int32) else (if (own_f0_j115_L6 p1 p2) < (128 : Int32) then (if (own_r1 (own_f0_j115_L6 p1 p2)) = (0 : Int32) then (if (own_r2 (4 : Int32) (own_f0_j115_L6 p1 p2)) = (0 : Int32) then (0 : Int32) else (1 : Int32)) else (1 : Int32)) else (0 : Int32)))
def own_f0_151'' (p1 : Int32) (p2 : Int32) : Int32 := (own_f0_j151_S0'''' p1 p2)
def own_f0_j172_S0'''' (p1 : Int32) (p2 : Int32) : Int32 := (if (own_r3 (own_f0_j115_L6 p1 p2) (-8646920553090777088 : Int64) (5188146764422578175 : Int64)) = (own_f0_151'' p1 p2) then (1 : Int32) else (0 : Int32))
def own_f0_j151_S0''''' (p1 : Int32) (p2 : Int32) : Int32 := (if (own_f0_j115_L6 p1 p2) < (0 : Int32) then (0 : Int32) else (if (own_f0_j115_L6 p1 p2) < (128 : Int32) then (if (own_r1 (own_f0_j115_L6 p1 p2)) = (0 : Int32) then (if (own_r2 (5 : Int32) (own_f0_j115_L6 p1 p2)) = (0 : Int32) then (0 : Int32) else (1 : Int32)) else (1 : Int32)) else (0 : Int32)))
def own_f0_151''' (p1 : Int32) (p2 : Int32) : Int32 := (own_f0_j151_S0''''' p1 p2)
def own_f0_j172_S0''''' (p1 : Int32) (p2 : Int32) : Int32 := (if (own_r3 (own_f0_j115_L6 p1 p2) (-5764607720602730496 : Int64) (5188146764422578175 : Int64)) = (own_f0_151''' p1 p2) then (1 : Int32) else (0 : Int32))
def own_f0_j151_S0'''''' (p1 : Int32) (p2 : Int32) : Int32 := (if (own_f0_j115_L6 p1 p2) < (0 : Int32) then (0 : Int32) else (if (own_f0_j115_L6 p1 p2) < (128 : Int32) then (if (own_r1 (own_f0_j115_L6 p1 p2)) = (0 : Int32) then (if (own_r2 (6 : Int32) (own_f0_j115_L6 p1 p2)) = (0 : Int32) then (0 : Int32) else (1 : Int32)) else (1 : Int32)) else (0 : Int32)))
def own_f0_151'''' (p1 : Int32) (p2 : Int32) : Int32 := (own_f0_j151_S0'''''' p1 p2)
def own_f0_j172_S0'''''' (p1 : Int32) (p2 : Int32) : Int32 := (if (own_r3 (own_f0_j115_L6 p1 p2) (3170393202611978240 : Int64) (5188146764422578174 : Int64)) = (own_f0_151'''' p1 p2) then (1 : Int32) else (0 : Int32))
def own_f0_j151_S0''''''' (p1 : Int32) (p2 : Int32) : Int32 := (if (own_f0_j115_L6 p1 p2) < (0 : Int32) then (0 : Int32) else (if (own_f0_j115_L6 p1 p2) < (128 : Int32) then (if (own_r1 (own_f0_j115_L6 p1 p2)) = (0 : Int32) then (if (own_r2 (7 : Int32) (own_f0_j115_L6 p1 p2)) = (0 : Int32) then (0 : Int32) else (1 : Int32)) else (1 : Int32)) else (0 : Int32)))
def own_f0_151''''' (p1 : Int32) (p2 : Int32) : Int32 := (own_f0_j151_S0''''''' p1 p2)
def own_f0_j172_S0''''''' (p1 : Int32) (p2 : Int32) : Int32 := (if (own_r3 (own_f0_j115_L6 p1 p2) (288058852337778688 : Int64) (576460745995190270 : Int64)) = (own_f0_151''''' p1 p2) then (1 : Int32) else (0 : Int32))
def own_r0 (p0 : Int32) (p1 : Int32) (p2 : Int32) : Int32 := (if (p0 &&& (7 : Int32)) = (0 : Int32) then (nar .boolean (own_f0_j172_S0 p1 p2)) else (if (p0 &&& (7 : Int32)) = (1 : Int32) then (nar .boolean (own_f0_j172_S0' p1 p2)) else (if (p0 &&& (7 : Int32)) = (2 : Int32) then (nar .boolean (own_f0_j172_S0'' p1 p2)) else (if (p0 &&& (7 : Int32)) = (3 : Int32) then (nar .boolean (own_f0_j172_S0''' p1 p2)) else (if (p0 &&& (7 : Int32)) = (4 : Int32) then (nar .boolean (own_f0_j172_S0'''' p1 p2)) else (if (p0 &&& (7 : Int32)) = (5 : Int32) then (nar .boolean (own_f0_j172_S0''''' p1 p2)) else (if (p0 &&& (7 : Int32)) = (6 : Int32) then (nar .boolean (own_f0_j172_S0'''''' p1 p2)) else (nar .boolean (own_f0_j172_S0''''''' p1 p2)))))))))
theorem own_ef0 (m : MethodId) (p0 : Int32) (p1 : Int32) (p2 : Int32) : entryFrame m #[(.int p0), (.int p1), (.int p2)] maxLocals = (mkF m 0 #[.val (.int p0), .val (.int p1), .val (.int p2), .unset, .unset, .unset, .unset, .unset] []) := by first | (simp [entryFrame, mkF, argsToLocals, Value.category, maxLocals]; done) | rfl
set_option maxRecDepth 65536 in
set_option maxHeartbeats 40000000 in
theorem rm0 (l : Launch) (Z : State) (av0 : Array Value) (hw : ∀ d ∈ tables_1, d.before av0 Z = true) (ws : List Jvm.Cond) (p0 : Int32) (p1 : Int32) (p2 : Int32) (w0 : Addr) (w1 : Addr) (w2 : Addr) (w3 : Addr) (w4 : Addr) (w5 : Addr) (w6 : Addr) (w7 : Addr) (h0 : Heap) (n0 : Nat) (Z0 : n0 ≤ h0.size) (S0 : Sta Z h0 "com/example/fuxi/fuxi/model/Part" "COMPONENT" "Lcom/example/fuxi/fuxi/model/Part;" (.ref w0)) (Ex0 : Exa Z h0 w0 "com/example/fuxi/fuxi/model/Part") (Lo0 : Fld Z h0 w0 "com/example/fuxi/fuxi/model/Part" "low" "J" (.long (288054454291267584 : Int64))) (Hi0 : Fld Z h0 w0 "com/example/fuxi/fuxi/model/Part" "high" "J" (.long (5188146764422578174 : Int64))) (S1 : Sta Z h0 "com/example/fuxi/fuxi/model/Part" "PATH_SEGMENT" "Lcom/example/fuxi/fuxi/model/Part;" (.ref w1)) (Ex1 : Exa Z h0 w1 "com/example/fuxi/fuxi/model/Part") (Lo1 : Fld Z h0 w1 "com/example/fuxi/fuxi/model/Part" "low" "J" (.long (3458623578763689984 : Int64))) (Hi1 : Fld Z h0 w1 "com/example/fuxi/fuxi/model/Part" "high" "J" (.long (5188146764422578175 : Int64))) (S2 : Sta Z h0 "com/example/fuxi/fuxi/model/Part" "PATH" "Lcom/example/fuxi/fuxi/model/Part;" (.ref w2)) (Ex2 : Exa Z h0 w2 "com/example/fuxi/fuxi/model/Part") (Lo2 : Fld Z h0 w2 "com/example/fuxi/fuxi/model/Part" "low" "J" (.long (3458764316252045312 : Int64))) (Hi2 : Fld Z h0 w2 "com/example/fuxi/fuxi/model/Part" "high" "J" (.long (5188146764422578175 : Int64))) (S3 : Sta Z h0 "com/example/fuxi/fuxi/model/Part" "QUERY" "Lcom/example/fuxi/fuxi/model/Part;" (.ref w3)) (Ex3 : Exa Z h0 w3 "com/example/fuxi/fuxi/model/Part") (Lo3 : Fld Z h0 w3 "com/example/fuxi/fuxi/model/Part" "low" "J" (.long (-5764607720602730496 : Int64))) (Hi3 : Fld Z h0 w3 "com/example/fuxi/fuxi/model/Part" "high" "J" (.long (5188146764422578175 : Int64))) (S4 : Sta Z h0 "com/example/fuxi/fuxi/model/Part" "QUERY_PARAM" "Lcom/example/fuxi/fuxi/model/Part;" (.ref w4)) (Ex4 : Exa Z h0 w4 "com/example/fuxi/fuxi/model/Part") (Lo4 : Fld Z h0 w4 "com/example/fuxi/fuxi/model/Part" "low" "J" (.long (-8646920553090777088 : Int64))) (Hi4 : Fld Z h0 w4 "com/example/fuxi/fuxi/model/Part" "high" "J" (.long (5188146764422578175 : Int64))) (S5 : Sta Z h0 "com/example/fuxi/fuxi/model/Part" "FRAGMENT" "Lcom/example/fuxi/fuxi/model/Part;" (.ref w5)) (Ex5 : Exa Z h0 w5 "com/example/fuxi/fuxi/model/Part") (Lo5 : Fld Z h0 w5 "com/example/fuxi/fuxi/model/Part" "low" "J" (.long (-5764607720602730496 : Int64))) (Hi5 : Fld Z h0 w5 "com/example/fuxi/fuxi/model/Part" "high" "J" (.long (5188146764422578175 : Int64))) (S6 : Sta Z h0 "com/example/fuxi/fuxi/model/Part" "USERINFO" "Lcom/example/fuxi/fuxi/model/Part;" (.ref w6)) (Ex6 : Exa Z h0 w6 "com/example/fuxi/fuxi/model/Part") (Lo6 : Fld Z h0 w6 "com/example/fuxi/fuxi/model/Part" "low" "J" (.long (3170393202611978240 : Int64))) (Hi6 : Fld Z h0 w6 "com/example/fuxi/fuxi/model/Part" "high" "J" (.long (5188146764422578174 : Int64))) (S7 : Sta Z h0 "com/example/fuxi/fuxi/model/Part" "FORM" "Lcom/example/fuxi/fuxi/model/Part;" (.ref w7)) (Ex7 : Exa Z h0 w7 "com/example/fuxi/fuxi/model/Part") (Lo7 : Fld Z h0 w7 "com/example/fuxi/fuxi/model/Part" "low" "J" (.long (288058852337778688 : Int64))) (Hi7 : Fld Z h0 w7 "com/example/fuxi/fuxi/model/Part" "high" "J" (.long (576460745995190270 : Int64))) :
    MetFree l x (head1 (Jvm.Cond.code x code maxLocals ret :: ws) room_1) (fun a U => a = #[(.int p0), (.int p1), (.int p2)] ∧ Z.Warmed39 U.vm ∧ U.heap = h0) (fun _ _ _ _ _ => True) (fun _ U o U' => ∃ v L, o = .returned v ∧ own_Q n0 (fun _ => True) (some (.int (own_r0 p0 p1 p2))) v U'.heap L ∧ FrameEnd U o U' L room_1.cells room_1.slots) := by
  refine MetFree.of_bodySF (plainFor_of_name own_pn0) hisR ?_
  intro p e s m args below meth c s₁ Bd hml0 hP hK
  obtain ⟨rfl, hZ, hh⟩ := hP
  have hx := Bd.exec
  have hby := Bd.bytes
  have hml : c.maxLocals = 8 := hml0
  have hown : s.vm.findClass "com/example/fuxi/fuxi/model/PartKeepsPinLaw" = some m.cls := findClass_of_methodNamed Bd.named
  have hnm := (name_of_methodNamed Bd.named Bd.method).1
  have hret := Bd.returns
  have hlk : meth.locks = false := BodyLoose.notSynchronized Bd
  have X0 : Stand p l e room_1 s m #[(.int p0), (.int p1), (.int p2)] below meth c s₁ [] 0 0 := Stand.of_body Bd
  have e0 : s₁.heap = h0 := by rw [← hh, Bd.state]; rfl
  have N0 := Fr.nil n0
  clear Bd hh hK
  refine own_fin ?_
  refine own_entry (own_ef0 m p0 p1 p2) ?_
  show own_Run p e below s₁ _ (own_Ret _ s below _ _ (own_Q n0 _ (some (.int (if (p0 &&& (7 : Int32)) = (0 : Int32) then (nar .boolean (own_f0_j172_S0 p1 p2)) else (if (p0 &&& (7 : Int32)) = (1 : Int32) then (nar .boolean (own_f0_j172_S0' p1 p2)) else (if (p0 &&& (7 : Int32)) = (2 : Int32) then (nar .boolean (own_f0_j172_S0'' p1 p2)) else (if (p0 &&& (7 : Int32)) = (3 : Int32) then (nar .boolean (own_f0_j172_S0''' p1 p2)) else (if (p0 &&& (7 : Int32)) = (4 : Int32) then (nar .boolean (own_f0_j172_S0'''' p1 p2)) else (if (p0 &&& (7 : Int32)) = (5 : Int32) then (nar .boolean (own_f0_j172_S0''''' p1 p2)) else (if (p0 &&& (7 : Int32)) = (6 : Int32) then (nar .boolean (own_f0_j172_S0'''''' p1 p2)) else (nar .boolean (own_f0_j172_S0''''''' p1 p2)))))))))))))
  show own_Run p e below s₁ (mkF m 0 #[.val (.int p0), .val (.int p1), .val (.int p2), .unset, .unset, .unset, .unset, .unset] []) _
  refine own_step (fun t k => XS.bipush X0.here hx rfl (hb hby at_0) k) ?_
  show own_Run p e below s₁ (mkF m 2 #[.val (.int p0), .val (.int p1), .val (.int p2), .unset, .unset, .unset, .unset, .unset] [(.int (8 : Int32))]) _
  obtain ⟨T434, h434, k434, X434, e434, E434, A434, O434, st434⟩ := newR X0 hx hZ hown (hw _ (List.mem_of_getElem? (i := 0) rfl)) (hw _ (List.mem_of_getElem? (i := 1) rfl)) e0 (g := (mkF m 2 #[.val (.int p0), .val (.int p1), .val (.int p2), .unset, .unset, .unset, .unset, .unset] [(.int (8 : Int32))])) rfl (hb hby at_2) rfl (by decide) (cap := 8) (by decide) (by decide) (by decide) (by decide)
  obtain ⟨b434, g434⟩ : ∃ z, z = h0.size := ⟨_, rfl⟩
  rw [← g434] at A434 st434
  have ne435 : w0 ≠ b434 := Nat.ne_of_lt (Nat.lt_of_lt_of_le Ex0.lt (Nat.le_of_eq g434.symm))
  have ne436 : w1 ≠ b434 := Nat.ne_of_lt (Nat.lt_of_lt_of_le Ex1.lt (Nat.le_of_eq g434.symm))
  have ne437 : w2 ≠ b434 := Nat.ne_of_lt (Nat.lt_of_lt_of_le Ex2.lt (Nat.le_of_eq g434.symm))
  have ne438 : w3 ≠ b434 := Nat.ne_of_lt (Nat.lt_of_lt_of_le Ex3.lt (Nat.le_of_eq g434.symm))
  have ne439 : w4 ≠ b434 := Nat.ne_of_lt (Nat.lt_of_lt_of_le Ex4.lt (Nat.le_of_eq g434.symm))
  have ne440 : w5 ≠ b434 := Nat.ne_of_lt (Nat.lt_of_lt_of_le Ex5.lt (Nat.le_of_eq g434.symm))
  have ne441 : w6 ≠ b434 := Nat.ne_of_lt (Nat.lt_of_lt_of_le Ex6.lt (Nat.le_of_eq g434.symm))
  have ne442 : w7 ≠ b434 := Nat.ne_of_lt (Nat.lt_of_lt_of_le Ex7.lt (Nat.le_of_eq g434.symm))
  have f443 := Sta.ext E434 S0
  have f444 := Exa.ext E434 Ex0
  have f445 := Fld.ext E434 Lo0
  have f446 := Fld.ext E434 Hi0
  have f447 := Sta.ext E434 S1
  have f448 := Exa.ext E434 Ex1
  have f449 := Fld.ext E434 Lo1
  have f450 := Fld.ext E434 Hi1
  have f451 := Sta.ext E434 S2
  have f452 := Exa.ext E434 Ex2
  have f453 := Fld.ext E434 Lo2
  have f454 := Fld.ext E434 Hi2
  have f455 := Sta.ext E434 S3
  have f456 := Exa.ext E434 Ex3
  have f457 := Fld.ext E434 Lo3
  have f458 := Fld.ext E434 Hi3
  have f459 := Sta.ext E434 S4
  have f460 := Exa.ext E434 Ex4
  have f461 := Fld.ext E434 Lo4
  have f462 := Fld.ext E434 Hi4
  have f463 := Sta.ext E434 S5
  have f464 := Exa.ext E434 Ex5
  have f465 := Fld.ext E434 Lo5
  have f466 := Fld.ext E434 Hi5
  have f467 := Sta.ext E434 S6
  have f468 := Exa.ext E434 Ex6
  have f469 := Fld.ext E434 Lo6
  have f470 := Fld.ext E434 Hi6
  have f471 := Sta.ext E434 S7
  have f472 := Exa.ext E434 Ex7
  have f473 := Fld.ext E434 Lo7
  have f474 := Fld.ext E434 Hi7
  have geb434 : n0 ≤ b434 := Nat.le_trans Z0 (Nat.le_of_eq g434.symm)
  have Zn434 : n0 ≤ h434.size := Nat.le_trans Z0 E434.1
  have V434 : Arv Z h434 b434 k434 (.object "com/example/fuxi/fuxi/model/Part") (8 : Int32) [.null, .null, .null, .null, .null, .null, .null, .null] .null := (Arv.new A434 (by decide)).pad (pad_rep [] .null 8)
  refine own_step st434 ?_
  show own_Run p e below T434 (mkF m 5 #[.val (.int p0), .val (.int p1), .val (.int p2), .unset, .unset, .unset, .unset, .unset] [(.ref b434)]) _
  refine own_step (fun t k => XS.dup X434.here hx rfl (hb hby at_5) rfl rfl k) ?_
  show own_Run p e below T434 (mkF m 6 #[.val (.int p0), .val (.int p1), .val (.int p2), .unset, .unset, .unset, .unset, .unset] [(.ref b434), (.ref b434)]) _
  refine own_step (fun t k => XS.iconst X434.here hx rfl (hb hby at_6) k) ?_
  show own_Run p e below T434 (mkF m 7 #[.val (.int p0), .val (.int p1), .val (.int p2), .unset, .unset, .unset, .unset, .unset] [(.int (0 : Int32)), (.ref b434), (.ref b434)]) _
  obtain ⟨T475, X475, e475, st475⟩ := getS2 X434 hx hZ hown (host := "") (Or.inl (hw _ (List.mem_of_getElem? (i := 2) rfl))) Via.refl e434 f443 (g := (mkF m 7 #[.val (.int p0), .val (.int p1), .val (.int p2), .unset, .unset, .unset, .unset, .unset] [(.int (0 : Int32)), (.ref b434), (.ref b434)])) rfl (hb hby at_7)
  refine own_step st475 ?_
  show own_Run p e below T475 (mkF m 10 #[.val (.int p0), .val (.int p1), .val (.int p2), .unset, .unset, .unset, .unset, .unset] [(.ref w0), (.int (0 : Int32)), (.ref b434), (.ref b434)]) _
  obtain ⟨T476, h476, L476, X476, e476, N476, W476, V476, st476⟩ := own_stR X475 hx hZ e475 V434 O434 (Ins.self f444) N0 geb434 (j := (0 : Int32)) ⟨by decide, by decide⟩ 0 rfl (Nat.le_of_ble_eq_true rfl) (g := (mkF m 10 #[.val (.int p0), .val (.int p1), .val (.int p2), .unset, .unset, .unset, .unset, .unset] [(.ref w0), (.int (0 : Int32)), (.ref b434), (.ref b434)])) rfl rfl (hb hby at_10)
  have V476x : Arv Z h476 b434 k434 (.object "com/example/fuxi/fuxi/model/Part") (8 : Int32) [(.ref w0), .null, .null, .null, .null, .null, .null, .null] .null := V476
  have f477 := Sta.wr W476 f443
  have f478 := f444.wr W476
  have f479 := f445.other W476 (Or.inl ne435)
  have f480 := f446.other W476 (Or.inl ne435)
  have f481 := Sta.wr W476 f447
  have f482 := f448.wr W476
  have f483 := f449.other W476 (Or.inl ne436)
  have f484 := f450.other W476 (Or.inl ne436)
  have f485 := Sta.wr W476 f451
  have f486 := f452.wr W476
  have f487 := f453.other W476 (Or.inl ne437)
  have f488 := f454.other W476 (Or.inl ne437)
  have f489 := Sta.wr W476 f455
  have f490 := f456.wr W476
  have f491 := f457.other W476 (Or.inl ne438)
  have f492 := f458.other W476 (Or.inl ne438)
  have f493 := Sta.wr W476 f459
  have f494 := f460.wr W476
  have f495 := f461.other W476 (Or.inl ne439)
  have f496 := f462.other W476 (Or.inl ne439)
  have f497 := Sta.wr W476 f463
  have f498 := f464.wr W476
  have f499 := f465.other W476 (Or.inl ne440)
  have f500 := f466.other W476 (Or.inl ne440)
  have f501 := Sta.wr W476 f467
  have f502 := f468.wr W476
  have f503 := f469.other W476 (Or.inl ne441)
  have f504 := f470.other W476 (Or.inl ne441)
  have f505 := Sta.wr W476 f471
  have f506 := f472.wr W476
  have f507 := f473.other W476 (Or.inl ne442)
  have f508 := f474.other W476 (Or.inl ne442)
  have Zn476 : n0 ≤ h476.size := Nat.le_trans Zn434 (Keep.of_wr W476).1
  refine own_step st476 ?_
  show own_Run p e below T476 (mkF m 11 #[.val (.int p0), .val (.int p1), .val (.int p2), .unset, .unset, .unset, .unset, .unset] [(.ref b434)]) _
  refine own_step (fun t k => XS.dup X476.here hx rfl (hb hby at_11) rfl rfl k) ?_
  show own_Run p e below T476 (mkF m 12 #[.val (.int p0), .val (.int p1), .val (.int p2), .unset, .unset, .unset, .unset, .unset] [(.ref b434), (.ref b434)]) _
  refine own_step (fun t k => XS.iconst X476.here hx rfl (hb hby at_12) k) ?_
  show own_Run p e below T476 (mkF m 13 #[.val (.int p0), .val (.int p1), .val (.int p2), .unset, .unset, .unset, .unset, .unset] [(.int (1 : Int32)), (.ref b434), (.ref b434)]) _
  obtain ⟨T509, X509, e509, st509⟩ := getS2 X476 hx hZ hown (host := "") (Or.inl (hw _ (List.mem_of_getElem? (i := 6) rfl))) Via.refl e476 f481 (g := (mkF m 13 #[.val (.int p0), .val (.int p1), .val (.int p2), .unset, .unset, .unset, .unset, .unset] [(.int (1 : Int32)), (.ref b434), (.ref b434)])) rfl (hb hby at_13)
  refine own_step st509 ?_
  show own_Run p e below T509 (mkF m 16 #[.val (.int p0), .val (.int p1), .val (.int p2), .unset, .unset, .unset, .unset, .unset] [(.ref w1), (.int (1 : Int32)), (.ref b434), (.ref b434)]) _
  obtain ⟨T510, h510, L510, X510, e510, N510, W510, V510, st510⟩ := own_stR X509 hx hZ e509 V476x O434 (Ins.self f482) N476 geb434 (j := (1 : Int32)) ⟨by decide, by decide⟩ 1 rfl (Nat.le_of_ble_eq_true rfl) (g := (mkF m 16 #[.val (.int p0), .val (.int p1), .val (.int p2), .unset, .unset, .unset, .unset, .unset] [(.ref w1), (.int (1 : Int32)), (.ref b434), (.ref b434)])) rfl rfl (hb hby at_16)
  have V510x : Arv Z h510 b434 k434 (.object "com/example/fuxi/fuxi/model/Part") (8 : Int32) [(.ref w0), (.ref w1), .null, .null, .null, .null, .null, .null] .null := V510
  have f511 := Sta.wr W510 f477
  have f512 := f478.wr W510
  have f513 := f479.other W510 (Or.inl ne435)
  have f514 := f480.other W510 (Or.inl ne435)
  have f515 := Sta.wr W510 f481
  have f516 := f482.wr W510
  have f517 := f483.other W510 (Or.inl ne436)
  have f518 := f484.other W510 (Or.inl ne436)
  have f519 := Sta.wr W510 f485
  have f520 := f486.wr W510
  have f521 := f487.other W510 (Or.inl ne437)
  have f522 := f488.other W510 (Or.inl ne437)
  have f523 := Sta.wr W510 f489
  have f524 := f490.wr W510
  have f525 := f491.other W510 (Or.inl ne438)
  have f526 := f492.other W510 (Or.inl ne438)
  have f527 := Sta.wr W510 f493
  have f528 := f494.wr W510
  have f529 := f495.other W510 (Or.inl ne439)
  have f530 := f496.other W510 (Or.inl ne439)
  have f531 := Sta.wr W510 f497
  have f532 := f498.wr W510
  have f533 := f499.other W510 (Or.inl ne440)
  have f534 := f500.other W510 (Or.inl ne440)
  have f535 := Sta.wr W510 f501
  have f536 := f502.wr W510
  have f537 := f503.other W510 (Or.inl ne441)
  have f538 := f504.other W510 (Or.inl ne441)
  have f539 := Sta.wr W510 f505
  have f540 := f506.wr W510
  have f541 := f507.other W510 (Or.inl ne442)
  have f542 := f508.other W510 (Or.inl ne442)
  have Zn510 : n0 ≤ h510.size := Nat.le_trans Zn476 (Keep.of_wr W510).1
  refine own_step st510 ?_
  show own_Run p e below T510 (mkF m 17 #[.val (.int p0), .val (.int p1), .val (.int p2), .unset, .unset, .unset, .unset, .unset] [(.ref b434)]) _
  refine own_step (fun t k => XS.dup X510.here hx rfl (hb hby at_17) rfl rfl k) ?_
  show own_Run p e below T510 (mkF m 18 #[.val (.int p0), .val (.int p1), .val (.int p2), .unset, .unset, .unset, .unset, .unset] [(.ref b434), (.ref b434)]) _
  refine own_step (fun t k => XS.iconst X510.here hx rfl (hb hby at_18) k) ?_
  show own_Run p e below T510 (mkF m 19 #[.val (.int p0), .val (.int p1), .val (.int p2), .unset, .unset, .unset, .unset, .unset] [(.int (2 : Int32)), (.ref b434), (.ref b434)]) _
  obtain ⟨T543, X543, e543, st543⟩ := getS2 X510 hx hZ hown (host := "") (Or.inl (hw _ (List.mem_of_getElem? (i := 8) rfl))) Via.refl e510 f519 (g := (mkF m 19 #[.val (.int p0), .val (.int p1), .val (.int p2), .unset, .unset, .unset, .unset, .unset] [(.int (2 : Int32)), (.ref b434), (.ref b434)])) rfl (hb hby at_19)
  refine own_step st543 ?_
  show own_Run p e below T543 (mkF m 22 #[.val (.int p0), .val (.int p1), .val (.int p2), .unset, .unset, .unset, .unset, .unset] [(.ref w2), (.int (2 : Int32)), (.ref b434), (.ref b434)]) _
  obtain ⟨T544, h544, L544, X544, e544, N544, W544, V544, st544⟩ := own_stR X543 hx hZ e543 V510x O434 (Ins.self f520) N510 geb434 (j := (2 : Int32)) ⟨by decide, by decide⟩ 2 rfl (Nat.le_of_ble_eq_true rfl) (g := (mkF m 22 #[.val (.int p0), .val (.int p1), .val (.int p2), .unset, .unset, .unset, .unset, .unset] [(.ref w2), (.int (2 : Int32)), (.ref b434), (.ref b434)])) rfl rfl (hb hby at_22)
  have V544x : Arv Z h544 b434 k434 (.object "com/example/fuxi/fuxi/model/Part") (8 : Int32) [(.ref w0), (.ref w1), (.ref w2), .null, .null, .null, .null, .null] .null := V544
  have f545 := Sta.wr W544 f511
  have f546 := f512.wr W544
  have f547 := f513.other W544 (Or.inl ne435)
  have f548 := f514.other W544 (Or.inl ne435)
  have f549 := Sta.wr W544 f515
  have f550 := f516.wr W544
  have f551 := f517.other W544 (Or.inl ne436)
  have f552 := f518.other W544 (Or.inl ne436)
  have f553 := Sta.wr W544 f519
  have f554 := f520.wr W544
  have f555 := f521.other W544 (Or.inl ne437)
  have f556 := f522.other W544 (Or.inl ne437)
  have f557 := Sta.wr W544 f523
  have f558 := f524.wr W544
  have f559 := f525.other W544 (Or.inl ne438)
  have f560 := f526.other W544 (Or.inl ne438)
  have f561 := Sta.wr W544 f527
  have f562 := f528.wr W544
  have f563 := f529.other W544 (Or.inl ne439)
  have f564 := f530.other W544 (Or.inl ne439)
  have f565 := Sta.wr W544 f531
  have f566 := f532.wr W544
  have f567 := f533.other W544 (Or.inl ne440)
  have f568 := f534.other W544 (Or.inl ne440)
  have f569 := Sta.wr W544 f535
  have f570 := f536.wr W544
  have f571 := f537.other W544 (Or.inl ne441)
  have f572 := f538.other W544 (Or.inl ne441)
  have f573 := Sta.wr W544 f539
  have f574 := f540.wr W544
  have f575 := f541.other W544 (Or.inl ne442)
  have f576 := f542.other W544 (Or.inl ne442)
  have Zn544 : n0 ≤ h544.size := Nat.le_trans Zn510 (Keep.of_wr W544).1
  refine own_step st544 ?_
  show own_Run p e below T544 (mkF m 23 #[.val (.int p0), .val (.int p1), .val (.int p2), .unset, .unset, .unset, .unset, .unset] [(.ref b434)]) _
  refine own_step (fun t k => XS.dup X544.here hx rfl (hb hby at_23) rfl rfl k) ?_
  show own_Run p e below T544 (mkF m 24 #[.val (.int p0), .val (.int p1), .val (.int p2), .unset, .unset, .unset, .unset, .unset] [(.ref b434), (.ref b434)]) _
  refine own_step (fun t k => XS.iconst X544.here hx rfl (hb hby at_24) k) ?_
  show own_Run p e below T544 (mkF m 25 #[.val (.int p0), .val (.int p1), .val (.int p2), .unset, .unset, .unset, .unset, .unset] [(.int (3 : Int32)), (.ref b434), (.ref b434)]) _
  obtain ⟨T577, X577, e577, st577⟩ := getS2 X544 hx hZ hown (host := "") (Or.inl (hw _ (List.mem_of_getElem? (i := 10) rfl))) Via.refl e544 f557 (g := (mkF m 25 #[.val (.int p0), .val (.int p1), .val (.int p2), .unset, .unset, .unset, .unset, .unset] [(.int (3 : Int32)), (.ref b434), (.ref b434)])) rfl (hb hby at_25)
  refine own_step st577 ?_
  show own_Run p e below T577 (mkF m 28 #[.val (.int p0), .val (.int p1), .val (.int p2), .unset, .unset, .unset, .unset, .unset] [(.ref w3), (.int (3 : Int32)), (.ref b434), (.ref b434)]) _
  obtain ⟨T578, h578, L578, X578, e578, N578, W578, V578, st578⟩ := own_stR X577 hx hZ e577 V544x O434 (Ins.self f558) N544 geb434 (j := (3 : Int32)) ⟨by decide, by decide⟩ 3 rfl (Nat.le_of_ble_eq_true rfl) (g := (mkF m 28 #[.val (.int p0), .val (.int p1), .val (.int p2), .unset, .unset, .unset, .unset, .unset] [(.ref w3), (.int (3 : Int32)), (.ref b434), (.ref b434)])) rfl rfl (hb hby at_28)
  have V578x : Arv Z h578 b434 k434 (.object "com/example/fuxi/fuxi/model/Part") (8 : Int32) [(.ref w0), (.ref w1), (.ref w2), (.ref w3), .null, .null, .null, .null] .null := V578
  have f579 := Sta.wr W578 f545
  have f580 := f546.wr W578
  have f581 := f547.other W578 (Or.inl ne435)
  have f582 := f548.other W578 (Or.inl ne435)
  have f583 := Sta.wr W578 f549
  have f584 := f550.wr W578
  have f585 := f551.other W578 (Or.inl ne436)
  have f586 := f552.other W578 (Or.inl ne436)
  have f587 := Sta.wr W578 f553
  have f588 := f554.wr W578
  have f589 := f555.other W578 (Or.inl ne437)
  have f590 := f556.other W578 (Or.inl ne437)
  have f591 := Sta.wr W578 f557
  have f592 := f558.wr W578
  have f593 := f559.other W578 (Or.inl ne438)
  have f594 := f560.other W578 (Or.inl ne438)
  have f595 := Sta.wr W578 f561
  have f596 := f562.wr W578
  have f597 := f563.other W578 (Or.inl ne439)
  have f598 := f564.other W578 (Or.inl ne439)
  have f599 := Sta.wr W578 f565
  have f600 := f566.wr W578
  have f601 := f567.other W578 (Or.inl ne440)
  have f602 := f568.other W578 (Or.inl ne440)
  have f603 := Sta.wr W578 f569
  have f604 := f570.wr W578
  have f605 := f571.other W578 (Or.inl ne441)
  have f606 := f572.other W578 (Or.inl ne441)
  have f607 := Sta.wr W578 f573
  have f608 := f574.wr W578
  have f609 := f575.other W578 (Or.inl ne442)
  have f610 := f576.other W578 (Or.inl ne442)
  have Zn578 : n0 ≤ h578.size := Nat.le_trans Zn544 (Keep.of_wr W578).1
  refine own_step st578 ?_
  show own_Run p e below T578 (mkF m 29 #[.val (.int p0), .val (.int p1), .val (.int p2), .unset, .unset, .unset, .unset, .unset] [(.ref b434)]) _
  refine own_step (fun t k => XS.dup X578.here hx rfl (hb hby at_29) rfl rfl k) ?_
  show own_Run p e below T578 (mkF m 30 #[.val (.int p0), .val (.int p1), .val (.int p2), .unset, .unset, .unset, .unset, .unset] [(.ref b434), (.ref b434)]) _
  refine own_step (fun t k => XS.iconst X578.here hx rfl (hb hby at_30) k) ?_
  show own_Run p e below T578 (mkF m 31 #[.val (.int p0), .val (.int p1), .val (.int p2), .unset, .unset, .unset, .unset, .unset] [(.int (4 : Int32)), (.ref b434), (.ref b434)]) _
  obtain ⟨T611, X611, e611, st611⟩ := getS2 X578 hx hZ hown (host := "") (Or.inl (hw _ (List.mem_of_getElem? (i := 12) rfl))) Via.refl e578 f595 (g := (mkF m 31 #[.val (.int p0), .val (.int p1), .val (.int p2), .unset, .unset, .unset, .unset, .unset] [(.int (4 : Int32)), (.ref b434), (.ref b434)])) rfl (hb hby at_31)
  refine own_step st611 ?_
  show own_Run p e below T611 (mkF m 34 #[.val (.int p0), .val (.int p1), .val (.int p2), .unset, .unset, .unset, .unset, .unset] [(.ref w4), (.int (4 : Int32)), (.ref b434), (.ref b434)]) _
  obtain ⟨T612, h612, L612, X612, e612, N612, W612, V612, st612⟩ := own_stR X611 hx hZ e611 V578x O434 (Ins.self f596) N578 geb434 (j := (4 : Int32)) ⟨by decide, by decide⟩ 4 rfl (Nat.le_of_ble_eq_true rfl) (g := (mkF m 34 #[.val (.int p0), .val (.int p1), .val (.int p2), .unset, .unset, .unset, .unset, .unset] [(.ref w4), (.int (4 : Int32)), (.ref b434), (.ref b434)])) rfl rfl (hb hby at_34)
  have V612x : Arv Z h612 b434 k434 (.object "com/example/fuxi/fuxi/model/Part") (8 : Int32) [(.ref w0), (.ref w1), (.ref w2), (.ref w3), (.ref w4), .null, .null, .null] .null := V612
  have f613 := Sta.wr W612 f579
  have f614 := f580.wr W612
  have f615 := f581.other W612 (Or.inl ne435)
  have f616 := f582.other W612 (Or.inl ne435)
  have f617 := Sta.wr W612 f583
  have f618 := f584.wr W612
  have f619 := f585.other W612 (Or.inl ne436)
  have f620 := f586.other W612 (Or.inl ne436)
  have f621 := Sta.wr W612 f587
  have f622 := f588.wr W612
  have f623 := f589.other W612 (Or.inl ne437)
  have f624 := f590.other W612 (Or.inl ne437)
  have f625 := Sta.wr W612 f591
  have f626 := f592.wr W612
  have f627 := f593.other W612 (Or.inl ne438)
  have f628 := f594.other W612 (Or.inl ne438)
  have f629 := Sta.wr W612 f595
  have f630 := f596.wr W612
  have f631 := f597.other W612 (Or.inl ne439)
  have f632 := f598.other W612 (Or.inl ne439)
  have f633 := Sta.wr W612 f599
  have f634 := f600.wr W612
  have f635 := f601.other W612 (Or.inl ne440)
  have f636 := f602.other W612 (Or.inl ne440)
  have f637 := Sta.wr W612 f603
  have f638 := f604.wr W612
  have f639 := f605.other W612 (Or.inl ne441)
  have f640 := f606.other W612 (Or.inl ne441)
  have f641 := Sta.wr W612 f607
  have f642 := f608.wr W612
  have f643 := f609.other W612 (Or.inl ne442)
  have f644 := f610.other W612 (Or.inl ne442)
  have Zn612 : n0 ≤ h612.size := Nat.le_trans Zn578 (Keep.of_wr W612).1
  refine own_step st612 ?_
  show own_Run p e below T612 (mkF m 35 #[.val (.int p0), .val (.int p1), .val (.int p2), .unset, .unset, .unset, .unset, .unset] [(.ref b434)]) _
  refine own_step (fun t k => XS.dup X612.here hx rfl (hb hby at_35) rfl rfl k) ?_
  show own_Run p e below T612 (mkF m 36 #[.val (.int p0), .val (.int p1), .val (.int p2), .unset, .unset, .unset, .unset, .unset] [(.ref b434), (.ref b434)]) _
  refine own_step (fun t k => XS.iconst X612.here hx rfl (hb hby at_36) k) ?_
  show own_Run p e below T612 (mkF m 37 #[.val (.int p0), .val (.int p1), .val (.int p2), .unset, .unset, .unset, .unset, .unset] [(.int (5 : Int32)), (.ref b434), (.ref b434)]) _
  obtain ⟨T645, X645, e645, st645⟩ := getS2 X612 hx hZ hown (host := "") (Or.inl (hw _ (List.mem_of_getElem? (i := 14) rfl))) Via.refl e612 f633 (g := (mkF m 37 #[.val (.int p0), .val (.int p1), .val (.int p2), .unset, .unset, .unset, .unset, .unset] [(.int (5 : Int32)), (.ref b434), (.ref b434)])) rfl (hb hby at_37)
  refine own_step st645 ?_
  show own_Run p e below T645 (mkF m 40 #[.val (.int p0), .val (.int p1), .val (.int p2), .unset, .unset, .unset, .unset, .unset] [(.ref w5), (.int (5 : Int32)), (.ref b434), (.ref b434)]) _
  obtain ⟨T646, h646, L646, X646, e646, N646, W646, V646, st646⟩ := own_stR X645 hx hZ e645 V612x O434 (Ins.self f634) N612 geb434 (j := (5 : Int32)) ⟨by decide, by decide⟩ 5 rfl (Nat.le_of_ble_eq_true rfl) (g := (mkF m 40 #[.val (.int p0), .val (.int p1), .val (.int p2), .unset, .unset, .unset, .unset, .unset] [(.ref w5), (.int (5 : Int32)), (.ref b434), (.ref b434)])) rfl rfl (hb hby at_40)
  have V646x : Arv Z h646 b434 k434 (.object "com/example/fuxi/fuxi/model/Part") (8 : Int32) [(.ref w0), (.ref w1), (.ref w2), (.ref w3), (.ref w4), (.ref w5), .null, .null] .null := V646
  have f647 := Sta.wr W646 f613
  have f648 := f614.wr W646
  have f649 := f615.other W646 (Or.inl ne435)
  have f650 := f616.other W646 (Or.inl ne435)
  have f651 := Sta.wr W646 f617
  have f652 := f618.wr W646
  have f653 := f619.other W646 (Or.inl ne436)
  have f654 := f620.other W646 (Or.inl ne436)
  have f655 := Sta.wr W646 f621
  have f656 := f622.wr W646
  have f657 := f623.other W646 (Or.inl ne437)
  have f658 := f624.other W646 (Or.inl ne437)
  have f659 := Sta.wr W646 f625
  have f660 := f626.wr W646
  have f661 := f627.other W646 (Or.inl ne438)
  have f662 := f628.other W646 (Or.inl ne438)
  have f663 := Sta.wr W646 f629
  have f664 := f630.wr W646
  have f665 := f631.other W646 (Or.inl ne439)
  have f666 := f632.other W646 (Or.inl ne439)
  have f667 := Sta.wr W646 f633
  have f668 := f634.wr W646
  have f669 := f635.other W646 (Or.inl ne440)
  have f670 := f636.other W646 (Or.inl ne440)
  have f671 := Sta.wr W646 f637
  have f672 := f638.wr W646
  have f673 := f639.other W646 (Or.inl ne441)
  have f674 := f640.other W646 (Or.inl ne441)
  have f675 := Sta.wr W646 f641
  have f676 := f642.wr W646
  have f677 := f643.other W646 (Or.inl ne442)
  have f678 := f644.other W646 (Or.inl ne442)
  have Zn646 : n0 ≤ h646.size := Nat.le_trans Zn612 (Keep.of_wr W646).1
  refine own_step st646 ?_
  show own_Run p e below T646 (mkF m 41 #[.val (.int p0), .val (.int p1), .val (.int p2), .unset, .unset, .unset, .unset, .unset] [(.ref b434)]) _
  refine own_step (fun t k => XS.dup X646.here hx rfl (hb hby at_41) rfl rfl k) ?_
  show own_Run p e below T646 (mkF m 42 #[.val (.int p0), .val (.int p1), .val (.int p2), .unset, .unset, .unset, .unset, .unset] [(.ref b434), (.ref b434)]) _
  refine own_step (fun t k => XS.bipush X646.here hx rfl (hb hby at_42) k) ?_
  show own_Run p e below T646 (mkF m 44 #[.val (.int p0), .val (.int p1), .val (.int p2), .unset, .unset, .unset, .unset, .unset] [(.int (6 : Int32)), (.ref b434), (.ref b434)]) _
  obtain ⟨T679, X679, e679, st679⟩ := getS2 X646 hx hZ hown (host := "") (Or.inl (hw _ (List.mem_of_getElem? (i := 16) rfl))) Via.refl e646 f671 (g := (mkF m 44 #[.val (.int p0), .val (.int p1), .val (.int p2), .unset, .unset, .unset, .unset, .unset] [(.int (6 : Int32)), (.ref b434), (.ref b434)])) rfl (hb hby at_44)
  refine own_step st679 ?_
  show own_Run p e below T679 (mkF m 47 #[.val (.int p0), .val (.int p1), .val (.int p2), .unset, .unset, .unset, .unset, .unset] [(.ref w6), (.int (6 : Int32)), (.ref b434), (.ref b434)]) _
  obtain ⟨T680, h680, L680, X680, e680, N680, W680, V680, st680⟩ := own_stR X679 hx hZ e679 V646x O434 (Ins.self f672) N646 geb434 (j := (6 : Int32)) ⟨by decide, by decide⟩ 6 rfl (Nat.le_of_ble_eq_true rfl) (g := (mkF m 47 #[.val (.int p0), .val (.int p1), .val (.int p2), .unset, .unset, .unset, .unset, .unset] [(.ref w6), (.int (6 : Int32)), (.ref b434), (.ref b434)])) rfl rfl (hb hby at_47)
  have V680x : Arv Z h680 b434 k434 (.object "com/example/fuxi/fuxi/model/Part") (8 : Int32) [(.ref w0), (.ref w1), (.ref w2), (.ref w3), (.ref w4), (.ref w5), (.ref w6), .null] .null := V680
  have f681 := Sta.wr W680 f647
  have f682 := f648.wr W680
  have f683 := f649.other W680 (Or.inl ne435)
  have f684 := f650.other W680 (Or.inl ne435)
  have f685 := Sta.wr W680 f651
  have f686 := f652.wr W680
  have f687 := f653.other W680 (Or.inl ne436)
  have f688 := f654.other W680 (Or.inl ne436)
  have f689 := Sta.wr W680 f655
  have f690 := f656.wr W680
  have f691 := f657.other W680 (Or.inl ne437)
  have f692 := f658.other W680 (Or.inl ne437)
  have f693 := Sta.wr W680 f659
  have f694 := f660.wr W680
  have f695 := f661.other W680 (Or.inl ne438)
  have f696 := f662.other W680 (Or.inl ne438)
  have f697 := Sta.wr W680 f663
  have f698 := f664.wr W680
  have f699 := f665.other W680 (Or.inl ne439)
  have f700 := f666.other W680 (Or.inl ne439)
  have f701 := Sta.wr W680 f667
  have f702 := f668.wr W680
  have f703 := f669.other W680 (Or.inl ne440)
  have f704 := f670.other W680 (Or.inl ne440)
  have f705 := Sta.wr W680 f671
  have f706 := f672.wr W680
  have f707 := f673.other W680 (Or.inl ne441)
  have f708 := f674.other W680 (Or.inl ne441)
  have f709 := Sta.wr W680 f675
  have f710 := f676.wr W680
  have f711 := f677.other W680 (Or.inl ne442)
  have f712 := f678.other W680 (Or.inl ne442)
  have Zn680 : n0 ≤ h680.size := Nat.le_trans Zn646 (Keep.of_wr W680).1
  refine own_step st680 ?_
  show own_Run p e below T680 (mkF m 48 #[.val (.int p0), .val (.int p1), .val (.int p2), .unset, .unset, .unset, .unset, .unset] [(.ref b434)]) _
  refine own_step (fun t k => XS.dup X680.here hx rfl (hb hby at_48) rfl rfl k) ?_
  show own_Run p e below T680 (mkF m 49 #[.val (.int p0), .val (.int p1), .val (.int p2), .unset, .unset, .unset, .unset, .unset] [(.ref b434), (.ref b434)]) _
  refine own_step (fun t k => XS.bipush X680.here hx rfl (hb hby at_49) k) ?_
  show own_Run p e below T680 (mkF m 51 #[.val (.int p0), .val (.int p1), .val (.int p2), .unset, .unset, .unset, .unset, .unset] [(.int (7 : Int32)), (.ref b434), (.ref b434)]) _
  obtain ⟨T713, X713, e713, st713⟩ := getS2 X680 hx hZ hown (host := "") (Or.inl (hw _ (List.mem_of_getElem? (i := 18) rfl))) Via.refl e680 f709 (g := (mkF m 51 #[.val (.int p0), .val (.int p1), .val (.int p2), .unset, .unset, .unset, .unset, .unset] [(.int (7 : Int32)), (.ref b434), (.ref b434)])) rfl (hb hby at_51)
  refine own_step st713 ?_
  show own_Run p e below T713 (mkF m 54 #[.val (.int p0), .val (.int p1), .val (.int p2), .unset, .unset, .unset, .unset, .unset] [(.ref w7), (.int (7 : Int32)), (.ref b434), (.ref b434)]) _
  obtain ⟨T714, h714, L714, X714, e714, N714, W714, V714, st714⟩ := own_stR X713 hx hZ e713 V680x O434 (Ins.self f710) N680 geb434 (j := (7 : Int32)) ⟨by decide, by decide⟩ 7 rfl (Nat.le_of_ble_eq_true rfl) (g := (mkF m 54 #[.val (.int p0), .val (.int p1), .val (.int p2), .unset, .unset, .unset, .unset, .unset] [(.ref w7), (.int (7 : Int32)), (.ref b434), (.ref b434)])) rfl rfl (hb hby at_54)
  have V714x : Arv Z h714 b434 k434 (.object "com/example/fuxi/fuxi/model/Part") (8 : Int32) [(.ref w0), (.ref w1), (.ref w2), (.ref w3), (.ref w4), (.ref w5), (.ref w6), (.ref w7)] .null := V714
  have f715 := Sta.wr W714 f681
  have f716 := f682.wr W714
  have f717 := f683.other W714 (Or.inl ne435)
  have f718 := f684.other W714 (Or.inl ne435)
  have f719 := Sta.wr W714 f685
  have f720 := f686.wr W714
  have f721 := f687.other W714 (Or.inl ne436)
  have f722 := f688.other W714 (Or.inl ne436)
  have f723 := Sta.wr W714 f689
  have f724 := f690.wr W714
  have f725 := f691.other W714 (Or.inl ne437)
  have f726 := f692.other W714 (Or.inl ne437)
  have f727 := Sta.wr W714 f693
  have f728 := f694.wr W714
  have f729 := f695.other W714 (Or.inl ne438)
  have f730 := f696.other W714 (Or.inl ne438)
  have f731 := Sta.wr W714 f697
  have f732 := f698.wr W714
  have f733 := f699.other W714 (Or.inl ne439)
  have f734 := f700.other W714 (Or.inl ne439)
  have f735 := Sta.wr W714 f701
  have f736 := f702.wr W714
  have f737 := f703.other W714 (Or.inl ne440)
  have f738 := f704.other W714 (Or.inl ne440)
  have f739 := Sta.wr W714 f705
  have f740 := f706.wr W714
  have f741 := f707.other W714 (Or.inl ne441)
  have f742 := f708.other W714 (Or.inl ne441)
  have f743 := Sta.wr W714 f709
  have f744 := f710.wr W714
  have f745 := f711.other W714 (Or.inl ne442)
  have f746 := f712.other W714 (Or.inl ne442)
  have Zn714 : n0 ≤ h714.size := Nat.le_trans Zn680 (Keep.of_wr W714).1
  refine own_step st714 ?_
  show own_Run p e below T714 (mkF m 55 #[.val (.int p0), .val (.int p1), .val (.int p2), .unset, .unset, .unset, .unset, .unset] [(.ref b434)]) _
  refine own_step (fun t k => XS.astoreN X714.here hx rfl (hb hby at_55) rfl rfl (l' := #[.val (.int p0), .val (.int p1), .val (.int p2), .val (.ref b434), .unset, .unset, .unset, .unset]) rfl k) ?_
  show own_Run p e below T714 (mkF m 56 #[.val (.int p0), .val (.int p1), .val (.int p2), .val (.ref b434), .unset, .unset, .unset, .unset] []) _
  refine own_step (fun t k => XS.iloadN X714.here hx rfl (hb hby at_56) rfl  k) ?_
  show own_Run p e below T714 (mkF m 57 #[.val (.int p0), .val (.int p1), .val (.int p2), .val (.ref b434), .unset, .unset, .unset, .unset] [(.int p0)]) _
  refine own_step (fun t k => XS.bipush X714.here hx rfl (hb hby at_57) k) ?_
  show own_Run p e below T714 (mkF m 59 #[.val (.int p0), .val (.int p1), .val (.int p2), .val (.ref b434), .unset, .unset, .unset, .unset] [(.int (7 : Int32)), (.int p0)]) _
  refine own_step (fun t k => XS.iand X714.here hx rfl (hb hby at_59) rfl k) ?_
  show own_Run p e below T714 (mkF m 60 #[.val (.int p0), .val (.int p1), .val (.int p2), .val (.ref b434), .unset, .unset, .unset, .unset] [(.int (p0 &&& (7 : Int32)))]) _
  by_cases hs747 : (p0 &&& (7 : Int32)) = (0 : Int32)
  · refine own_vi (if_pos hs747) ?_
    rw [hs747]
    show own_Run p e below T714 (mkF m 60 #[.val (.int p0), .val (.int p1), .val (.int p2), .val (.ref b434), .unset, .unset, .unset, .unset] [(.int (0 : Int32))]) _
    refine own_step (fun t k => XS.istore X714.here hx rfl (hb hby at_60) rfl (l' := #[.val (.int p0), .val (.int p1), .val (.int p2), .val (.ref b434), .val (.int (0 : Int32)), .unset, .unset, .unset]) rfl k) ?_
    show own_Run p e below T714 (mkF m 62 #[.val (.int p0), .val (.int p1), .val (.int p2), .val (.ref b434), .val (.int (0 : Int32)), .unset, .unset, .unset] []) _
    refine own_step (fun t k => XS.iloadN X714.here hx rfl (hb hby at_62) rfl  k) ?_
    show own_Run p e below T714 (mkF m 63 #[.val (.int p0), .val (.int p1), .val (.int p2), .val (.ref b434), .val (.int (0 : Int32)), .unset, .unset, .unset] [(.int p1)]) _
    refine own_step (fun t k => XS.iconst X714.here hx rfl (hb hby at_63) k) ?_
    show own_Run p e below T714 (mkF m 64 #[.val (.int p0), .val (.int p1), .val (.int p2), .val (.ref b434), .val (.int (0 : Int32)), .unset, .unset, .unset] [(.int (3 : Int32)), (.int p1)]) _
    refine own_step (fun t k => XS.iand X714.here hx rfl (hb hby at_64) rfl k) ?_
    show own_Run p e below T714 (mkF m 65 #[.val (.int p0), .val (.int p1), .val (.int p2), .val (.ref b434), .val (.int (0 : Int32)), .unset, .unset, .unset] [(.int (p1 &&& (3 : Int32)))]) _
    refine own_step (fun t k => XS.istore X714.here hx rfl (hb hby at_65) rfl (l' := #[.val (.int p0), .val (.int p1), .val (.int p2), .val (.ref b434), .val (.int (0 : Int32)), .val (.int (p1 &&& (3 : Int32))), .unset, .unset]) rfl k) ?_
    show own_Run p e below T714 (mkF m 67 #[.val (.int p0), .val (.int p1), .val (.int p2), .val (.ref b434), .val (.int (0 : Int32)), .val (.int (p1 &&& (3 : Int32))), .unset, .unset] []) _
    refine own_step (fun t k => XS.iload X714.here hx rfl (hb hby at_67) rfl  k) ?_
    show own_Run p e below T714 (mkF m 69 #[.val (.int p0), .val (.int p1), .val (.int p2), .val (.ref b434), .val (.int (0 : Int32)), .val (.int (p1 &&& (3 : Int32))), .unset, .unset] [(.int (p1 &&& (3 : Int32)))]) _
    obtain ⟨_, st755, rfl⟩ : own_Run p e below T714 (mkF m 69 #[.val (.int p0), .val (.int p1), .val (.int p2), .val (.ref b434), .val (.int (0 : Int32)), .val (.int (p1 &&& (3 : Int32))), .unset, .unset] [(.int (p1 &&& (3 : Int32)))]) (fun t => t = T714.setTop (mkF m 115 #[.val (.int p0), .val (.int p1), .val (.int p2), .val (.ref b434), .val (.int (0 : Int32)), .val (.int (p1 &&& (3 : Int32))), .val (.int (own_f0_j115_L6 p1 p2)), .unset] [])) := by
      by_cases hc756 : (p1 &&& (3 : Int32)) = (0 : Int32)
      · refine own_step (fun t k => XS.ifNo X714.here hx rfl (hb hby at_69) rfl ((if0 _ _).trans (teq hc756).2) k) ?_
        show own_Run p e below T714 (mkF m 72 #[.val (.int p0), .val (.int p1), .val (.int p2), .val (.ref b434), .val (.int (0 : Int32)), .val (.int (p1 &&& (3 : Int32))), .unset, .unset] []) _
        refine own_step (fun t k => XS.iloadN X714.here hx rfl (hb hby at_72) rfl  k) ?_
        show own_Run p e below T714 (mkF m 73 #[.val (.int p0), .val (.int p1), .val (.int p2), .val (.ref b434), .val (.int (0 : Int32)), .val (.int (p1 &&& (3 : Int32))), .unset, .unset] [(.int p2)]) _
        refine own_step (fun t k => XS.istore X714.here hx rfl (hb hby at_73) rfl (l' := #[.val (.int p0), .val (.int p1), .val (.int p2), .val (.ref b434), .val (.int (0 : Int32)), .val (.int (p1 &&& (3 : Int32))), .val (.int p2), .unset]) rfl k) ?_
        show own_Run p e below T714 (mkF m 75 #[.val (.int p0), .val (.int p1), .val (.int p2), .val (.ref b434), .val (.int (0 : Int32)), .val (.int (p1 &&& (3 : Int32))), .val (.int p2), .unset] []) _
        refine own_step (fun t k => XS.goto X714.here hx rfl (pc0 := 75) (pc' := 115) rfl (hb hby at_75) (by decide) (by decide) k) ?_
        show own_Run p e below T714 (mkF m 115 #[.val (.int p0), .val (.int p1), .val (.int p2), .val (.ref b434), .val (.int (0 : Int32)), .val (.int (p1 &&& (3 : Int32))), .val (.int p2), .unset] []) _
        have hj0 : (own_f0_j115_L6 p1 p2) = p2 := (if_pos hc756)
        exact own_here (by rw [hj0])
      · refine own_step (fun t k => XS.ifYes X714.here hx rfl (pc0 := 69) (pc' := 78) rfl (hb hby at_69) rfl ((if0 _ _).trans (feq hc756).2) (by decide) (by decide) k) ?_
        show own_Run p e below T714 (mkF m 78 #[.val (.int p0), .val (.int p1), .val (.int p2), .val (.ref b434), .val (.int (0 : Int32)), .val (.int (p1 &&& (3 : Int32))), .unset, .unset] []) _
        refine own_step (fun t k => XS.iload X714.here hx rfl (hb hby at_78) rfl  k) ?_
        show own_Run p e below T714 (mkF m 80 #[.val (.int p0), .val (.int p1), .val (.int p2), .val (.ref b434), .val (.int (0 : Int32)), .val (.int (p1 &&& (3 : Int32))), .unset, .unset] [(.int (p1 &&& (3 : Int32)))]) _
        refine own_step (fun t k => XS.iconst X714.here hx rfl (hb hby at_80) k) ?_
        show own_Run p e below T714 (mkF m 81 #[.val (.int p0), .val (.int p1), .val (.int p2), .val (.ref b434), .val (.int (0 : Int32)), .val (.int (p1 &&& (3 : Int32))), .unset, .unset] [(.int (1 : Int32)), (.int (p1 &&& (3 : Int32)))]) _
        by_cases hc757 : (p1 &&& (3 : Int32)) = (1 : Int32)
        · refine own_step (fun t k => XS.icmpNo X714.here hx rfl (hb hby at_81) rfl (teq hc757).2 k) ?_
          show own_Run p e below T714 (mkF m 84 #[.val (.int p0), .val (.int p1), .val (.int p2), .val (.ref b434), .val (.int (0 : Int32)), .val (.int (p1 &&& (3 : Int32))), .unset, .unset] []) _
          refine own_step (fun t k => XS.iloadN X714.here hx rfl (hb hby at_84) rfl  k) ?_
          show own_Run p e below T714 (mkF m 85 #[.val (.int p0), .val (.int p1), .val (.int p2), .val (.ref b434), .val (.int (0 : Int32)), .val (.int (p1 &&& (3 : Int32))), .unset, .unset] [(.int p2)]) _
          refine own_step (fun t k => XS.bipush X714.here hx rfl (hb hby at_85) k) ?_
          show own_Run p e below T714 (mkF m 87 #[.val (.int p0), .val (.int p1), .val (.int p2), .val (.ref b434), .val (.int (0 : Int32)), .val (.int (p1 &&& (3 : Int32))), .unset, .unset] [(.int (127 : Int32)), (.int p2)]) _
          refine own_step (fun t k => XS.iand X714.here hx rfl (hb hby at_87) rfl k) ?_
          show own_Run p e below T714 (mkF m 88 #[.val (.int p0), .val (.int p1), .val (.int p2), .val (.ref b434), .val (.int (0 : Int32)), .val (.int (p1 &&& (3 : Int32))), .unset, .unset] [(.int (p2 &&& (127 : Int32)))]) _
          refine own_step (fun t k => XS.istore X714.here hx rfl (hb hby at_88) rfl (l' := #[.val (.int p0), .val (.int p1), .val (.int p2), .val (.ref b434), .val (.int (0 : Int32)), .val (.int (p1 &&& (3 : Int32))), .val (.int (p2 &&& (127 : Int32))), .unset]) rfl k) ?_
          show own_Run p e below T714 (mkF m 90 #[.val (.int p0), .val (.int p1), .val (.int p2), .val (.ref b434), .val (.int (0 : Int32)), .val (.int (p1 &&& (3 : Int32))), .val (.int (p2 &&& (127 : Int32))), .unset] []) _
          refine own_step (fun t k => XS.goto X714.here hx rfl (pc0 := 90) (pc' := 115) rfl (hb hby at_90) (by decide) (by decide) k) ?_
          show own_Run p e below T714 (mkF m 115 #[.val (.int p0), .val (.int p1), .val (.int p2), .val (.ref b434), .val (.int (0 : Int32)), .val (.int (p1 &&& (3 : Int32))), .val (.int (p2 &&& (127 : Int32))), .unset] []) _
          have hj0 : (own_f0_j115_L6 p1 p2) = (p2 &&& (127 : Int32)) := ((if_neg hc756).trans (if_pos hc757))
          exact own_here (by rw [hj0])
        · refine own_step (fun t k => XS.icmpYes X714.here hx rfl (pc0 := 81) (pc' := 93) rfl (hb hby at_81) rfl (feq hc757).2 (by decide) (by decide) k) ?_
          show own_Run p e below T714 (mkF m 93 #[.val (.int p0), .val (.int p1), .val (.int p2), .val (.ref b434), .val (.int (0 : Int32)), .val (.int (p1 &&& (3 : Int32))), .unset, .unset] []) _
          refine own_step (fun t k => XS.iload X714.here hx rfl (hb hby at_93) rfl  k) ?_
          show own_Run p e below T714 (mkF m 95 #[.val (.int p0), .val (.int p1), .val (.int p2), .val (.ref b434), .val (.int (0 : Int32)), .val (.int (p1 &&& (3 : Int32))), .unset, .unset] [(.int (p1 &&& (3 : Int32)))]) _
          refine own_step (fun t k => XS.iconst X714.here hx rfl (hb hby at_95) k) ?_
          show own_Run p e below T714 (mkF m 96 #[.val (.int p0), .val (.int p1), .val (.int p2), .val (.ref b434), .val (.int (0 : Int32)), .val (.int (p1 &&& (3 : Int32))), .unset, .unset] [(.int (2 : Int32)), (.int (p1 &&& (3 : Int32)))]) _
          by_cases hc758 : (p1 &&& (3 : Int32)) = (2 : Int32)
          · refine own_step (fun t k => XS.icmpNo X714.here hx rfl (hb hby at_96) rfl (teq hc758).2 k) ?_
            show own_Run p e below T714 (mkF m 99 #[.val (.int p0), .val (.int p1), .val (.int p2), .val (.ref b434), .val (.int (0 : Int32)), .val (.int (p1 &&& (3 : Int32))), .unset, .unset] []) _
            refine own_step (fun t k => XS.iloadN X714.here hx rfl (hb hby at_99) rfl  k) ?_
            show own_Run p e below T714 (mkF m 100 #[.val (.int p0), .val (.int p1), .val (.int p2), .val (.ref b434), .val (.int (0 : Int32)), .val (.int (p1 &&& (3 : Int32))), .unset, .unset] [(.int p2)]) _
            refine own_step (fun t k => X714.ldcInt hx hown (mvT hZ (hw _ (List.mem_of_getElem? (i := 34) rfl))) (g := (mkF m 100 #[.val (.int p0), .val (.int p1), .val (.int p2), .val (.ref b434), .val (.int (0 : Int32)), .val (.int (p1 &&& (3 : Int32))), .unset, .unset] [(.int p2)])) rfl (hb hby at_100) t k) ?_
            show own_Run p e below T714 (mkF m 102 #[.val (.int p0), .val (.int p1), .val (.int p2), .val (.ref b434), .val (.int (0 : Int32)), .val (.int (p1 &&& (3 : Int32))), .unset, .unset] [(.int (131071 : Int32)), (.int p2)]) _
            refine own_step (fun t k => XS.iand X714.here hx rfl (hb hby at_102) rfl k) ?_
            show own_Run p e below T714 (mkF m 103 #[.val (.int p0), .val (.int p1), .val (.int p2), .val (.ref b434), .val (.int (0 : Int32)), .val (.int (p1 &&& (3 : Int32))), .unset, .unset] [(.int (p2 &&& (131071 : Int32)))]) _
            refine own_step (fun t k => XS.istore X714.here hx rfl (hb hby at_103) rfl (l' := #[.val (.int p0), .val (.int p1), .val (.int p2), .val (.ref b434), .val (.int (0 : Int32)), .val (.int (p1 &&& (3 : Int32))), .val (.int (own_f0_103 p2)), .unset]) rfl k) ?_
            show own_Run p e below T714 (mkF m 105 #[.val (.int p0), .val (.int p1), .val (.int p2), .val (.ref b434), .val (.int (0 : Int32)), .val (.int (p1 &&& (3 : Int32))), .val (.int (own_f0_103 p2)), .unset] []) _
            refine own_step (fun t k => XS.goto X714.here hx rfl (pc0 := 105) (pc' := 115) rfl (hb hby at_105) (by decide) (by decide) k) ?_
            show own_Run p e below T714 (mkF m 115 #[.val (.int p0), .val (.int p1), .val (.int p2), .val (.ref b434), .val (.int (0 : Int32)), .val (.int (p1 &&& (3 : Int32))), .val (.int (own_f0_103 p2)), .unset] []) _
            have hj0 : (own_f0_j115_L6 p1 p2) = (own_f0_103 p2) := ((if_neg hc756).trans ((if_neg hc757).trans (if_pos hc758)))
            exact own_here (by rw [hj0])
          · refine own_step (fun t k => XS.icmpYes X714.here hx rfl (pc0 := 96) (pc' := 108) rfl (hb hby at_96) rfl (feq hc758).2 (by decide) (by decide) k) ?_
            show own_Run p e below T714 (mkF m 108 #[.val (.int p0), .val (.int p1), .val (.int p2), .val (.ref b434), .val (.int (0 : Int32)), .val (.int (p1 &&& (3 : Int32))), .unset, .unset] []) _
            refine own_step (fun t k => XS.iloadN X714.here hx rfl (hb hby at_108) rfl  k) ?_
            show own_Run p e below T714 (mkF m 109 #[.val (.int p0), .val (.int p1), .val (.int p2), .val (.ref b434), .val (.int (0 : Int32)), .val (.int (p1 &&& (3 : Int32))), .unset, .unset] [(.int p2)]) _
            refine own_step (fun t k => XS.sipush X714.here hx rfl (hb hby at_109) k) ?_
            show own_Run p e below T714 (mkF m 112 #[.val (.int p0), .val (.int p1), .val (.int p2), .val (.ref b434), .val (.int (0 : Int32)), .val (.int (p1 &&& (3 : Int32))), .unset, .unset] [(.int (255 : Int32)), (.int p2)]) _
            refine own_step (fun t k => XS.iand X714.here hx rfl (hb hby at_112) rfl k) ?_
            show own_Run p e below T714 (mkF m 113 #[.val (.int p0), .val (.int p1), .val (.int p2), .val (.ref b434), .val (.int (0 : Int32)), .val (.int (p1 &&& (3 : Int32))), .unset, .unset] [(.int (p2 &&& (255 : Int32)))]) _
            refine own_step (fun t k => XS.istore X714.here hx rfl (hb hby at_113) rfl (l' := #[.val (.int p0), .val (.int p1), .val (.int p2), .val (.ref b434), .val (.int (0 : Int32)), .val (.int (p1 &&& (3 : Int32))), .val (.int (p2 &&& (255 : Int32))), .unset]) rfl k) ?_
            show own_Run p e below T714 (mkF m 115 #[.val (.int p0), .val (.int p1), .val (.int p2), .val (.ref b434), .val (.int (0 : Int32)), .val (.int (p1 &&& (3 : Int32))), .val (.int (p2 &&& (255 : Int32))), .unset] []) _
            have hj0 : (own_f0_j115_L6 p1 p2) = (p2 &&& (255 : Int32)) := ((if_neg hc756).trans ((if_neg hc757).trans (if_neg hc758)))
            exact own_here (by rw [hj0])
    refine own_tr st755 ?_
    show own_Run p e below T714 (mkF m 115 #[.val (.int p0), .val (.int p1), .val (.int p2), .val (.ref b434), .val (.int (0 : Int32)), .val (.int (p1 &&& (3 : Int32))), .val (.int (own_f0_j115_L6 p1 p2)), .unset] []) _
    refine own_step (fun t k => XS.iload X714.here hx rfl (hb hby at_115) rfl  k) ?_
    show own_Run p e below T714 (mkF m 117 #[.val (.int p0), .val (.int p1), .val (.int p2), .val (.ref b434), .val (.int (0 : Int32)), .val (.int (p1 &&& (3 : Int32))), .val (.int (own_f0_j115_L6 p1 p2)), .unset] [(.int (own_f0_j115_L6 p1 p2))]) _
    obtain ⟨_, st759, T759, L759, rfl, X759, e759, N759⟩ : own_Run p e below T714 (mkF m 117 #[.val (.int p0), .val (.int p1), .val (.int p2), .val (.ref b434), .val (.int (0 : Int32)), .val (.int (p1 &&& (3 : Int32))), .val (.int (own_f0_j115_L6 p1 p2)), .unset] [(.int (own_f0_j115_L6 p1 p2))]) (fun t => ∃ (T' : State) (L' : List Loc) , t = T'.setTop (mkF m 151 #[.val (.int p0), .val (.int p1), .val (.int p2), .val (.ref b434), .val (.int (0 : Int32)), .val (.int (p1 &&& (3 : Int32))), .val (.int (own_f0_j115_L6 p1 p2)), .unset] [(.int (own_f0_j151_S0 p1 p2))]) ∧ Stand p l e room_1 s m #[(.int p0), (.int p1), (.int p2)] below meth c T' L' 1 8 ∧ T'.heap = h714 ∧ Fr n0 L') := by
      by_cases hc760 : (own_f0_j115_L6 p1 p2) < (0 : Int32)
      · refine own_step (fun t k => XS.ifYes X714.here hx rfl (pc0 := 117) (pc' := 150) rfl (hb hby at_117) rfl ((if0 _ _).trans (tlt hc760).1) (by decide) (by decide) k) ?_
        show own_Run p e below T714 (mkF m 150 #[.val (.int p0), .val (.int p1), .val (.int p2), .val (.ref b434), .val (.int (0 : Int32)), .val (.int (p1 &&& (3 : Int32))), .val (.int (own_f0_j115_L6 p1 p2)), .unset] []) _
        refine own_step (fun t k => XS.iconst X714.here hx rfl (hb hby at_150) k) ?_
        show own_Run p e below T714 (mkF m 151 #[.val (.int p0), .val (.int p1), .val (.int p2), .val (.ref b434), .val (.int (0 : Int32)), .val (.int (p1 &&& (3 : Int32))), .val (.int (own_f0_j115_L6 p1 p2)), .unset] [(.int (0 : Int32))]) _
        have hj0 : (own_f0_j151_S0 p1 p2) = (0 : Int32) := (if_pos hc760)
        exact own_here ⟨T714, _, (by rw [hj0]), X714, e714, N714⟩
      · refine own_step (fun t k => XS.ifNo X714.here hx rfl (hb hby at_117) rfl ((if0 _ _).trans (flt hc760).1) k) ?_
        show own_Run p e below T714 (mkF m 120 #[.val (.int p0), .val (.int p1), .val (.int p2), .val (.ref b434), .val (.int (0 : Int32)), .val (.int (p1 &&& (3 : Int32))), .val (.int (own_f0_j115_L6 p1 p2)), .unset] []) _
        refine own_step (fun t k => XS.iload X714.here hx rfl (hb hby at_120) rfl  k) ?_
        show own_Run p e below T714 (mkF m 122 #[.val (.int p0), .val (.int p1), .val (.int p2), .val (.ref b434), .val (.int (0 : Int32)), .val (.int (p1 &&& (3 : Int32))), .val (.int (own_f0_j115_L6 p1 p2)), .unset] [(.int (own_f0_j115_L6 p1 p2))]) _
        refine own_step (fun t k => XS.sipush X714.here hx rfl (hb hby at_122) k) ?_
        show own_Run p e below T714 (mkF m 125 #[.val (.int p0), .val (.int p1), .val (.int p2), .val (.ref b434), .val (.int (0 : Int32)), .val (.int (p1 &&& (3 : Int32))), .val (.int (own_f0_j115_L6 p1 p2)), .unset] [(.int (128 : Int32)), (.int (own_f0_j115_L6 p1 p2))]) _
        by_cases hc761 : (own_f0_j115_L6 p1 p2) < (128 : Int32)
        · refine own_step (fun t k => XS.icmpNo X714.here hx rfl (hb hby at_125) rfl (tlt hc761).2.1 k) ?_
          show own_Run p e below T714 (mkF m 128 #[.val (.int p0), .val (.int p1), .val (.int p2), .val (.ref b434), .val (.int (0 : Int32)), .val (.int (p1 &&& (3 : Int32))), .val (.int (own_f0_j115_L6 p1 p2)), .unset] []) _
          refine own_step (fun t k => XS.iload X714.here hx rfl (hb hby at_128) rfl  k) ?_
          show own_Run p e below T714 (mkF m 130 #[.val (.int p0), .val (.int p1), .val (.int p2), .val (.ref b434), .val (.int (0 : Int32)), .val (.int (p1 &&& (3 : Int32))), .val (.int (own_f0_j115_L6 p1 p2)), .unset] [(.int (own_f0_j115_L6 p1 p2))]) _
          obtain ⟨_, _, ⟨T762, L762, kq762, nq762⟩, -, X762, ⟨Lc762, hQ762, lq762, yq762, zq762⟩, st762⟩ := Jvm.LawKit.callS X714 hx (y := (⟨"com/example/fuxi/fuxi/model/PartKeepsPinLaw", "alnum", "(I)Z"⟩ : MethodName)) hown (mvT hZ (hw _ (List.mem_of_getElem? (i := 20) rfl))) (mvT hZ (hw _ (List.mem_of_getElem? (i := 21) rfl))) (mvT hZ (hw _ (List.mem_of_getElem? (i := 22) rfl))) (mvT hZ (hw _ (List.mem_of_getElem? (i := 23) rfl))) (by decide) (backOf (W := 0) (rm1 l Z av0 hw [] (own_f0_j115_L6 p1 p2) h714 n0 Zn714 ) hZ (hw _ (List.mem_of_getElem? (i := 23) rfl)) (hw _ (List.mem_of_getElem? (i := 22) rfl)) (by decide) (by decide)) (g := (mkF m 130 #[.val (.int p0), .val (.int p1), .val (.int p2), .val (.ref b434), .val (.int (0 : Int32)), .val (.int (p1 &&& (3 : Int32))), .val (.int (own_f0_j115_L6 p1 p2)), .unset] [(.int (own_f0_j115_L6 p1 p2))])) rfl (by rw [hml]; rfl) (argsL := [(.int (own_f0_j115_L6 p1 p2))]) (rest := []) (lenOf own_pd170 rfl) rfl (by show 2 * 0 + _ ≤ _; exact Nat.le_of_eq rfl) (hb hby at_130) (fun _ _ => ⟨rfl, e714, (by decide : 1 + 0 ≤ _), (by decide : 8 + 0 ≤ _)⟩)
          dsimp only [Pt.U, Pt.locs, Pt.cells, Pt.slots] at X762 lq762 yq762 zq762 st762 hQ762
          subst lq762 yq762 zq762
          obtain ⟨rfl, N762q, e762⟩ := hQ762
          have N762 := Fr.app N714 N762q
          refine own_step st762 ?_
          show own_Run p e below T762 (mkF m 133 #[.val (.int p0), .val (.int p1), .val (.int p2), .val (.ref b434), .val (.int (0 : Int32)), .val (.int (p1 &&& (3 : Int32))), .val (.int (own_f0_j115_L6 p1 p2)), .unset] [(.int (own_r1 (own_f0_j115_L6 p1 p2)))]) _
          by_cases hc763 : (own_r1 (own_f0_j115_L6 p1 p2)) = (0 : Int32)
          · refine own_step (fun t k => XS.ifNo X762.here hx rfl (hb hby at_133) rfl ((if0 _ _).trans (teq hc763).2) k) ?_
            show own_Run p e below T762 (mkF m 136 #[.val (.int p0), .val (.int p1), .val (.int p2), .val (.ref b434), .val (.int (0 : Int32)), .val (.int (p1 &&& (3 : Int32))), .val (.int (own_f0_j115_L6 p1 p2)), .unset] []) _
            refine own_step (fun t k => XS.iload X762.here hx rfl (hb hby at_136) rfl  k) ?_
            show own_Run p e below T762 (mkF m 138 #[.val (.int p0), .val (.int p1), .val (.int p2), .val (.ref b434), .val (.int (0 : Int32)), .val (.int (p1 &&& (3 : Int32))), .val (.int (own_f0_j115_L6 p1 p2)), .unset] [(.int (0 : Int32))]) _
            refine own_step (fun t k => XS.iload X762.here hx rfl (hb hby at_138) rfl  k) ?_
            show own_Run p e below T762 (mkF m 140 #[.val (.int p0), .val (.int p1), .val (.int p2), .val (.ref b434), .val (.int (0 : Int32)), .val (.int (p1 &&& (3 : Int32))), .val (.int (own_f0_j115_L6 p1 p2)), .unset] [(.int (own_f0_j115_L6 p1 p2)), (.int (0 : Int32))]) _
            obtain ⟨_, _, ⟨T764, L764, kq764, nq764⟩, -, X764, ⟨Lc764, hQ764, lq764, yq764, zq764⟩, st764⟩ := Jvm.LawKit.callS X762 hx (y := (⟨"com/example/fuxi/fuxi/model/PartKeepsPinLaw", "punct", "(II)Z"⟩ : MethodName)) hown (mvT hZ (hw _ (List.mem_of_getElem? (i := 24) rfl))) (mvT hZ (hw _ (List.mem_of_getElem? (i := 25) rfl))) (mvT hZ (hw _ (List.mem_of_getElem? (i := 22) rfl))) (mvT hZ (hw _ (List.mem_of_getElem? (i := 26) rfl))) (by decide) (backOf (W := 0) (rm2 l Z av0 hw [] (0 : Int32) (own_f0_j115_L6 p1 p2) h714 n0 Zn714 ) hZ (hw _ (List.mem_of_getElem? (i := 26) rfl)) (hw _ (List.mem_of_getElem? (i := 22) rfl)) (by decide) (by decide)) (g := (mkF m 140 #[.val (.int p0), .val (.int p1), .val (.int p2), .val (.ref b434), .val (.int (0 : Int32)), .val (.int (p1 &&& (3 : Int32))), .val (.int (own_f0_j115_L6 p1 p2)), .unset] [(.int (own_f0_j115_L6 p1 p2)), (.int (0 : Int32))])) rfl (by rw [hml]; rfl) (argsL := [(.int (0 : Int32)), (.int (own_f0_j115_L6 p1 p2))]) (rest := []) (lenOf own_pd171 rfl) rfl (by show 2 * 0 + _ ≤ _; exact Nat.le_of_eq rfl) (hb hby at_140) (fun _ _ => ⟨rfl, e762, (by decide : 1 + 0 ≤ _), (by decide : 8 + 0 ≤ _)⟩)
            dsimp only [Pt.U, Pt.locs, Pt.cells, Pt.slots] at X764 lq764 yq764 zq764 st764 hQ764
            subst lq764 yq764 zq764
            obtain ⟨rfl, N764q, e764⟩ := hQ764
            have N764 := Fr.app N762 N764q
            refine own_step st764 ?_
            show own_Run p e below T764 (mkF m 143 #[.val (.int p0), .val (.int p1), .val (.int p2), .val (.ref b434), .val (.int (0 : Int32)), .val (.int (p1 &&& (3 : Int32))), .val (.int (own_f0_j115_L6 p1 p2)), .unset] [(.int (own_r2 (0 : Int32) (own_f0_j115_L6 p1 p2)))]) _
            by_cases hc765 : (own_r2 (0 : Int32) (own_f0_j115_L6 p1 p2)) = (0 : Int32)
            · refine own_step (fun t k => XS.ifYes X764.here hx rfl (pc0 := 143) (pc' := 150) rfl (hb hby at_143) rfl ((if0 _ _).trans (teq hc765).1) (by decide) (by decide) k) ?_
              show own_Run p e below T764 (mkF m 150 #[.val (.int p0), .val (.int p1), .val (.int p2), .val (.ref b434), .val (.int (0 : Int32)), .val (.int (p1 &&& (3 : Int32))), .val (.int (own_f0_j115_L6 p1 p2)), .unset] []) _
              refine own_step (fun t k => XS.iconst X764.here hx rfl (hb hby at_150) k) ?_
              show own_Run p e below T764 (mkF m 151 #[.val (.int p0), .val (.int p1), .val (.int p2), .val (.ref b434), .val (.int (0 : Int32)), .val (.int (p1 &&& (3 : Int32))), .val (.int (own_f0_j115_L6 p1 p2)), .unset] [(.int (0 : Int32))]) _
              have hj0 : (own_f0_j151_S0 p1 p2) = (0 : Int32) := ((if_neg hc760).trans ((if_pos hc761).trans ((if_pos hc763).trans (if_pos hc765))))
              exact own_here ⟨T764, _, (by rw [hj0]), X764, e764, N764⟩
            · refine own_step (fun t k => XS.ifNo X764.here hx rfl (hb hby at_143) rfl ((if0 _ _).trans (feq hc765).1) k) ?_
              show own_Run p e below T764 (mkF m 146 #[.val (.int p0), .val (.int p1), .val (.int p2), .val (.ref b434), .val (.int (0 : Int32)), .val (.int (p1 &&& (3 : Int32))), .val (.int (own_f0_j115_L6 p1 p2)), .unset] []) _
              refine own_step (fun t k => XS.iconst X764.here hx rfl (hb hby at_146) k) ?_
              show own_Run p e below T764 (mkF m 147 #[.val (.int p0), .val (.int p1), .val (.int p2), .val (.ref b434), .val (.int (0 : Int32)), .val (.int (p1 &&& (3 : Int32))), .val (.int (own_f0_j115_L6 p1 p2)), .unset] [(.int (1 : Int32))]) _
              refine own_step (fun t k => XS.goto X764.here hx rfl (pc0 := 147) (pc' := 151) rfl (hb hby at_147) (by decide) (by decide) k) ?_
              show own_Run p e below T764 (mkF m 151 #[.val (.int p0), .val (.int p1), .val (.int p2), .val (.ref b434), .val (.int (0 : Int32)), .val (.int (p1 &&& (3 : Int32))), .val (.int (own_f0_j115_L6 p1 p2)), .unset] [(.int (1 : Int32))]) _
              have hj0 : (own_f0_j151_S0 p1 p2) = (1 : Int32) := ((if_neg hc760).trans ((if_pos hc761).trans ((if_pos hc763).trans (if_neg hc765))))
              exact own_here ⟨T764, _, (by rw [hj0]), X764, e764, N764⟩
          · refine own_step (fun t k => XS.ifYes X762.here hx rfl (pc0 := 133) (pc' := 146) rfl (hb hby at_133) rfl ((if0 _ _).trans (feq hc763).2) (by decide) (by decide) k) ?_
            show own_Run p e below T762 (mkF m 146 #[.val (.int p0), .val (.int p1), .val (.int p2), .val (.ref b434), .val (.int (0 : Int32)), .val (.int (p1 &&& (3 : Int32))), .val (.int (own_f0_j115_L6 p1 p2)), .unset] []) _
            refine own_step (fun t k => XS.iconst X762.here hx rfl (hb hby at_146) k) ?_
            show own_Run p e below T762 (mkF m 147 #[.val (.int p0), .val (.int p1), .val (.int p2), .val (.ref b434), .val (.int (0 : Int32)), .val (.int (p1 &&& (3 : Int32))), .val (.int (own_f0_j115_L6 p1 p2)), .unset] [(.int (1 : Int32))]) _
            refine own_step (fun t k => XS.goto X762.here hx rfl (pc0 := 147) (pc' := 151) rfl (hb hby at_147) (by decide) (by decide) k) ?_
            show own_Run p e below T762 (mkF m 151 #[.val (.int p0), .val (.int p1), .val (.int p2), .val (.ref b434), .val (.int (0 : Int32)), .val (.int (p1 &&& (3 : Int32))), .val (.int (own_f0_j115_L6 p1 p2)), .unset] [(.int (1 : Int32))]) _
            have hj0 : (own_f0_j151_S0 p1 p2) = (1 : Int32) := ((if_neg hc760).trans ((if_pos hc761).trans (if_neg hc763)))
            exact own_here ⟨T762, _, (by rw [hj0]), X762, e762, N762⟩
        · refine own_step (fun t k => XS.icmpYes X714.here hx rfl (pc0 := 125) (pc' := 150) rfl (hb hby at_125) rfl (flt hc761).2.1 (by decide) (by decide) k) ?_
          show own_Run p e below T714 (mkF m 150 #[.val (.int p0), .val (.int p1), .val (.int p2), .val (.ref b434), .val (.int (0 : Int32)), .val (.int (p1 &&& (3 : Int32))), .val (.int (own_f0_j115_L6 p1 p2)), .unset] []) _
          refine own_step (fun t k => XS.iconst X714.here hx rfl (hb hby at_150) k) ?_
          show own_Run p e below T714 (mkF m 151 #[.val (.int p0), .val (.int p1), .val (.int p2), .val (.ref b434), .val (.int (0 : Int32)), .val (.int (p1 &&& (3 : Int32))), .val (.int (own_f0_j115_L6 p1 p2)), .unset] [(.int (0 : Int32))]) _
          have hj0 : (own_f0_j151_S0 p1 p2) = (0 : Int32) := ((if_neg hc760).trans (if_neg hc761))
          exact own_here ⟨T714, _, (by rw [hj0]), X714, e714, N714⟩
    refine own_tr st759 ?_
    show own_Run p e below T759 (mkF m 151 #[.val (.int p0), .val (.int p1), .val (.int p2), .val (.ref b434), .val (.int (0 : Int32)), .val (.int (p1 &&& (3 : Int32))), .val (.int (own_f0_j115_L6 p1 p2)), .unset] [(.int (own_f0_j151_S0 p1 p2))]) _
    refine own_step (fun t k => XS.istore X759.here hx rfl (hb hby at_151) rfl (l' := #[.val (.int p0), .val (.int p1), .val (.int p2), .val (.ref b434), .val (.int (0 : Int32)), .val (.int (p1 &&& (3 : Int32))), .val (.int (own_f0_j115_L6 p1 p2)), .val (.int (own_f0_j151_S0 p1 p2))]) rfl k) ?_
    show own_Run p e below T759 (mkF m 153 #[.val (.int p0), .val (.int p1), .val (.int p2), .val (.ref b434), .val (.int (0 : Int32)), .val (.int (p1 &&& (3 : Int32))), .val (.int (own_f0_j115_L6 p1 p2)), .val (.int (own_f0_j151_S0 p1 p2))] []) _
    refine own_step (fun t k => XS.aloadN X759.here hx rfl (hb hby at_153) rfl rfl k) ?_
    show own_Run p e below T759 (mkF m 154 #[.val (.int p0), .val (.int p1), .val (.int p2), .val (.ref b434), .val (.int (0 : Int32)), .val (.int (p1 &&& (3 : Int32))), .val (.int (own_f0_j115_L6 p1 p2)), .val (.int (own_f0_j151_S0 p1 p2))] [(.ref b434)]) _
    refine own_step (fun t k => XS.iload X759.here hx rfl (hb hby at_154) rfl  k) ?_
    show own_Run p e below T759 (mkF m 156 #[.val (.int p0), .val (.int p1), .val (.int p2), .val (.ref b434), .val (.int (0 : Int32)), .val (.int (p1 &&& (3 : Int32))), .val (.int (own_f0_j115_L6 p1 p2)), .val (.int (own_f0_j151_S0 p1 p2))] [(.int (0 : Int32)), (.ref b434)]) _
    refine own_step (own_ldR X759 hx hZ e759 V714x (j := (0 : Int32)) (v := (.ref w0)) ⟨by decide, by decide⟩ rfl (g := (mkF m 156 #[.val (.int p0), .val (.int p1), .val (.int p2), .val (.ref b434), .val (.int (0 : Int32)), .val (.int (p1 &&& (3 : Int32))), .val (.int (own_f0_j115_L6 p1 p2)), .val (.int (own_f0_j151_S0 p1 p2))] [(.int (0 : Int32)), (.ref b434)])) rfl rfl (hb hby at_156)) ?_
    show own_Run p e below T759 (mkF m 157 #[.val (.int p0), .val (.int p1), .val (.int p2), .val (.ref b434), .val (.int (0 : Int32)), .val (.int (p1 &&& (3 : Int32))), .val (.int (own_f0_j115_L6 p1 p2)), .val (.int (own_f0_j151_S0 p1 p2))] [(.ref w0)]) _
    refine own_step (fun t k => XS.iload X759.here hx rfl (hb hby at_157) rfl  k) ?_
    show own_Run p e below T759 (mkF m 159 #[.val (.int p0), .val (.int p1), .val (.int p2), .val (.ref b434), .val (.int (0 : Int32)), .val (.int (p1 &&& (3 : Int32))), .val (.int (own_f0_j115_L6 p1 p2)), .val (.int (own_f0_j151_S0 p1 p2))] [(.int (own_f0_j115_L6 p1 p2)), (.ref w0)]) _
    obtain ⟨cq766, kq766, q766a, q766b, q766c⟩ := isOf hZ e759 f716
    obtain ⟨_, _, ⟨T766, L766, kq766, nq766⟩, -, X766, ⟨Lc766, hQ766, lq766, yq766, zq766⟩, st766⟩ := X759.virtualBack hx (y := (⟨"com/example/fuxi/fuxi/model/Part", "keeps", "(I)Z"⟩ : MethodName)) (z := (⟨"com/example/fuxi/fuxi/model/Part", "keeps", "(I)Z"⟩ : MethodName)) hown (mvT hZ (hw _ (List.mem_of_getElem? (i := 27) rfl))) (mvT hZ (hw _ (List.mem_of_getElem? (i := 28) rfl))) (notFace_of_selects (args := #[]) (mvT hZ (hw _ (List.mem_of_getElem? (i := 30) rfl)))) (mvT hZ (hw _ (List.mem_of_getElem? (i := 30) rfl))) (mvT hZ (hw _ (List.mem_of_getElem? (i := 29) rfl))) (by decide) (backOf (W := 0) (rm3 l Z av0 hw [] w0 (own_f0_j115_L6 p1 p2) (288054454291267584 : Int64) (5188146764422578174 : Int64) h714 n0 Zn714 f717 f718) hZ (hw _ (List.mem_of_getElem? (i := 31) rfl)) (hw _ (List.mem_of_getElem? (i := 3) rfl)) (by decide) (by decide)) q766a q766c (g := (mkF m 159 #[.val (.int p0), .val (.int p1), .val (.int p2), .val (.ref b434), .val (.int (0 : Int32)), .val (.int (p1 &&& (3 : Int32))), .val (.int (own_f0_j115_L6 p1 p2)), .val (.int (own_f0_j151_S0 p1 p2))] [(.int (own_f0_j115_L6 p1 p2)), (.ref w0)])) rfl (by rw [hml]; rfl) (Steps.refl _) (argsL := [(.int (own_f0_j115_L6 p1 p2))]) (rest := []) (lenOf own_pd170 rfl) rfl (by show 2 * 0 + _ ≤ _; exact Nat.le_of_eq rfl) (hb hby at_159) (fun _ _ => ⟨rfl, e759, (by decide : 1 + 0 ≤ _), (by decide : 8 + 0 ≤ _)⟩)
    dsimp only [Pt.U, Pt.locs, Pt.cells, Pt.slots] at X766 lq766 yq766 zq766 st766 hQ766
    subst lq766 yq766 zq766
    obtain ⟨rfl, N766q, e766⟩ := hQ766
    have N766 := Fr.app N759 N766q
    refine own_tr st766 ?_
    show own_Run p e below T766 (mkF m 162 #[.val (.int p0), .val (.int p1), .val (.int p2), .val (.ref b434), .val (.int (0 : Int32)), .val (.int (p1 &&& (3 : Int32))), .val (.int (own_f0_j115_L6 p1 p2)), .val (.int (own_f0_j151_S0 p1 p2))] [(.int (own_r3 (own_f0_j115_L6 p1 p2) (288054454291267584 : Int64) (5188146764422578174 : Int64)))]) _
    refine own_step (fun t k => XS.iload X766.here hx rfl (hb hby at_162) rfl  k) ?_
    show own_Run p e below T766 (mkF m 164 #[.val (.int p0), .val (.int p1), .val (.int p2), .val (.ref b434), .val (.int (0 : Int32)), .val (.int (p1 &&& (3 : Int32))), .val (.int (own_f0_j115_L6 p1 p2)), .val (.int (own_f0_j151_S0 p1 p2))] [(.int (own_f0_j151_S0 p1 p2)), (.int (own_r3 (own_f0_j115_L6 p1 p2) (288054454291267584 : Int64) (5188146764422578174 : Int64)))]) _
    obtain ⟨_, st767, rfl⟩ : own_Run p e below T766 (mkF m 164 #[.val (.int p0), .val (.int p1), .val (.int p2), .val (.ref b434), .val (.int (0 : Int32)), .val (.int (p1 &&& (3 : Int32))), .val (.int (own_f0_j115_L6 p1 p2)), .val (.int (own_f0_j151_S0 p1 p2))] [(.int (own_f0_j151_S0 p1 p2)), (.int (own_r3 (own_f0_j115_L6 p1 p2) (288054454291267584 : Int64) (5188146764422578174 : Int64)))]) (fun t => t = T766.setTop (mkF m 172 #[.val (.int p0), .val (.int p1), .val (.int p2), .val (.ref b434), .val (.int (0 : Int32)), .val (.int (p1 &&& (3 : Int32))), .val (.int (own_f0_j115_L6 p1 p2)), .val (.int (own_f0_j151_S0 p1 p2))] [(.int (own_f0_j172_S0 p1 p2))])) := by
      by_cases hc768 : (own_r3 (own_f0_j115_L6 p1 p2) (288054454291267584 : Int64) (5188146764422578174 : Int64)) = (own_f0_j151_S0 p1 p2)
      · refine own_step (fun t k => XS.icmpNo X766.here hx rfl (hb hby at_164) rfl (teq hc768).2 k) ?_
        show own_Run p e below T766 (mkF m 167 #[.val (.int p0), .val (.int p1), .val (.int p2), .val (.ref b434), .val (.int (0 : Int32)), .val (.int (p1 &&& (3 : Int32))), .val (.int (own_f0_j115_L6 p1 p2)), .val (.int (own_f0_j151_S0 p1 p2))] []) _
        refine own_step (fun t k => XS.iconst X766.here hx rfl (hb hby at_167) k) ?_
        show own_Run p e below T766 (mkF m 168 #[.val (.int p0), .val (.int p1), .val (.int p2), .val (.ref b434), .val (.int (0 : Int32)), .val (.int (p1 &&& (3 : Int32))), .val (.int (own_f0_j115_L6 p1 p2)), .val (.int (own_f0_j151_S0 p1 p2))] [(.int (1 : Int32))]) _
        refine own_step (fun t k => XS.goto X766.here hx rfl (pc0 := 168) (pc' := 172) rfl (hb hby at_168) (by decide) (by decide) k) ?_
        show own_Run p e below T766 (mkF m 172 #[.val (.int p0), .val (.int p1), .val (.int p2), .val (.ref b434), .val (.int (0 : Int32)), .val (.int (p1 &&& (3 : Int32))), .val (.int (own_f0_j115_L6 p1 p2)), .val (.int (own_f0_j151_S0 p1 p2))] [(.int (1 : Int32))]) _
        have hj0 : (own_f0_j172_S0 p1 p2) = (1 : Int32) := (if_pos hc768)
        exact own_here (by rw [hj0])
      · refine own_step (fun t k => XS.icmpYes X766.here hx rfl (pc0 := 164) (pc' := 171) rfl (hb hby at_164) rfl (feq hc768).2 (by decide) (by decide) k) ?_
        show own_Run p e below T766 (mkF m 171 #[.val (.int p0), .val (.int p1), .val (.int p2), .val (.ref b434), .val (.int (0 : Int32)), .val (.int (p1 &&& (3 : Int32))), .val (.int (own_f0_j115_L6 p1 p2)), .val (.int (own_f0_j151_S0 p1 p2))] []) _
        refine own_step (fun t k => XS.iconst X766.here hx rfl (hb hby at_171) k) ?_
        show own_Run p e below T766 (mkF m 172 #[.val (.int p0), .val (.int p1), .val (.int p2), .val (.ref b434), .val (.int (0 : Int32)), .val (.int (p1 &&& (3 : Int32))), .val (.int (own_f0_j115_L6 p1 p2)), .val (.int (own_f0_j151_S0 p1 p2))] [(.int (0 : Int32))]) _
        have hj0 : (own_f0_j172_S0 p1 p2) = (0 : Int32) := (if_neg hc768)
        exact own_here (by rw [hj0])
    refine own_tr st767 ?_
    show own_Run p e below T766 (mkF m 172 #[.val (.int p0), .val (.int p1), .val (.int p2), .val (.ref b434), .val (.int (0 : Int32)), .val (.int (p1 &&& (3 : Int32))), .val (.int (own_f0_j115_L6 p1 p2)), .val (.int (own_f0_j151_S0 p1 p2))] [(.int (own_f0_j172_S0 p1 p2))]) _
    exact own_retZ X766 hx hlk hret (hb hby at_172) (by decide) (by decide) N766 trivial
  · refine own_vi (if_neg hs747) ?_
    by_cases hs748 : (p0 &&& (7 : Int32)) = (1 : Int32)
    · refine own_vi (if_pos hs748) ?_
      rw [hs748]
      show own_Run p e below T714 (mkF m 60 #[.val (.int p0), .val (.int p1), .val (.int p2), .val (.ref b434), .unset, .unset, .unset, .unset] [(.int (1 : Int32))]) _
      refine own_step (fun t k => XS.istore X714.here hx rfl (hb hby at_60) rfl (l' := #[.val (.int p0), .val (.int p1), .val (.int p2), .val (.ref b434), .val (.int (1 : Int32)), .unset, .unset, .unset]) rfl k) ?_
      show own_Run p e below T714 (mkF m 62 #[.val (.int p0), .val (.int p1), .val (.int p2), .val (.ref b434), .val (.int (1 : Int32)), .unset, .unset, .unset] []) _
      refine own_step (fun t k => XS.iloadN X714.here hx rfl (hb hby at_62) rfl  k) ?_
      show own_Run p e below T714 (mkF m 63 #[.val (.int p0), .val (.int p1), .val (.int p2), .val (.ref b434), .val (.int (1 : Int32)), .unset, .unset, .unset] [(.int p1)]) _
      refine own_step (fun t k => XS.iconst X714.here hx rfl (hb hby at_63) k) ?_
      show own_Run p e below T714 (mkF m 64 #[.val (.int p0), .val (.int p1), .val (.int p2), .val (.ref b434), .val (.int (1 : Int32)), .unset, .unset, .unset] [(.int (3 : Int32)), (.int p1)]) _
      refine own_step (fun t k => XS.iand X714.here hx rfl (hb hby at_64) rfl k) ?_
      show own_Run p e below T714 (mkF m 65 #[.val (.int p0), .val (.int p1), .val (.int p2), .val (.ref b434), .val (.int (1 : Int32)), .unset, .unset, .unset] [(.int (p1 &&& (3 : Int32)))]) _
      refine own_step (fun t k => XS.istore X714.here hx rfl (hb hby at_65) rfl (l' := #[.val (.int p0), .val (.int p1), .val (.int p2), .val (.ref b434), .val (.int (1 : Int32)), .val (.int (p1 &&& (3 : Int32))), .unset, .unset]) rfl k) ?_
      show own_Run p e below T714 (mkF m 67 #[.val (.int p0), .val (.int p1), .val (.int p2), .val (.ref b434), .val (.int (1 : Int32)), .val (.int (p1 &&& (3 : Int32))), .unset, .unset] []) _
      refine own_step (fun t k => XS.iload X714.here hx rfl (hb hby at_67) rfl  k) ?_
      show own_Run p e below T714 (mkF m 69 #[.val (.int p0), .val (.int p1), .val (.int p2), .val (.ref b434), .val (.int (1 : Int32)), .val (.int (p1 &&& (3 : Int32))), .unset, .unset] [(.int (p1 &&& (3 : Int32)))]) _
      obtain ⟨_, st769, rfl⟩ : own_Run p e below T714 (mkF m 69 #[.val (.int p0), .val (.int p1), .val (.int p2), .val (.ref b434), .val (.int (1 : Int32)), .val (.int (p1 &&& (3 : Int32))), .unset, .unset] [(.int (p1 &&& (3 : Int32)))]) (fun t => t = T714.setTop (mkF m 115 #[.val (.int p0), .val (.int p1), .val (.int p2), .val (.ref b434), .val (.int (1 : Int32)), .val (.int (p1 &&& (3 : Int32))), .val (.int (own_f0_j115_L6 p1 p2)), .unset] [])) := by
        by_cases hc770 : (p1 &&& (3 : Int32)) = (0 : Int32)
        · refine own_step (fun t k => XS.ifNo X714.here hx rfl (hb hby at_69) rfl ((if0 _ _).trans (teq hc770).2) k) ?_
          show own_Run p e below T714 (mkF m 72 #[.val (.int p0), .val (.int p1), .val (.int p2), .val (.ref b434), .val (.int (1 : Int32)), .val (.int (p1 &&& (3 : Int32))), .unset, .unset] []) _
          refine own_step (fun t k => XS.iloadN X714.here hx rfl (hb hby at_72) rfl  k) ?_
          show own_Run p e below T714 (mkF m 73 #[.val (.int p0), .val (.int p1), .val (.int p2), .val (.ref b434), .val (.int (1 : Int32)), .val (.int (p1 &&& (3 : Int32))), .unset, .unset] [(.int p2)]) _
          refine own_step (fun t k => XS.istore X714.here hx rfl (hb hby at_73) rfl (l' := #[.val (.int p0), .val (.int p1), .val (.int p2), .val (.ref b434), .val (.int (1 : Int32)), .val (.int (p1 &&& (3 : Int32))), .val (.int p2), .unset]) rfl k) ?_
          show own_Run p e below T714 (mkF m 75 #[.val (.int p0), .val (.int p1), .val (.int p2), .val (.ref b434), .val (.int (1 : Int32)), .val (.int (p1 &&& (3 : Int32))), .val (.int p2), .unset] []) _
          refine own_step (fun t k => XS.goto X714.here hx rfl (pc0 := 75) (pc' := 115) rfl (hb hby at_75) (by decide) (by decide) k) ?_
          show own_Run p e below T714 (mkF m 115 #[.val (.int p0), .val (.int p1), .val (.int p2), .val (.ref b434), .val (.int (1 : Int32)), .val (.int (p1 &&& (3 : Int32))), .val (.int p2), .unset] []) _
          have hj0 : (own_f0_j115_L6 p1 p2) = p2 := (if_pos hc770)
          exact own_here (by rw [hj0])
        · refine own_step (fun t k => XS.ifYes X714.here hx rfl (pc0 := 69) (pc' := 78) rfl (hb hby at_69) rfl ((if0 _ _).trans (feq hc770).2) (by decide) (by decide) k) ?_
          show own_Run p e below T714 (mkF m 78 #[.val (.int p0), .val (.int p1), .val (.int p2), .val (.ref b434), .val (.int (1 : Int32)), .val (.int (p1 &&& (3 : Int32))), .unset, .unset] []) _
          refine own_step (fun t k => XS.iload X714.here hx rfl (hb hby at_78) rfl  k) ?_
          show own_Run p e below T714 (mkF m 80 #[.val (.int p0), .val (.int p1), .val (.int p2), .val (.ref b434), .val (.int (1 : Int32)), .val (.int (p1 &&& (3 : Int32))), .unset, .unset] [(.int (p1 &&& (3 : Int32)))]) _
          refine own_step (fun t k => XS.iconst X714.here hx rfl (hb hby at_80) k) ?_
          show own_Run p e below T714 (mkF m 81 #[.val (.int p0), .val (.int p1), .val (.int p2), .val (.ref b434), .val (.int (1 : Int32)), .val (.int (p1 &&& (3 : Int32))), .unset, .unset] [(.int (1 : Int32)), (.int (p1 &&& (3 : Int32)))]) _
          by_cases hc771 : (p1 &&& (3 : Int32)) = (1 : Int32)
          · refine own_step (fun t k => XS.icmpNo X714.here hx rfl (hb hby at_81) rfl (teq hc771).2 k) ?_
            show own_Run p e below T714 (mkF m 84 #[.val (.int p0), .val (.int p1), .val (.int p2), .val (.ref b434), .val (.int (1 : Int32)), .val (.int (p1 &&& (3 : Int32))), .unset, .unset] []) _
            refine own_step (fun t k => XS.iloadN X714.here hx rfl (hb hby at_84) rfl  k) ?_
            show own_Run p e below T714 (mkF m 85 #[.val (.int p0), .val (.int p1), .val (.int p2), .val (.ref b434), .val (.int (1 : Int32)), .val (.int (p1 &&& (3 : Int32))), .unset, .unset] [(.int p2)]) _
            refine own_step (fun t k => XS.bipush X714.here hx rfl (hb hby at_85) k) ?_
            show own_Run p e below T714 (mkF m 87 #[.val (.int p0), .val (.int p1), .val (.int p2), .val (.ref b434), .val (.int (1 : Int32)), .val (.int (p1 &&& (3 : Int32))), .unset, .unset] [(.int (127 : Int32)), (.int p2)]) _
            refine own_step (fun t k => XS.iand X714.here hx rfl (hb hby at_87) rfl k) ?_
            show own_Run p e below T714 (mkF m 88 #[.val (.int p0), .val (.int p1), .val (.int p2), .val (.ref b434), .val (.int (1 : Int32)), .val (.int (p1 &&& (3 : Int32))), .unset, .unset] [(.int (p2 &&& (127 : Int32)))]) _
            refine own_step (fun t k => XS.istore X714.here hx rfl (hb hby at_88) rfl (l' := #[.val (.int p0), .val (.int p1), .val (.int p2), .val (.ref b434), .val (.int (1 : Int32)), .val (.int (p1 &&& (3 : Int32))), .val (.int (p2 &&& (127 : Int32))), .unset]) rfl k) ?_
            show own_Run p e below T714 (mkF m 90 #[.val (.int p0), .val (.int p1), .val (.int p2), .val (.ref b434), .val (.int (1 : Int32)), .val (.int (p1 &&& (3 : Int32))), .val (.int (p2 &&& (127 : Int32))), .unset] []) _
            refine own_step (fun t k => XS.goto X714.here hx rfl (pc0 := 90) (pc' := 115) rfl (hb hby at_90) (by decide) (by decide) k) ?_
            show own_Run p e below T714 (mkF m 115 #[.val (.int p0), .val (.int p1), .val (.int p2), .val (.ref b434), .val (.int (1 : Int32)), .val (.int (p1 &&& (3 : Int32))), .val (.int (p2 &&& (127 : Int32))), .unset] []) _
            have hj0 : (own_f0_j115_L6 p1 p2) = (p2 &&& (127 : Int32)) := ((if_neg hc770).trans (if_pos hc771))
            exact own_here (by rw [hj0])
          · refine own_step (fun t k => XS.icmpYes X714.here hx rfl (pc0 := 81) (pc' := 93) rfl (hb hby at_81) rfl (feq hc771).2 (by decide) (by decide) k) ?_
            show own_Run p e below T714 (mkF m 93 #[.val (.int p0), .val (.int p1), .val (.int p2), .val (.ref b434), .val (.int (1 : Int32)), .val (.int (p1 &&& (3 : Int32))), .unset, .unset] []) _
            refine own_step (fun t k => XS.iload X714.here hx rfl (hb hby at_93) rfl  k) ?_
            show own_Run p e below T714 (mkF m 95 #[.val (.int p0), .val (.int p1), .val (.int p2), .val (.ref b434), .val (.int (1 : Int32)), .val (.int (p1 &&& (3 : Int32))), .unset, .unset] [(.int (p1 &&& (3 : Int32)))]) _
            refine own_step (fun t k => XS.iconst X714.here hx rfl (hb hby at_95) k) ?_
            show own_Run p e below T714 (mkF m 96 #[.val (.int p0), .val (.int p1), .val (.int p2), .val (.ref b434), .val (.int (1 : Int32)), .val (.int (p1 &&& (3 : Int32))), .unset, .unset] [(.int (2 : Int32)), (.int (p1 &&& (3 : Int32)))]) _
            by_cases hc772 : (p1 &&& (3 : Int32)) = (2 : Int32)
            · refine own_step (fun t k => XS.icmpNo X714.here hx rfl (hb hby at_96) rfl (teq hc772).2 k) ?_
              show own_Run p e below T714 (mkF m 99 #[.val (.int p0), .val (.int p1), .val (.int p2), .val (.ref b434), .val (.int (1 : Int32)), .val (.int (p1 &&& (3 : Int32))), .unset, .unset] []) _
              refine own_step (fun t k => XS.iloadN X714.here hx rfl (hb hby at_99) rfl  k) ?_
              show own_Run p e below T714 (mkF m 100 #[.val (.int p0), .val (.int p1), .val (.int p2), .val (.ref b434), .val (.int (1 : Int32)), .val (.int (p1 &&& (3 : Int32))), .unset, .unset] [(.int p2)]) _
              refine own_step (fun t k => X714.ldcInt hx hown (mvT hZ (hw _ (List.mem_of_getElem? (i := 34) rfl))) (g := (mkF m 100 #[.val (.int p0), .val (.int p1), .val (.int p2), .val (.ref b434), .val (.int (1 : Int32)), .val (.int (p1 &&& (3 : Int32))), .unset, .unset] [(.int p2)])) rfl (hb hby at_100) t k) ?_
              show own_Run p e below T714 (mkF m 102 #[.val (.int p0), .val (.int p1), .val (.int p2), .val (.ref b434), .val (.int (1 : Int32)), .val (.int (p1 &&& (3 : Int32))), .unset, .unset] [(.int (131071 : Int32)), (.int p2)]) _
              refine own_step (fun t k => XS.iand X714.here hx rfl (hb hby at_102) rfl k) ?_
              show own_Run p e below T714 (mkF m 103 #[.val (.int p0), .val (.int p1), .val (.int p2), .val (.ref b434), .val (.int (1 : Int32)), .val (.int (p1 &&& (3 : Int32))), .unset, .unset] [(.int (p2 &&& (131071 : Int32)))]) _
              refine own_step (fun t k => XS.istore X714.here hx rfl (hb hby at_103) rfl (l' := #[.val (.int p0), .val (.int p1), .val (.int p2), .val (.ref b434), .val (.int (1 : Int32)), .val (.int (p1 &&& (3 : Int32))), .val (.int (own_f0_103 p2)), .unset]) rfl k) ?_
              show own_Run p e below T714 (mkF m 105 #[.val (.int p0), .val (.int p1), .val (.int p2), .val (.ref b434), .val (.int (1 : Int32)), .val (.int (p1 &&& (3 : Int32))), .val (.int (own_f0_103 p2)), .unset] []) _
              refine own_step (fun t k => XS.goto X714.here hx rfl (pc0 := 105) (pc' := 115) rfl (hb hby at_105) (by decide) (by decide) k) ?_
              show own_Run p e below T714 (mkF m 115 #[.val (.int p0), .val (.int p1), .val (.int p2), .val (.ref b434), .val (.int (1 : Int32)), .val (.int (p1 &&& (3 : Int32))), .val (.int (own_f0_103 p2)), .unset] []) _
              have hj0 : (own_f0_j115_L6 p1 p2) = (own_f0_103 p2) := ((if_neg hc770).trans ((if_neg hc771).trans (if_pos hc772)))
              exact own_here (by rw [hj0])
            · refine own_step (fun t k => XS.icmpYes X714.here hx rfl (pc0 := 96) (pc' := 108) rfl (hb hby at_96) rfl (feq hc772).2 (by decide) (by decide) k) ?_
              show own_Run p e below T714 (mkF m 108 #[.val (.int p0), .val (.int p1), .val (.int p2), .val (.ref b434), .val (.int (1 : Int32)), .val (.int (p1 &&& (3 : Int32))), .unset, .unset] []) _
              refine own_step (fun t k => XS.iloadN X714.here hx rfl (hb hby at_108) rfl  k) ?_
              show own_Run p e below T714 (mkF m 109 #[.val (.int p0), .val (.int p1), .val (.int p2), .val (.ref b434), .val (.int (1 : Int32)), .val (.int (p1 &&& (3 : Int32))), .unset, .unset] [(.int p2)]) _
              refine own_step (fun t k => XS.sipush X714.here hx rfl (hb hby at_109) k) ?_
              show own_Run p e below T714 (mkF m 112 #[.val (.int p0), .val (.int p1), .val (.int p2), .val (.ref b434), .val (.int (1 : Int32)), .val (.int (p1 &&& (3 : Int32))), .unset, .unset] [(.int (255 : Int32)), (.int p2)]) _
              refine own_step (fun t k => XS.iand X714.here hx rfl (hb hby at_112) rfl k) ?_
              show own_Run p e below T714 (mkF m 113 #[.val (.int p0), .val (.int p1), .val (.int p2), .val (.ref b434), .val (.int (1 : Int32)), .val (.int (p1 &&& (3 : Int32))), .unset, .unset] [(.int (p2 &&& (255 : Int32)))]) _
              refine own_step (fun t k => XS.istore X714.here hx rfl (hb hby at_113) rfl (l' := #[.val (.int p0), .val (.int p1), .val (.int p2), .val (.ref b434), .val (.int (1 : Int32)), .val (.int (p1 &&& (3 : Int32))), .val (.int (p2 &&& (255 : Int32))), .unset]) rfl k) ?_
              show own_Run p e below T714 (mkF m 115 #[.val (.int p0), .val (.int p1), .val (.int p2), .val (.ref b434), .val (.int (1 : Int32)), .val (.int (p1 &&& (3 : Int32))), .val (.int (p2 &&& (255 : Int32))), .unset] []) _
              have hj0 : (own_f0_j115_L6 p1 p2) = (p2 &&& (255 : Int32)) := ((if_neg hc770).trans ((if_neg hc771).trans (if_neg hc772)))
              exact own_here (by rw [hj0])
      refine own_tr st769 ?_
      show own_Run p e below T714 (mkF m 115 #[.val (.int p0), .val (.int p1), .val (.int p2), .val (.ref b434), .val (.int (1 : Int32)), .val (.int (p1 &&& (3 : Int32))), .val (.int (own_f0_j115_L6 p1 p2)), .unset] []) _
      refine own_step (fun t k => XS.iload X714.here hx rfl (hb hby at_115) rfl  k) ?_
      show own_Run p e below T714 (mkF m 117 #[.val (.int p0), .val (.int p1), .val (.int p2), .val (.ref b434), .val (.int (1 : Int32)), .val (.int (p1 &&& (3 : Int32))), .val (.int (own_f0_j115_L6 p1 p2)), .unset] [(.int (own_f0_j115_L6 p1 p2))]) _
      obtain ⟨_, st773, T773, L773, rfl, X773, e773, N773⟩ : own_Run p e below T714 (mkF m 117 #[.val (.int p0), .val (.int p1), .val (.int p2), .val (.ref b434), .val (.int (1 : Int32)), .val (.int (p1 &&& (3 : Int32))), .val (.int (own_f0_j115_L6 p1 p2)), .unset] [(.int (own_f0_j115_L6 p1 p2))]) (fun t => ∃ (T' : State) (L' : List Loc) , t = T'.setTop (mkF m 151 #[.val (.int p0), .val (.int p1), .val (.int p2), .val (.ref b434), .val (.int (1 : Int32)), .val (.int (p1 &&& (3 : Int32))), .val (.int (own_f0_j115_L6 p1 p2)), .unset] [(.int (own_f0_j151_S0' p1 p2))]) ∧ Stand p l e room_1 s m #[(.int p0), (.int p1), (.int p2)] below meth c T' L' 1 8 ∧ T'.heap = h714 ∧ Fr n0 L') := by
        by_cases hc774 : (own_f0_j115_L6 p1 p2) < (0 : Int32)
        · refine own_step (fun t k => XS.ifYes X714.here hx rfl (pc0 := 117) (pc' := 150) rfl (hb hby at_117) rfl ((if0 _ _).trans (tlt hc774).1) (by decide) (by decide) k) ?_
          show own_Run p e below T714 (mkF m 150 #[.val (.int p0), .val (.int p1), .val (.int p2), .val (.ref b434), .val (.int (1 : Int32)), .val (.int (p1 &&& (3 : Int32))), .val (.int (own_f0_j115_L6 p1 p2)), .unset] []) _
          refine own_step (fun t k => XS.iconst X714.here hx rfl (hb hby at_150) k) ?_
          show own_Run p e below T714 (mkF m 151 #[.val (.int p0), .val (.int p1), .val (.int p2), .val (.ref b434), .val (.int (1 : Int32)), .val (.int (p1 &&& (3 : Int32))), .val (.int (own_f0_j115_L6 p1 p2)), .unset] [(.int (0 : Int32))]) _
          have hj0 : (own_f0_j151_S0' p1 p2) = (0 : Int32) := (if_pos hc774)
          exact own_here ⟨T714, _, (by rw [hj0]), X714, e714, N714⟩
        · refine own_step (fun t k => XS.ifNo X714.here hx rfl (hb hby at_117) rfl ((if0 _ _).trans (flt hc774).1) k) ?_
          show own_Run p e below T714 (mkF m 120 #[.val (.int p0), .val (.int p1), .val (.int p2), .val (.ref b434), .val (.int (1 : Int32)), .val (.int (p1 &&& (3 : Int32))), .val (.int (own_f0_j115_L6 p1 p2)), .unset] []) _
          refine own_step (fun t k => XS.iload X714.here hx rfl (hb hby at_120) rfl  k) ?_
          show own_Run p e below T714 (mkF m 122 #[.val (.int p0), .val (.int p1), .val (.int p2), .val (.ref b434), .val (.int (1 : Int32)), .val (.int (p1 &&& (3 : Int32))), .val (.int (own_f0_j115_L6 p1 p2)), .unset] [(.int (own_f0_j115_L6 p1 p2))]) _
          refine own_step (fun t k => XS.sipush X714.here hx rfl (hb hby at_122) k) ?_
          show own_Run p e below T714 (mkF m 125 #[.val (.int p0), .val (.int p1), .val (.int p2), .val (.ref b434), .val (.int (1 : Int32)), .val (.int (p1 &&& (3 : Int32))), .val (.int (own_f0_j115_L6 p1 p2)), .unset] [(.int (128 : Int32)), (.int (own_f0_j115_L6 p1 p2))]) _
          by_cases hc775 : (own_f0_j115_L6 p1 p2) < (128 : Int32)
          · refine own_step (fun t k => XS.icmpNo X714.here hx rfl (hb hby at_125) rfl (tlt hc775).2.1 k) ?_
            show own_Run p e below T714 (mkF m 128 #[.val (.int p0), .val (.int p1), .val (.int p2), .val (.ref b434), .val (.int (1 : Int32)), .val (.int (p1 &&& (3 : Int32))), .val (.int (own_f0_j115_L6 p1 p2)), .unset] []) _
            refine own_step (fun t k => XS.iload X714.here hx rfl (hb hby at_128) rfl  k) ?_
            show own_Run p e below T714 (mkF m 130 #[.val (.int p0), .val (.int p1), .val (.int p2), .val (.ref b434), .val (.int (1 : Int32)), .val (.int (p1 &&& (3 : Int32))), .val (.int (own_f0_j115_L6 p1 p2)), .unset] [(.int (own_f0_j115_L6 p1 p2))]) _
            obtain ⟨_, _, ⟨T776, L776, kq776, nq776⟩, -, X776, ⟨Lc776, hQ776, lq776, yq776, zq776⟩, st776⟩ := Jvm.LawKit.callS X714 hx (y := (⟨"com/example/fuxi/fuxi/model/PartKeepsPinLaw", "alnum", "(I)Z"⟩ : MethodName)) hown (mvT hZ (hw _ (List.mem_of_getElem? (i := 20) rfl))) (mvT hZ (hw _ (List.mem_of_getElem? (i := 21) rfl))) (mvT hZ (hw _ (List.mem_of_getElem? (i := 22) rfl))) (mvT hZ (hw _ (List.mem_of_getElem? (i := 23) rfl))) (by decide) (backOf (W := 0) (rm1 l Z av0 hw [] (own_f0_j115_L6 p1 p2) h714 n0 Zn714 ) hZ (hw _ (List.mem_of_getElem? (i := 23) rfl)) (hw _ (List.mem_of_getElem? (i := 22) rfl)) (by decide) (by decide)) (g := (mkF m 130 #[.val (.int p0), .val (.int p1), .val (.int p2), .val (.ref b434), .val (.int (1 : Int32)), .val (.int (p1 &&& (3 : Int32))), .val (.int (own_f0_j115_L6 p1 p2)), .unset] [(.int (own_f0_j115_L6 p1 p2))])) rfl (by rw [hml]; rfl) (argsL := [(.int (own_f0_j115_L6 p1 p2))]) (rest := []) (lenOf own_pd170 rfl) rfl (by show 2 * 0 + _ ≤ _; exact Nat.le_of_eq rfl) (hb hby at_130) (fun _ _ => ⟨rfl, e714, (by decide : 1 + 0 ≤ _), (by decide : 8 + 0 ≤ _)⟩)
            dsimp only [Pt.U, Pt.locs, Pt.cells, Pt.slots] at X776 lq776 yq776 zq776 st776 hQ776
            subst lq776 yq776 zq776
            obtain ⟨rfl, N776q, e776⟩ := hQ776
            have N776 := Fr.app N714 N776q
            refine own_step st776 ?_
            show own_Run p e below T776 (mkF m 133 #[.val (.int p0), .val (.int p1), .val (.int p2), .val (.ref b434), .val (.int (1 : Int32)), .val (.int (p1 &&& (3 : Int32))), .val (.int (own_f0_j115_L6 p1 p2)), .unset] [(.int (own_r1 (own_f0_j115_L6 p1 p2)))]) _
            by_cases hc777 : (own_r1 (own_f0_j115_L6 p1 p2)) = (0 : Int32)
            · refine own_step (fun t k => XS.ifNo X776.here hx rfl (hb hby at_133) rfl ((if0 _ _).trans (teq hc777).2) k) ?_
              show own_Run p e below T776 (mkF m 136 #[.val (.int p0), .val (.int p1), .val (.int p2), .val (.ref b434), .val (.int (1 : Int32)), .val (.int (p1 &&& (3 : Int32))), .val (.int (own_f0_j115_L6 p1 p2)), .unset] []) _
              refine own_step (fun t k => XS.iload X776.here hx rfl (hb hby at_136) rfl  k) ?_
              show own_Run p e below T776 (mkF m 138 #[.val (.int p0), .val (.int p1), .val (.int p2), .val (.ref b434), .val (.int (1 : Int32)), .val (.int (p1 &&& (3 : Int32))), .val (.int (own_f0_j115_L6 p1 p2)), .unset] [(.int (1 : Int32))]) _
              refine own_step (fun t k => XS.iload X776.here hx rfl (hb hby at_138) rfl  k) ?_
              show own_Run p e below T776 (mkF m 140 #[.val (.int p0), .val (.int p1), .val (.int p2), .val (.ref b434), .val (.int (1 : Int32)), .val (.int (p1 &&& (3 : Int32))), .val (.int (own_f0_j115_L6 p1 p2)), .unset] [(.int (own_f0_j115_L6 p1 p2)), (.int (1 : Int32))]) _
              obtain ⟨_, _, ⟨T778, L778, kq778, nq778⟩, -, X778, ⟨Lc778, hQ778, lq778, yq778, zq778⟩, st778⟩ := Jvm.LawKit.callS X776 hx (y := (⟨"com/example/fuxi/fuxi/model/PartKeepsPinLaw", "punct", "(II)Z"⟩ : MethodName)) hown (mvT hZ (hw _ (List.mem_of_getElem? (i := 24) rfl))) (mvT hZ (hw _ (List.mem_of_getElem? (i := 25) rfl))) (mvT hZ (hw _ (List.mem_of_getElem? (i := 22) rfl))) (mvT hZ (hw _ (List.mem_of_getElem? (i := 26) rfl))) (by decide) (backOf (W := 0) (rm2 l Z av0 hw [] (1 : Int32) (own_f0_j115_L6 p1 p2) h714 n0 Zn714 ) hZ (hw _ (List.mem_of_getElem? (i := 26) rfl)) (hw _ (List.mem_of_getElem? (i := 22) rfl)) (by decide) (by decide)) (g := (mkF m 140 #[.val (.int p0), .val (.int p1), .val (.int p2), .val (.ref b434), .val (.int (1 : Int32)), .val (.int (p1 &&& (3 : Int32))), .val (.int (own_f0_j115_L6 p1 p2)), .unset] [(.int (own_f0_j115_L6 p1 p2)), (.int (1 : Int32))])) rfl (by rw [hml]; rfl) (argsL := [(.int (1 : Int32)), (.int (own_f0_j115_L6 p1 p2))]) (rest := []) (lenOf own_pd171 rfl) rfl (by show 2 * 0 + _ ≤ _; exact Nat.le_of_eq rfl) (hb hby at_140) (fun _ _ => ⟨rfl, e776, (by decide : 1 + 0 ≤ _), (by decide : 8 + 0 ≤ _)⟩)
              dsimp only [Pt.U, Pt.locs, Pt.cells, Pt.slots] at X778 lq778 yq778 zq778 st778 hQ778
              subst lq778 yq778 zq778
              obtain ⟨rfl, N778q, e778⟩ := hQ778
              have N778 := Fr.app N776 N778q
              refine own_step st778 ?_
              show own_Run p e below T778 (mkF m 143 #[.val (.int p0), .val (.int p1), .val (.int p2), .val (.ref b434), .val (.int (1 : Int32)), .val (.int (p1 &&& (3 : Int32))), .val (.int (own_f0_j115_L6 p1 p2)), .unset] [(.int (own_r2 (1 : Int32) (own_f0_j115_L6 p1 p2)))]) _
              by_cases hc779 : (own_r2 (1 : Int32) (own_f0_j115_L6 p1 p2)) = (0 : Int32)
              · refine own_step (fun t k => XS.ifYes X778.here hx rfl (pc0 := 143) (pc' := 150) rfl (hb hby at_143) rfl ((if0 _ _).trans (teq hc779).1) (by decide) (by decide) k) ?_
                show own_Run p e below T778 (mkF m 150 #[.val (.int p0), .val (.int p1), .val (.int p2), .val (.ref b434), .val (.int (1 : Int32)), .val (.int (p1 &&& (3 : Int32))), .val (.int (own_f0_j115_L6 p1 p2)), .unset] []) _
                refine own_step (fun t k => XS.iconst X778.here hx rfl (hb hby at_150) k) ?_
                show own_Run p e below T778 (mkF m 151 #[.val (.int p0), .val (.int p1), .val (.int p2), .val (.ref b434), .val (.int (1 : Int32)), .val (.int (p1 &&& (3 : Int32))), .val (.int (own_f0_j115_L6 p1 p2)), .unset] [(.int (0 : Int32))]) _
                have hj0 : (own_f0_j151_S0' p1 p2) = (0 : Int32) := ((if_neg hc774).trans ((if_pos hc775).trans ((if_pos hc777).trans (if_pos hc779))))
                exact own_here ⟨T778, _, (by rw [hj0]), X778, e778, N778⟩
              · refine own_step (fun t k => XS.ifNo X778.here hx rfl (hb hby at_143) rfl ((if0 _ _).trans (feq hc779).1) k) ?_
                show own_Run p e below T778 (mkF m 146 #[.val (.int p0), .val (.int p1), .val (.int p2), .val (.ref b434), .val (.int (1 : Int32)), .val (.int (p1 &&& (3 : Int32))), .val (.int (own_f0_j115_L6 p1 p2)), .unset] []) _
                refine own_step (fun t k => XS.iconst X778.here hx rfl (hb hby at_146) k) ?_
                show own_Run p e below T778 (mkF m 147 #[.val (.int p0), .val (.int p1), .val (.int p2), .val (.ref b434), .val (.int (1 : Int32)), .val (.int (p1 &&& (3 : Int32))), .val (.int (own_f0_j115_L6 p1 p2)), .unset] [(.int (1 : Int32))]) _
                refine own_step (fun t k => XS.goto X778.here hx rfl (pc0 := 147) (pc' := 151) rfl (hb hby at_147) (by decide) (by decide) k) ?_
                show own_Run p e below T778 (mkF m 151 #[.val (.int p0), .val (.int p1), .val (.int p2), .val (.ref b434), .val (.int (1 : Int32)), .val (.int (p1 &&& (3 : Int32))), .val (.int (own_f0_j115_L6 p1 p2)), .unset] [(.int (1 : Int32))]) _
                have hj0 : (own_f0_j151_S0' p1 p2) = (1 : Int32) := ((if_neg hc774).trans ((if_pos hc775).trans ((if_pos hc777).trans (if_neg hc779))))
                exact own_here ⟨T778, _, (by rw [hj0]), X778, e778, N778⟩
            · refine own_step (fun t k => XS.ifYes X776.here hx rfl (pc0 := 133) (pc' := 146) rfl (hb hby at_133) rfl ((if0 _ _).trans (feq hc777).2) (by decide) (by decide) k) ?_
              show own_Run p e below T776 (mkF m 146 #[.val (.int p0), .val (.int p1), .val (.int p2), .val (.ref b434), .val (.int (1 : Int32)), .val (.int (p1 &&& (3 : Int32))), .val (.int (own_f0_j115_L6 p1 p2)), .unset] []) _
              refine own_step (fun t k => XS.iconst X776.here hx rfl (hb hby at_146) k) ?_
              show own_Run p e below T776 (mkF m 147 #[.val (.int p0), .val (.int p1), .val (.int p2), .val (.ref b434), .val (.int (1 : Int32)), .val (.int (p1 &&& (3 : Int32))), .val (.int (own_f0_j115_L6 p1 p2)), .unset] [(.int (1 : Int32))]) _
              refine own_step (fun t k => XS.goto X776.here hx rfl (pc0 := 147) (pc' := 151) rfl (hb hby at_147) (by decide) (by decide) k) ?_
              show own_Run p e below T776 (mkF m 151 #[.val (.int p0), .val (.int p1), .val (.int p2), .val (.ref b434), .val (.int (1 : Int32)), .val (.int (p1 &&& (3 : Int32))), .val (.int (own_f0_j115_L6 p1 p2)), .unset] [(.int (1 : Int32))]) _
              have hj0 : (own_f0_j151_S0' p1 p2) = (1 : Int32) := ((if_neg hc774).trans ((if_pos hc775).trans (if_neg hc777)))
              exact own_here ⟨T776, _, (by rw [hj0]), X776, e776, N776⟩
          · refine own_step (fun t k => XS.icmpYes X714.here hx rfl (pc0 := 125) (pc' := 150) rfl (hb hby at_125) rfl (flt hc775).2.1 (by decide) (by decide) k) ?_
            show own_Run p e below T714 (mkF m 150 #[.val (.int p0), .val (.int p1), .val (.int p2), .val (.ref b434), .val (.int (1 : Int32)), .val (.int (p1 &&& (3 : Int32))), .val (.int (own_f0_j115_L6 p1 p2)), .unset] []) _
            refine own_step (fun t k => XS.iconst X714.here hx rfl (hb hby at_150) k) ?_
            show own_Run p e below T714 (mkF m 151 #[.val (.int p0), .val (.int p1), .val (.int p2), .val (.ref b434), .val (.int (1 : Int32)), .val (.int (p1 &&& (3 : Int32))), .val (.int (own_f0_j115_L6 p1 p2)), .unset] [(.int (0 : Int32))]) _
            have hj0 : (own_f0_j151_S0' p1 p2) = (0 : Int32) := ((if_neg hc774).trans (if_neg hc775))
            exact own_here ⟨T714, _, (by rw [hj0]), X714, e714, N714⟩
      refine own_tr st773 ?_
      show own_Run p e below T773 (mkF m 151 #[.val (.int p0), .val (.int p1), .val (.int p2), .val (.ref b434), .val (.int (1 : Int32)), .val (.int (p1 &&& (3 : Int32))), .val (.int (own_f0_j115_L6 p1 p2)), .unset] [(.int (own_f0_j151_S0' p1 p2))]) _
      refine own_step (fun t k => XS.istore X773.here hx rfl (hb hby at_151) rfl (l' := #[.val (.int p0), .val (.int p1), .val (.int p2), .val (.ref b434), .val (.int (1 : Int32)), .val (.int (p1 &&& (3 : Int32))), .val (.int (own_f0_j115_L6 p1 p2)), .val (.int (own_f0_j151_S0' p1 p2))]) rfl k) ?_
      show own_Run p e below T773 (mkF m 153 #[.val (.int p0), .val (.int p1), .val (.int p2), .val (.ref b434), .val (.int (1 : Int32)), .val (.int (p1 &&& (3 : Int32))), .val (.int (own_f0_j115_L6 p1 p2)), .val (.int (own_f0_j151_S0' p1 p2))] []) _
      refine own_step (fun t k => XS.aloadN X773.here hx rfl (hb hby at_153) rfl rfl k) ?_
      show own_Run p e below T773 (mkF m 154 #[.val (.int p0), .val (.int p1), .val (.int p2), .val (.ref b434), .val (.int (1 : Int32)), .val (.int (p1 &&& (3 : Int32))), .val (.int (own_f0_j115_L6 p1 p2)), .val (.int (own_f0_j151_S0' p1 p2))] [(.ref b434)]) _
      refine own_step (fun t k => XS.iload X773.here hx rfl (hb hby at_154) rfl  k) ?_
      show own_Run p e below T773 (mkF m 156 #[.val (.int p0), .val (.int p1), .val (.int p2), .val (.ref b434), .val (.int (1 : Int32)), .val (.int (p1 &&& (3 : Int32))), .val (.int (own_f0_j115_L6 p1 p2)), .val (.int (own_f0_j151_S0' p1 p2))] [(.int (1 : Int32)), (.ref b434)]) _
      refine own_step (own_ldR X773 hx hZ e773 V714x (j := (1 : Int32)) (v := (.ref w1)) ⟨by decide, by decide⟩ rfl (g := (mkF m 156 #[.val (.int p0), .val (.int p1), .val (.int p2), .val (.ref b434), .val (.int (1 : Int32)), .val (.int (p1 &&& (3 : Int32))), .val (.int (own_f0_j115_L6 p1 p2)), .val (.int (own_f0_j151_S0' p1 p2))] [(.int (1 : Int32)), (.ref b434)])) rfl rfl (hb hby at_156)) ?_
      show own_Run p e below T773 (mkF m 157 #[.val (.int p0), .val (.int p1), .val (.int p2), .val (.ref b434), .val (.int (1 : Int32)), .val (.int (p1 &&& (3 : Int32))), .val (.int (own_f0_j115_L6 p1 p2)), .val (.int (own_f0_j151_S0' p1 p2))] [(.ref w1)]) _
      refine own_step (fun t k => XS.iload X773.here hx rfl (hb hby at_157) rfl  k) ?_
      show own_Run p e below T773 (mkF m 159 #[.val (.int p0), .val (.int p1), .val (.int p2), .val (.ref b434), .val (.int (1 : Int32)), .val (.int (p1 &&& (3 : Int32))), .val (.int (own_f0_j115_L6 p1 p2)), .val (.int (own_f0_j151_S0' p1 p2))] [(.int (own_f0_j115_L6 p1 p2)), (.ref w1)]) _
      obtain ⟨cq780, kq780, q780a, q780b, q780c⟩ := isOf hZ e773 f720
      obtain ⟨_, _, ⟨T780, L780, kq780, nq780⟩, -, X780, ⟨Lc780, hQ780, lq780, yq780, zq780⟩, st780⟩ := X773.virtualBack hx (y := (⟨"com/example/fuxi/fuxi/model/Part", "keeps", "(I)Z"⟩ : MethodName)) (z := (⟨"com/example/fuxi/fuxi/model/Part", "keeps", "(I)Z"⟩ : MethodName)) hown (mvT hZ (hw _ (List.mem_of_getElem? (i := 27) rfl))) (mvT hZ (hw _ (List.mem_of_getElem? (i := 28) rfl))) (notFace_of_selects (args := #[]) (mvT hZ (hw _ (List.mem_of_getElem? (i := 30) rfl)))) (mvT hZ (hw _ (List.mem_of_getElem? (i := 30) rfl))) (mvT hZ (hw _ (List.mem_of_getElem? (i := 29) rfl))) (by decide) (backOf (W := 0) (rm3 l Z av0 hw [] w1 (own_f0_j115_L6 p1 p2) (3458623578763689984 : Int64) (5188146764422578175 : Int64) h714 n0 Zn714 f721 f722) hZ (hw _ (List.mem_of_getElem? (i := 31) rfl)) (hw _ (List.mem_of_getElem? (i := 3) rfl)) (by decide) (by decide)) q780a q780c (g := (mkF m 159 #[.val (.int p0), .val (.int p1), .val (.int p2), .val (.ref b434), .val (.int (1 : Int32)), .val (.int (p1 &&& (3 : Int32))), .val (.int (own_f0_j115_L6 p1 p2)), .val (.int (own_f0_j151_S0' p1 p2))] [(.int (own_f0_j115_L6 p1 p2)), (.ref w1)])) rfl (by rw [hml]; rfl) (Steps.refl _) (argsL := [(.int (own_f0_j115_L6 p1 p2))]) (rest := []) (lenOf own_pd170 rfl) rfl (by show 2 * 0 + _ ≤ _; exact Nat.le_of_eq rfl) (hb hby at_159) (fun _ _ => ⟨rfl, e773, (by decide : 1 + 0 ≤ _), (by decide : 8 + 0 ≤ _)⟩)
      dsimp only [Pt.U, Pt.locs, Pt.cells, Pt.slots] at X780 lq780 yq780 zq780 st780 hQ780
      subst lq780 yq780 zq780
      obtain ⟨rfl, N780q, e780⟩ := hQ780
      have N780 := Fr.app N773 N780q
      refine own_tr st780 ?_
      show own_Run p e below T780 (mkF m 162 #[.val (.int p0), .val (.int p1), .val (.int p2), .val (.ref b434), .val (.int (1 : Int32)), .val (.int (p1 &&& (3 : Int32))), .val (.int (own_f0_j115_L6 p1 p2)), .val (.int (own_f0_j151_S0' p1 p2))] [(.int (own_r3 (own_f0_j115_L6 p1 p2) (3458623578763689984 : Int64) (5188146764422578175 : Int64)))]) _
      refine own_step (fun t k => XS.iload X780.here hx rfl (hb hby at_162) rfl  k) ?_
      show own_Run p e below T780 (mkF m 164 #[.val (.int p0), .val (.int p1), .val (.int p2), .val (.ref b434), .val (.int (1 : Int32)), .val (.int (p1 &&& (3 : Int32))), .val (.int (own_f0_j115_L6 p1 p2)), .val (.int (own_f0_j151_S0' p1 p2))] [(.int (own_f0_j151_S0' p1 p2)), (.int (own_r3 (own_f0_j115_L6 p1 p2) (3458623578763689984 : Int64) (5188146764422578175 : Int64)))]) _
      obtain ⟨_, st781, rfl⟩ : own_Run p e below T780 (mkF m 164 #[.val (.int p0), .val (.int p1), .val (.int p2), .val (.ref b434), .val (.int (1 : Int32)), .val (.int (p1 &&& (3 : Int32))), .val (.int (own_f0_j115_L6 p1 p2)), .val (.int (own_f0_j151_S0' p1 p2))] [(.int (own_f0_j151_S0' p1 p2)), (.int (own_r3 (own_f0_j115_L6 p1 p2) (3458623578763689984 : Int64) (5188146764422578175 : Int64)))]) (fun t => t = T780.setTop (mkF m 172 #[.val (.int p0), .val (.int p1), .val (.int p2), .val (.ref b434), .val (.int (1 : Int32)), .val (.int (p1 &&& (3 : Int32))), .val (.int (own_f0_j115_L6 p1 p2)), .val (.int (own_f0_j151_S0' p1 p2))] [(.int (own_f0_j172_S0' p1 p2))])) := by
        by_cases hc782 : (own_r3 (own_f0_j115_L6 p1 p2) (3458623578763689984 : Int64) (5188146764422578175 : Int64)) = (own_f0_j151_S0' p1 p2)
        · refine own_step (fun t k => XS.icmpNo X780.here hx rfl (hb hby at_164) rfl (teq hc782).2 k) ?_
          show own_Run p e below T780 (mkF m 167 #[.val (.int p0), .val (.int p1), .val (.int p2), .val (.ref b434), .val (.int (1 : Int32)), .val (.int (p1 &&& (3 : Int32))), .val (.int (own_f0_j115_L6 p1 p2)), .val (.int (own_f0_j151_S0' p1 p2))] []) _
          refine own_step (fun t k => XS.iconst X780.here hx rfl (hb hby at_167) k) ?_
          show own_Run p e below T780 (mkF m 168 #[.val (.int p0), .val (.int p1), .val (.int p2), .val (.ref b434), .val (.int (1 : Int32)), .val (.int (p1 &&& (3 : Int32))), .val (.int (own_f0_j115_L6 p1 p2)), .val (.int (own_f0_j151_S0' p1 p2))] [(.int (1 : Int32))]) _
          refine own_step (fun t k => XS.goto X780.here hx rfl (pc0 := 168) (pc' := 172) rfl (hb hby at_168) (by decide) (by decide) k) ?_
          show own_Run p e below T780 (mkF m 172 #[.val (.int p0), .val (.int p1), .val (.int p2), .val (.ref b434), .val (.int (1 : Int32)), .val (.int (p1 &&& (3 : Int32))), .val (.int (own_f0_j115_L6 p1 p2)), .val (.int (own_f0_j151_S0' p1 p2))] [(.int (1 : Int32))]) _
          have hj0 : (own_f0_j172_S0' p1 p2) = (1 : Int32) := (if_pos hc782)
          exact own_here (by rw [hj0])
        · refine own_step (fun t k => XS.icmpYes X780.here hx rfl (pc0 := 164) (pc' := 171) rfl (hb hby at_164) rfl (feq hc782).2 (by decide) (by decide) k) ?_
          show own_Run p e below T780 (mkF m 171 #[.val (.int p0), .val (.int p1), .val (.int p2), .val (.ref b434), .val (.int (1 : Int32)), .val (.int (p1 &&& (3 : Int32))), .val (.int (own_f0_j115_L6 p1 p2)), .val (.int (own_f0_j151_S0' p1 p2))] []) _
          refine own_step (fun t k => XS.iconst X780.here hx rfl (hb hby at_171) k) ?_
          show own_Run p e below T780 (mkF m 172 #[.val (.int p0), .val (.int p1), .val (.int p2), .val (.ref b434), .val (.int (1 : Int32)), .val (.int (p1 &&& (3 : Int32))), .val (.int (own_f0_j115_L6 p1 p2)), .val (.int (own_f0_j151_S0' p1 p2))] [(.int (0 : Int32))]) _
          have hj0 : (own_f0_j172_S0' p1 p2) = (0 : Int32) := (if_neg hc782)
          exact own_here (by rw [hj0])
      refine own_tr st781 ?_
      show own_Run p e below T780 (mkF m 172 #[.val (.int p0), .val (.int p1), .val (.int p2), .val (.ref b434), .val (.int (1 : Int32)), .val (.int (p1 &&& (3 : Int32))), .val (.int (own_f0_j115_L6 p1 p2)), .val (.int (own_f0_j151_S0' p1 p2))] [(.int (own_f0_j172_S0' p1 p2))]) _
      exact own_retZ X780 hx hlk hret (hb hby at_172) (by decide) (by decide) N780 trivial
    · refine own_vi (if_neg hs748) ?_
      by_cases hs749 : (p0 &&& (7 : Int32)) = (2 : Int32)
      · refine own_vi (if_pos hs749) ?_
        rw [hs749]
        show own_Run p e below T714 (mkF m 60 #[.val (.int p0), .val (.int p1), .val (.int p2), .val (.ref b434), .unset, .unset, .unset, .unset] [(.int (2 : Int32))]) _
        refine own_step (fun t k => XS.istore X714.here hx rfl (hb hby at_60) rfl (l' := #[.val (.int p0), .val (.int p1), .val (.int p2), .val (.ref b434), .val (.int (2 : Int32)), .unset, .unset, .unset]) rfl k) ?_
        show own_Run p e below T714 (mkF m 62 #[.val (.int p0), .val (.int p1), .val (.int p2), .val (.ref b434), .val (.int (2 : Int32)), .unset, .unset, .unset] []) _
        refine own_step (fun t k => XS.iloadN X714.here hx rfl (hb hby at_62) rfl  k) ?_
        show own_Run p e below T714 (mkF m 63 #[.val (.int p0), .val (.int p1), .val (.int p2), .val (.ref b434), .val (.int (2 : Int32)), .unset, .unset, .unset] [(.int p1)]) _
        refine own_step (fun t k => XS.iconst X714.here hx rfl (hb hby at_63) k) ?_
        show own_Run p e below T714 (mkF m 64 #[.val (.int p0), .val (.int p1), .val (.int p2), .val (.ref b434), .val (.int (2 : Int32)), .unset, .unset, .unset] [(.int (3 : Int32)), (.int p1)]) _
        refine own_step (fun t k => XS.iand X714.here hx rfl (hb hby at_64) rfl k) ?_
        show own_Run p e below T714 (mkF m 65 #[.val (.int p0), .val (.int p1), .val (.int p2), .val (.ref b434), .val (.int (2 : Int32)), .unset, .unset, .unset] [(.int (p1 &&& (3 : Int32)))]) _
        refine own_step (fun t k => XS.istore X714.here hx rfl (hb hby at_65) rfl (l' := #[.val (.int p0), .val (.int p1), .val (.int p2), .val (.ref b434), .val (.int (2 : Int32)), .val (.int (p1 &&& (3 : Int32))), .unset, .unset]) rfl k) ?_
        show own_Run p e below T714 (mkF m 67 #[.val (.int p0), .val (.int p1), .val (.int p2), .val (.ref b434), .val (.int (2 : Int32)), .val (.int (p1 &&& (3 : Int32))), .unset, .unset] []) _
        refine own_step (fun t k => XS.iload X714.here hx rfl (hb hby at_67) rfl  k) ?_
        show own_Run p e below T714 (mkF m 69 #[.val (.int p0), .val (.int p1), .val (.int p2), .val (.ref b434), .val (.int (2 : Int32)), .val (.int (p1 &&& (3 : Int32))), .unset, .unset] [(.int (p1 &&& (3 : Int32)))]) _
        obtain ⟨_, st783, rfl⟩ : own_Run p e below T714 (mkF m 69 #[.val (.int p0), .val (.int p1), .val (.int p2), .val (.ref b434), .val (.int (2 : Int32)), .val (.int (p1 &&& (3 : Int32))), .unset, .unset] [(.int (p1 &&& (3 : Int32)))]) (fun t => t = T714.setTop (mkF m 115 #[.val (.int p0), .val (.int p1), .val (.int p2), .val (.ref b434), .val (.int (2 : Int32)), .val (.int (p1 &&& (3 : Int32))), .val (.int (own_f0_j115_L6 p1 p2)), .unset] [])) := by
          by_cases hc784 : (p1 &&& (3 : Int32)) = (0 : Int32)
          · refine own_step (fun t k => XS.ifNo X714.here hx rfl (hb hby at_69) rfl ((if0 _ _).trans (teq hc784).2) k) ?_
            show own_Run p e below T714 (mkF m 72 #[.val (.int p0), .val (.int p1), .val (.int p2), .val (.ref b434), .val (.int (2 : Int32)), .val (.int (p1 &&& (3 : Int32))), .unset, .unset] []) _
            refine own_step (fun t k => XS.iloadN X714.here hx rfl (hb hby at_72) rfl  k) ?_
            show own_Run p e below T714 (mkF m 73 #[.val (.int p0), .val (.int p1), .val (.int p2), .val (.ref b434), .val (.int (2 : Int32)), .val (.int (p1 &&& (3 : Int32))), .unset, .unset] [(.int p2)]) _
            refine own_step (fun t k => XS.istore X714.here hx rfl (hb hby at_73) rfl (l' := #[.val (.int p0), .val (.int p1), .val (.int p2), .val (.ref b434), .val (.int (2 : Int32)), .val (.int (p1 &&& (3 : Int32))), .val (.int p2), .unset]) rfl k) ?_
            show own_Run p e below T714 (mkF m 75 #[.val (.int p0), .val (.int p1), .val (.int p2), .val (.ref b434), .val (.int (2 : Int32)), .val (.int (p1 &&& (3 : Int32))), .val (.int p2), .unset] []) _
            refine own_step (fun t k => XS.goto X714.here hx rfl (pc0 := 75) (pc' := 115) rfl (hb hby at_75) (by decide) (by decide) k) ?_
            show own_Run p e below T714 (mkF m 115 #[.val (.int p0), .val (.int p1), .val (.int p2), .val (.ref b434), .val (.int (2 : Int32)), .val (.int (p1 &&& (3 : Int32))), .val (.int p2), .unset] []) _
            have hj0 : (own_f0_j115_L6 p1 p2) = p2 := (if_pos hc784)
            exact own_here (by rw [hj0])
          · refine own_step (fun t k => XS.ifYes X714.here hx rfl (pc0 := 69) (pc' := 78) rfl (hb hby at_69) rfl ((if0 _ _).trans (feq hc784).2) (by decide) (by decide) k) ?_
            show own_Run p e below T714 (mkF m 78 #[.val (.int p0), .val (.int p1), .val (.int p2), .val (.ref b434), .val (.int (2 : Int32)), .val (.int (p1 &&& (3 : Int32))), .unset, .unset] []) _
            refine own_step (fun t k => XS.iload X714.here hx rfl (hb hby at_78) rfl  k) ?_
            show own_Run p e below T714 (mkF m 80 #[.val (.int p0), .val (.int p1), .val (.int p2), .val (.ref b434), .val (.int (2 : Int32)), .val (.int (p1 &&& (3 : Int32))), .unset, .unset] [(.int (p1 &&& (3 : Int32)))]) _
            refine own_step (fun t k => XS.iconst X714.here hx rfl (hb hby at_80) k) ?_
            show own_Run p e below T714 (mkF m 81 #[.val (.int p0), .val (.int p1), .val (.int p2), .val (.ref b434), .val (.int (2 : Int32)), .val (.int (p1 &&& (3 : Int32))), .unset, .unset] [(.int (1 : Int32)), (.int (p1 &&& (3 : Int32)))]) _
            by_cases hc785 : (p1 &&& (3 : Int32)) = (1 : Int32)
            · refine own_step (fun t k => XS.icmpNo X714.here hx rfl (hb hby at_81) rfl (teq hc785).2 k) ?_
              show own_Run p e below T714 (mkF m 84 #[.val (.int p0), .val (.int p1), .val (.int p2), .val (.ref b434), .val (.int (2 : Int32)), .val (.int (p1 &&& (3 : Int32))), .unset, .unset] []) _
              refine own_step (fun t k => XS.iloadN X714.here hx rfl (hb hby at_84) rfl  k) ?_
              show own_Run p e below T714 (mkF m 85 #[.val (.int p0), .val (.int p1), .val (.int p2), .val (.ref b434), .val (.int (2 : Int32)), .val (.int (p1 &&& (3 : Int32))), .unset, .unset] [(.int p2)]) _
              refine own_step (fun t k => XS.bipush X714.here hx rfl (hb hby at_85) k) ?_
              show own_Run p e below T714 (mkF m 87 #[.val (.int p0), .val (.int p1), .val (.int p2), .val (.ref b434), .val (.int (2 : Int32)), .val (.int (p1 &&& (3 : Int32))), .unset, .unset] [(.int (127 : Int32)), (.int p2)]) _
              refine own_step (fun t k => XS.iand X714.here hx rfl (hb hby at_87) rfl k) ?_
              show own_Run p e below T714 (mkF m 88 #[.val (.int p0), .val (.int p1), .val (.int p2), .val (.ref b434), .val (.int (2 : Int32)), .val (.int (p1 &&& (3 : Int32))), .unset, .unset] [(.int (p2 &&& (127 : Int32)))]) _
              refine own_step (fun t k => XS.istore X714.here hx rfl (hb hby at_88) rfl (l' := #[.val (.int p0), .val (.int p1), .val (.int p2), .val (.ref b434), .val (.int (2 : Int32)), .val (.int (p1 &&& (3 : Int32))), .val (.int (p2 &&& (127 : Int32))), .unset]) rfl k) ?_
              show own_Run p e below T714 (mkF m 90 #[.val (.int p0), .val (.int p1), .val (.int p2), .val (.ref b434), .val (.int (2 : Int32)), .val (.int (p1 &&& (3 : Int32))), .val (.int (p2 &&& (127 : Int32))), .unset] []) _
              refine own_step (fun t k => XS.goto X714.here hx rfl (pc0 := 90) (pc' := 115) rfl (hb hby at_90) (by decide) (by decide) k) ?_
              show own_Run p e below T714 (mkF m 115 #[.val (.int p0), .val (.int p1), .val (.int p2), .val (.ref b434), .val (.int (2 : Int32)), .val (.int (p1 &&& (3 : Int32))), .val (.int (p2 &&& (127 : Int32))), .unset] []) _
              have hj0 : (own_f0_j115_L6 p1 p2) = (p2 &&& (127 : Int32)) := ((if_neg hc784).trans (if_pos hc785))
              exact own_here (by rw [hj0])
            · refine own_step (fun t k => XS.icmpYes X714.here hx rfl (pc0 := 81) (pc' := 93) rfl (hb hby at_81) rfl (feq hc785).2 (by decide) (by decide) k) ?_
              show own_Run p e below T714 (mkF m 93 #[.val (.int p0), .val (.int p1), .val (.int p2), .val (.ref b434), .val (.int (2 : Int32)), .val (.int (p1 &&& (3 : Int32))), .unset, .unset] []) _
              refine own_step (fun t k => XS.iload X714.here hx rfl (hb hby at_93) rfl  k) ?_
              show own_Run p e below T714 (mkF m 95 #[.val (.int p0), .val (.int p1), .val (.int p2), .val (.ref b434), .val (.int (2 : Int32)), .val (.int (p1 &&& (3 : Int32))), .unset, .unset] [(.int (p1 &&& (3 : Int32)))]) _
              refine own_step (fun t k => XS.iconst X714.here hx rfl (hb hby at_95) k) ?_
              show own_Run p e below T714 (mkF m 96 #[.val (.int p0), .val (.int p1), .val (.int p2), .val (.ref b434), .val (.int (2 : Int32)), .val (.int (p1 &&& (3 : Int32))), .unset, .unset] [(.int (2 : Int32)), (.int (p1 &&& (3 : Int32)))]) _
              by_cases hc786 : (p1 &&& (3 : Int32)) = (2 : Int32)
              · refine own_step (fun t k => XS.icmpNo X714.here hx rfl (hb hby at_96) rfl (teq hc786).2 k) ?_
                show own_Run p e below T714 (mkF m 99 #[.val (.int p0), .val (.int p1), .val (.int p2), .val (.ref b434), .val (.int (2 : Int32)), .val (.int (p1 &&& (3 : Int32))), .unset, .unset] []) _
                refine own_step (fun t k => XS.iloadN X714.here hx rfl (hb hby at_99) rfl  k) ?_
                show own_Run p e below T714 (mkF m 100 #[.val (.int p0), .val (.int p1), .val (.int p2), .val (.ref b434), .val (.int (2 : Int32)), .val (.int (p1 &&& (3 : Int32))), .unset, .unset] [(.int p2)]) _
                refine own_step (fun t k => X714.ldcInt hx hown (mvT hZ (hw _ (List.mem_of_getElem? (i := 34) rfl))) (g := (mkF m 100 #[.val (.int p0), .val (.int p1), .val (.int p2), .val (.ref b434), .val (.int (2 : Int32)), .val (.int (p1 &&& (3 : Int32))), .unset, .unset] [(.int p2)])) rfl (hb hby at_100) t k) ?_
                show own_Run p e below T714 (mkF m 102 #[.val (.int p0), .val (.int p1), .val (.int p2), .val (.ref b434), .val (.int (2 : Int32)), .val (.int (p1 &&& (3 : Int32))), .unset, .unset] [(.int (131071 : Int32)), (.int p2)]) _
                refine own_step (fun t k => XS.iand X714.here hx rfl (hb hby at_102) rfl k) ?_
                show own_Run p e below T714 (mkF m 103 #[.val (.int p0), .val (.int p1), .val (.int p2), .val (.ref b434), .val (.int (2 : Int32)), .val (.int (p1 &&& (3 : Int32))), .unset, .unset] [(.int (p2 &&& (131071 : Int32)))]) _
                refine own_step (fun t k => XS.istore X714.here hx rfl (hb hby at_103) rfl (l' := #[.val (.int p0), .val (.int p1), .val (.int p2), .val (.ref b434), .val (.int (2 : Int32)), .val (.int (p1 &&& (3 : Int32))), .val (.int (own_f0_103 p2)), .unset]) rfl k) ?_
                show own_Run p e below T714 (mkF m 105 #[.val (.int p0), .val (.int p1), .val (.int p2), .val (.ref b434), .val (.int (2 : Int32)), .val (.int (p1 &&& (3 : Int32))), .val (.int (own_f0_103 p2)), .unset] []) _
                refine own_step (fun t k => XS.goto X714.here hx rfl (pc0 := 105) (pc' := 115) rfl (hb hby at_105) (by decide) (by decide) k) ?_
                show own_Run p e below T714 (mkF m 115 #[.val (.int p0), .val (.int p1), .val (.int p2), .val (.ref b434), .val (.int (2 : Int32)), .val (.int (p1 &&& (3 : Int32))), .val (.int (own_f0_103 p2)), .unset] []) _
                have hj0 : (own_f0_j115_L6 p1 p2) = (own_f0_103 p2) := ((if_neg hc784).trans ((if_neg hc785).trans (if_pos hc786)))
                exact own_here (by rw [hj0])
              · refine own_step (fun t k => XS.icmpYes X714.here hx rfl (pc0 := 96) (pc' := 108) rfl (hb hby at_96) rfl (feq hc786).2 (by decide) (by decide) k) ?_
                show own_Run p e below T714 (mkF m 108 #[.val (.int p0), .val (.int p1), .val (.int p2), .val (.ref b434), .val (.int (2 : Int32)), .val (.int (p1 &&& (3 : Int32))), .unset, .unset] []) _
                refine own_step (fun t k => XS.iloadN X714.here hx rfl (hb hby at_108) rfl  k) ?_
                show own_Run p e below T714 (mkF m 109 #[.val (.int p0), .val (.int p1), .val (.int p2), .val (.ref b434), .val (.int (2 : Int32)), .val (.int (p1 &&& (3 : Int32))), .unset, .unset] [(.int p2)]) _
                refine own_step (fun t k => XS.sipush X714.here hx rfl (hb hby at_109) k) ?_
                show own_Run p e below T714 (mkF m 112 #[.val (.int p0), .val (.int p1), .val (.int p2), .val (.ref b434), .val (.int (2 : Int32)), .val (.int (p1 &&& (3 : Int32))), .unset, .unset] [(.int (255 : Int32)), (.int p2)]) _
                refine own_step (fun t k => XS.iand X714.here hx rfl (hb hby at_112) rfl k) ?_
                show own_Run p e below T714 (mkF m 113 #[.val (.int p0), .val (.int p1), .val (.int p2), .val (.ref b434), .val (.int (2 : Int32)), .val (.int (p1 &&& (3 : Int32))), .unset, .unset] [(.int (p2 &&& (255 : Int32)))]) _
                refine own_step (fun t k => XS.istore X714.here hx rfl (hb hby at_113) rfl (l' := #[.val (.int p0), .val (.int p1), .val (.int p2), .val (.ref b434), .val (.int (2 : Int32)), .val (.int (p1 &&& (3 : Int32))), .val (.int (p2 &&& (255 : Int32))), .unset]) rfl k) ?_
                show own_Run p e below T714 (mkF m 115 #[.val (.int p0), .val (.int p1), .val (.int p2), .val (.ref b434), .val (.int (2 : Int32)), .val (.int (p1 &&& (3 : Int32))), .val (.int (p2 &&& (255 : Int32))), .unset] []) _
                have hj0 : (own_f0_j115_L6 p1 p2) = (p2 &&& (255 : Int32)) := ((if_neg hc784).trans ((if_neg hc785).trans (if_neg hc786)))
                exact own_here (by rw [hj0])
        refine own_tr st783 ?_
        show own_Run p e below T714 (mkF m 115 #[.val (.int p0), .val (.int p1), .val (.int p2), .val (.ref b434), .val (.int (2 : Int32)), .val (.int (p1 &&& (3 : Int32))), .val (.int (own_f0_j115_L6 p1 p2)), .unset] []) _
        refine own_step (fun t k => XS.iload X714.here hx rfl (hb hby at_115) rfl  k) ?_
        show own_Run p e below T714 (mkF m 117 #[.val (.int p0), .val (.int p1), .val (.int p2), .val (.ref b434), .val (.int (2 : Int32)), .val (.int (p1 &&& (3 : Int32))), .val (.int (own_f0_j115_L6 p1 p2)), .unset] [(.int (own_f0_j115_L6 p1 p2))]) _
        obtain ⟨_, st787, T787, L787, rfl, X787, e787, N787⟩ : own_Run p e below T714 (mkF m 117 #[.val (.int p0), .val (.int p1), .val (.int p2), .val (.ref b434), .val (.int (2 : Int32)), .val (.int (p1 &&& (3 : Int32))), .val (.int (own_f0_j115_L6 p1 p2)), .unset] [(.int (own_f0_j115_L6 p1 p2))]) (fun t => ∃ (T' : State) (L' : List Loc) , t = T'.setTop (mkF m 151 #[.val (.int p0), .val (.int p1), .val (.int p2), .val (.ref b434), .val (.int (2 : Int32)), .val (.int (p1 &&& (3 : Int32))), .val (.int (own_f0_j115_L6 p1 p2)), .unset] [(.int (own_f0_j151_S0'' p1 p2))]) ∧ Stand p l e room_1 s m #[(.int p0), (.int p1), (.int p2)] below meth c T' L' 1 8 ∧ T'.heap = h714 ∧ Fr n0 L') := by
          by_cases hc788 : (own_f0_j115_L6 p1 p2) < (0 : Int32)
          · refine own_step (fun t k => XS.ifYes X714.here hx rfl (pc0 := 117) (pc' := 150) rfl (hb hby at_117) rfl ((if0 _ _).trans (tlt hc788).1) (by decide) (by decide) k) ?_
            show own_Run p e below T714 (mkF m 150 #[.val (.int p0), .val (.int p1), .val (.int p2), .val (.ref b434), .val (.int (2 : Int32)), .val (.int (p1 &&& (3 : Int32))), .val (.int (own_f0_j115_L6 p1 p2)), .unset] []) _
            refine own_step (fun t k => XS.iconst X714.here hx rfl (hb hby at_150) k) ?_
            show own_Run p e below T714 (mkF m 151 #[.val (.int p0), .val (.int p1), .val (.int p2), .val (.ref b434), .val (.int (2 : Int32)), .val (.int (p1 &&& (3 : Int32))), .val (.int (own_f0_j115_L6 p1 p2)), .unset] [(.int (0 : Int32))]) _
            have hj0 : (own_f0_j151_S0'' p1 p2) = (0 : Int32) := (if_pos hc788)
            exact own_here ⟨T714, _, (by rw [hj0]), X714, e714, N714⟩
          · refine own_step (fun t k => XS.ifNo X714.here hx rfl (hb hby at_117) rfl ((if0 _ _).trans (flt hc788).1) k) ?_
            show own_Run p e below T714 (mkF m 120 #[.val (.int p0), .val (.int p1), .val (.int p2), .val (.ref b434), .val (.int (2 : Int32)), .val (.int (p1 &&& (3 : Int32))), .val (.int (own_f0_j115_L6 p1 p2)), .unset] []) _
            refine own_step (fun t k => XS.iload X714.here hx rfl (hb hby at_120) rfl  k) ?_
            show own_Run p e below T714 (mkF m 122 #[.val (.int p0), .val (.int p1), .val (.int p2), .val (.ref b434), .val (.int (2 : Int32)), .val (.int (p1 &&& (3 : Int32))), .val (.int (own_f0_j115_L6 p1 p2)), .unset] [(.int (own_f0_j115_L6 p1 p2))]) _
            refine own_step (fun t k => XS.sipush X714.here hx rfl (hb hby at_122) k) ?_
            show own_Run p e below T714 (mkF m 125 #[.val (.int p0), .val (.int p1), .val (.int p2), .val (.ref b434), .val (.int (2 : Int32)), .val (.int (p1 &&& (3 : Int32))), .val (.int (own_f0_j115_L6 p1 p2)), .unset] [(.int (128 : Int32)), (.int (own_f0_j115_L6 p1 p2))]) _
            by_cases hc789 : (own_f0_j115_L6 p1 p2) < (128 : Int32)
            · refine own_step (fun t k => XS.icmpNo X714.here hx rfl (hb hby at_125) rfl (tlt hc789).2.1 k) ?_
              show own_Run p e below T714 (mkF m 128 #[.val (.int p0), .val (.int p1), .val (.int p2), .val (.ref b434), .val (.int (2 : Int32)), .val (.int (p1 &&& (3 : Int32))), .val (.int (own_f0_j115_L6 p1 p2)), .unset] []) _
              refine own_step (fun t k => XS.iload X714.here hx rfl (hb hby at_128) rfl  k) ?_
              show own_Run p e below T714 (mkF m 130 #[.val (.int p0), .val (.int p1), .val (.int p2), .val (.ref b434), .val (.int (2 : Int32)), .val (.int (p1 &&& (3 : Int32))), .val (.int (own_f0_j115_L6 p1 p2)), .unset] [(.int (own_f0_j115_L6 p1 p2))]) _
              obtain ⟨_, _, ⟨T790, L790, kq790, nq790⟩, -, X790, ⟨Lc790, hQ790, lq790, yq790, zq790⟩, st790⟩ := Jvm.LawKit.callS X714 hx (y := (⟨"com/example/fuxi/fuxi/model/PartKeepsPinLaw", "alnum", "(I)Z"⟩ : MethodName)) hown (mvT hZ (hw _ (List.mem_of_getElem? (i := 20) rfl))) (mvT hZ (hw _ (List.mem_of_getElem? (i := 21) rfl))) (mvT hZ (hw _ (List.mem_of_getElem? (i := 22) rfl))) (mvT hZ (hw _ (List.mem_of_getElem? (i := 23) rfl))) (by decide) (backOf (W := 0) (rm1 l Z av0 hw [] (own_f0_j115_L6 p1 p2) h714 n0 Zn714 ) hZ (hw _ (List.mem_of_getElem? (i := 23) rfl)) (hw _ (List.mem_of_getElem? (i := 22) rfl)) (by decide) (by decide)) (g := (mkF m 130 #[.val (.int p0), .val (.int p1), .val (.int p2), .val (.ref b434), .val (.int (2 : Int32)), .val (.int (p1 &&& (3 : Int32))), .val (.int (own_f0_j115_L6 p1 p2)), .unset] [(.int (own_f0_j115_L6 p1 p2))])) rfl (by rw [hml]; rfl) (argsL := [(.int (own_f0_j115_L6 p1 p2))]) (rest := []) (lenOf own_pd170 rfl) rfl (by show 2 * 0 + _ ≤ _; exact Nat.le_of_eq rfl) (hb hby at_130) (fun _ _ => ⟨rfl, e714, (by decide : 1 + 0 ≤ _), (by decide : 8 + 0 ≤ _)⟩)
              dsimp only [Pt.U, Pt.locs, Pt.cells, Pt.slots] at X790 lq790 yq790 zq790 st790 hQ790
              subst lq790 yq790 zq790
              obtain ⟨rfl, N790q, e790⟩ := hQ790
              have N790 := Fr.app N714 N790q
              refine own_step st790 ?_
              show own_Run p e below T790 (mkF m 133 #[.val (.int p0), .val (.int p1), .val (.int p2), .val (.ref b434), .val (.int (2 : Int32)), .val (.int (p1 &&& (3 : Int32))), .val (.int (own_f0_j115_L6 p1 p2)), .unset] [(.int (own_r1 (own_f0_j115_L6 p1 p2)))]) _
              by_cases hc791 : (own_r1 (own_f0_j115_L6 p1 p2)) = (0 : Int32)
              · refine own_step (fun t k => XS.ifNo X790.here hx rfl (hb hby at_133) rfl ((if0 _ _).trans (teq hc791).2) k) ?_
                show own_Run p e below T790 (mkF m 136 #[.val (.int p0), .val (.int p1), .val (.int p2), .val (.ref b434), .val (.int (2 : Int32)), .val (.int (p1 &&& (3 : Int32))), .val (.int (own_f0_j115_L6 p1 p2)), .unset] []) _
                refine own_step (fun t k => XS.iload X790.here hx rfl (hb hby at_136) rfl  k) ?_
                show own_Run p e below T790 (mkF m 138 #[.val (.int p0), .val (.int p1), .val (.int p2), .val (.ref b434), .val (.int (2 : Int32)), .val (.int (p1 &&& (3 : Int32))), .val (.int (own_f0_j115_L6 p1 p2)), .unset] [(.int (2 : Int32))]) _
                refine own_step (fun t k => XS.iload X790.here hx rfl (hb hby at_138) rfl  k) ?_
                show own_Run p e below T790 (mkF m 140 #[.val (.int p0), .val (.int p1), .val (.int p2), .val (.ref b434), .val (.int (2 : Int32)), .val (.int (p1 &&& (3 : Int32))), .val (.int (own_f0_j115_L6 p1 p2)), .unset] [(.int (own_f0_j115_L6 p1 p2)), (.int (2 : Int32))]) _
                obtain ⟨_, _, ⟨T792, L792, kq792, nq792⟩, -, X792, ⟨Lc792, hQ792, lq792, yq792, zq792⟩, st792⟩ := Jvm.LawKit.callS X790 hx (y := (⟨"com/example/fuxi/fuxi/model/PartKeepsPinLaw", "punct", "(II)Z"⟩ : MethodName)) hown (mvT hZ (hw _ (List.mem_of_getElem? (i := 24) rfl))) (mvT hZ (hw _ (List.mem_of_getElem? (i := 25) rfl))) (mvT hZ (hw _ (List.mem_of_getElem? (i := 22) rfl))) (mvT hZ (hw _ (List.mem_of_getElem? (i := 26) rfl))) (by decide) (backOf (W := 0) (rm2 l Z av0 hw [] (2 : Int32) (own_f0_j115_L6 p1 p2) h714 n0 Zn714 ) hZ (hw _ (List.mem_of_getElem? (i := 26) rfl)) (hw _ (List.mem_of_getElem? (i := 22) rfl)) (by decide) (by decide)) (g := (mkF m 140 #[.val (.int p0), .val (.int p1), .val (.int p2), .val (.ref b434), .val (.int (2 : Int32)), .val (.int (p1 &&& (3 : Int32))), .val (.int (own_f0_j115_L6 p1 p2)), .unset] [(.int (own_f0_j115_L6 p1 p2)), (.int (2 : Int32))])) rfl (by rw [hml]; rfl) (argsL := [(.int (2 : Int32)), (.int (own_f0_j115_L6 p1 p2))]) (rest := []) (lenOf own_pd171 rfl) rfl (by show 2 * 0 + _ ≤ _; exact Nat.le_of_eq rfl) (hb hby at_140) (fun _ _ => ⟨rfl, e790, (by decide : 1 + 0 ≤ _), (by decide : 8 + 0 ≤ _)⟩)
                dsimp only [Pt.U, Pt.locs, Pt.cells, Pt.slots] at X792 lq792 yq792 zq792 st792 hQ792
                subst lq792 yq792 zq792
                obtain ⟨rfl, N792q, e792⟩ := hQ792
                have N792 := Fr.app N790 N792q
                refine own_step st792 ?_
                show own_Run p e below T792 (mkF m 143 #[.val (.int p0), .val (.int p1), .val (.int p2), .val (.ref b434), .val (.int (2 : Int32)), .val (.int (p1 &&& (3 : Int32))), .val (.int (own_f0_j115_L6 p1 p2)), .unset] [(.int (own_r2 (2 : Int32) (own_f0_j115_L6 p1 p2)))]) _
                by_cases hc793 : (own_r2 (2 : Int32) (own_f0_j115_L6 p1 p2)) = (0 : Int32)
                · refine own_step (fun t k => XS.ifYes X792.here hx rfl (pc0 := 143) (pc' := 150) rfl (hb hby at_143) rfl ((if0 _ _).trans (teq hc793).1) (by decide) (by decide) k) ?_
                  show own_Run p e below T792 (mkF m 150 #[.val (.int p0), .val (.int p1), .val (.int p2), .val (.ref b434), .val (.int (2 : Int32)), .val (.int (p1 &&& (3 : Int32))), .val (.int (own_f0_j115_L6 p1 p2)), .unset] []) _
                  refine own_step (fun t k => XS.iconst X792.here hx rfl (hb hby at_150) k) ?_
                  show own_Run p e below T792 (mkF m 151 #[.val (.int p0), .val (.int p1), .val (.int p2), .val (.ref b434), .val (.int (2 : Int32)), .val (.int (p1 &&& (3 : Int32))), .val (.int (own_f0_j115_L6 p1 p2)), .unset] [(.int (0 : Int32))]) _
                  have hj0 : (own_f0_j151_S0'' p1 p2) = (0 : Int32) := ((if_neg hc788).trans ((if_pos hc789).trans ((if_pos hc791).trans (if_pos hc793))))
                  exact own_here ⟨T792, _, (by rw [hj0]), X792, e792, N792⟩
                · refine own_step (fun t k => XS.ifNo X792.here hx rfl (hb hby at_143) rfl ((if0 _ _).trans (feq hc793).1) k) ?_
                  show own_Run p e below T792 (mkF m 146 #[.val (.int p0), .val (.int p1), .val (.int p2), .val (.ref b434), .val (.int (2 : Int32)), .val (.int (p1 &&& (3 : Int32))), .val (.int (own_f0_j115_L6 p1 p2)), .unset] []) _
                  refine own_step (fun t k => XS.iconst X792.here hx rfl (hb hby at_146) k) ?_
                  show own_Run p e below T792 (mkF m 147 #[.val (.int p0), .val (.int p1), .val (.int p2), .val (.ref b434), .val (.int (2 : Int32)), .val (.int (p1 &&& (3 : Int32))), .val (.int (own_f0_j115_L6 p1 p2)), .unset] [(.int (1 : Int32))]) _
                  refine own_step (fun t k => XS.goto X792.here hx rfl (pc0 := 147) (pc' := 151) rfl (hb hby at_147) (by decide) (by decide) k) ?_
                  show own_Run p e below T792 (mkF m 151 #[.val (.int p0), .val (.int p1), .val (.int p2), .val (.ref b434), .val (.int (2 : Int32)), .val (.int (p1 &&& (3 : Int32))), .val (.int (own_f0_j115_L6 p1 p2)), .unset] [(.int (1 : Int32))]) _
                  have hj0 : (own_f0_j151_S0'' p1 p2) = (1 : Int32) := ((if_neg hc788).trans ((if_pos hc789).trans ((if_pos hc791).trans (if_neg hc793))))
                  exact own_here ⟨T792, _, (by rw [hj0]), X792, e792, N792⟩
              · refine own_step (fun t k => XS.ifYes X790.here hx rfl (pc0 := 133) (pc' := 146) rfl (hb hby at_133) rfl ((if0 _ _).trans (feq hc791).2) (by decide) (by decide) k) ?_
                show own_Run p e below T790 (mkF m 146 #[.val (.int p0), .val (.int p1), .val (.int p2), .val (.ref b434), .val (.int (2 : Int32)), .val (.int (p1 &&& (3 : Int32))), .val (.int (own_f0_j115_L6 p1 p2)), .unset] []) _
                refine own_step (fun t k => XS.iconst X790.here hx rfl (hb hby at_146) k) ?_
                show own_Run p e below T790 (mkF m 147 #[.val (.int p0), .val (.int p1), .val (.int p2), .val (.ref b434), .val (.int (2 : Int32)), .val (.int (p1 &&& (3 : Int32))), .val (.int (own_f0_j115_L6 p1 p2)), .unset] [(.int (1 : Int32))]) _
                refine own_step (fun t k => XS.goto X790.here hx rfl (pc0 := 147) (pc' := 151) rfl (hb hby at_147) (by decide) (by decide) k) ?_
                show own_Run p e below T790 (mkF m 151 #[.val (.int p0), .val (.int p1), .val (.int p2), .val (.ref b434), .val (.int (2 : Int32)), .val (.int (p1 &&& (3 : Int32))), .val (.int (own_f0_j115_L6 p1 p2)), .unset] [(.int (1 : Int32))]) _
                have hj0 : (own_f0_j151_S0'' p1 p2) = (1 : Int32) := ((if_neg hc788).trans ((if_pos hc789).trans (if_neg hc791)))
                exact own_here ⟨T790, _, (by rw [hj0]), X790, e790, N790⟩
            · refine own_step (fun t k => XS.icmpYes X714.here hx rfl (pc0 := 125) (pc' := 150) rfl (hb hby at_125) rfl (flt hc789).2.1 (by decide) (by decide) k) ?_
              show own_Run p e below T714 (mkF m 150 #[.val (.int p0), .val (.int p1), .val (.int p2), .val (.ref b434), .val (.int (2 : Int32)), .val (.int (p1 &&& (3 : Int32))), .val (.int (own_f0_j115_L6 p1 p2)), .unset] []) _
              refine own_step (fun t k => XS.iconst X714.here hx rfl (hb hby at_150) k) ?_
              show own_Run p e below T714 (mkF m 151 #[.val (.int p0), .val (.int p1), .val (.int p2), .val (.ref b434), .val (.int (2 : Int32)), .val (.int (p1 &&& (3 : Int32))), .val (.int (own_f0_j115_L6 p1 p2)), .unset] [(.int (0 : Int32))]) _
              have hj0 : (own_f0_j151_S0'' p1 p2) = (0 : Int32) := ((if_neg hc788).trans (if_neg hc789))
              exact own_here ⟨T714, _, (by rw [hj0]), X714, e714, N714⟩
        refine own_tr st787 ?_
        show own_Run p e below T787 (mkF m 151 #[.val (.int p0), .val (.int p1), .val (.int p2), .val (.ref b434), .val (.int (2 : Int32)), .val (.int (p1 &&& (3 : Int32))), .val (.int (own_f0_j115_L6 p1 p2)), .unset] [(.int (own_f0_j151_S0'' p1 p2))]) _
        refine own_step (fun t k => XS.istore X787.here hx rfl (hb hby at_151) rfl (l' := #[.val (.int p0), .val (.int p1), .val (.int p2), .val (.ref b434), .val (.int (2 : Int32)), .val (.int (p1 &&& (3 : Int32))), .val (.int (own_f0_j115_L6 p1 p2)), .val (.int (own_f0_151 p1 p2))]) rfl k) ?_
        show own_Run p e below T787 (mkF m 153 #[.val (.int p0), .val (.int p1), .val (.int p2), .val (.ref b434), .val (.int (2 : Int32)), .val (.int (p1 &&& (3 : Int32))), .val (.int (own_f0_j115_L6 p1 p2)), .val (.int (own_f0_151 p1 p2))] []) _
        refine own_step (fun t k => XS.aloadN X787.here hx rfl (hb hby at_153) rfl rfl k) ?_
        show own_Run p e below T787 (mkF m 154 #[.val (.int p0), .val (.int p1), .val (.int p2), .val (.ref b434), .val (.int (2 : Int32)), .val (.int (p1 &&& (3 : Int32))), .val (.int (own_f0_j115_L6 p1 p2)), .val (.int (own_f0_151 p1 p2))] [(.ref b434)]) _
        refine own_step (fun t k => XS.iload X787.here hx rfl (hb hby at_154) rfl  k) ?_
        show own_Run p e below T787 (mkF m 156 #[.val (.int p0), .val (.int p1), .val (.int p2), .val (.ref b434), .val (.int (2 : Int32)), .val (.int (p1 &&& (3 : Int32))), .val (.int (own_f0_j115_L6 p1 p2)), .val (.int (own_f0_151 p1 p2))] [(.int (2 : Int32)), (.ref b434)]) _
        refine own_step (own_ldR X787 hx hZ e787 V714x (j := (2 : Int32)) (v := (.ref w2)) ⟨by decide, by decide⟩ rfl (g := (mkF m 156 #[.val (.int p0), .val (.int p1), .val (.int p2), .val (.ref b434), .val (.int (2 : Int32)), .val (.int (p1 &&& (3 : Int32))), .val (.int (own_f0_j115_L6 p1 p2)), .val (.int (own_f0_151 p1 p2))] [(.int (2 : Int32)), (.ref b434)])) rfl rfl (hb hby at_156)) ?_
        show own_Run p e below T787 (mkF m 157 #[.val (.int p0), .val (.int p1), .val (.int p2), .val (.ref b434), .val (.int (2 : Int32)), .val (.int (p1 &&& (3 : Int32))), .val (.int (own_f0_j115_L6 p1 p2)), .val (.int (own_f0_151 p1 p2))] [(.ref w2)]) _
        refine own_step (fun t k => XS.iload X787.here hx rfl (hb hby at_157) rfl  k) ?_
        show own_Run p e below T787 (mkF m 159 #[.val (.int p0), .val (.int p1), .val (.int p2), .val (.ref b434), .val (.int (2 : Int32)), .val (.int (p1 &&& (3 : Int32))), .val (.int (own_f0_j115_L6 p1 p2)), .val (.int (own_f0_151 p1 p2))] [(.int (own_f0_j115_L6 p1 p2)), (.ref w2)]) _
        obtain ⟨cq794, kq794, q794a, q794b, q794c⟩ := isOf hZ e787 f724
        obtain ⟨_, _, ⟨T794, L794, kq794, nq794⟩, -, X794, ⟨Lc794, hQ794, lq794, yq794, zq794⟩, st794⟩ := X787.virtualBack hx (y := (⟨"com/example/fuxi/fuxi/model/Part", "keeps", "(I)Z"⟩ : MethodName)) (z := (⟨"com/example/fuxi/fuxi/model/Part", "keeps", "(I)Z"⟩ : MethodName)) hown (mvT hZ (hw _ (List.mem_of_getElem? (i := 27) rfl))) (mvT hZ (hw _ (List.mem_of_getElem? (i := 28) rfl))) (notFace_of_selects (args := #[]) (mvT hZ (hw _ (List.mem_of_getElem? (i := 30) rfl)))) (mvT hZ (hw _ (List.mem_of_getElem? (i := 30) rfl))) (mvT hZ (hw _ (List.mem_of_getElem? (i := 29) rfl))) (by decide) (backOf (W := 0) (rm3 l Z av0 hw [] w2 (own_f0_j115_L6 p1 p2) (3458764316252045312 : Int64) (5188146764422578175 : Int64) h714 n0 Zn714 f725 f726) hZ (hw _ (List.mem_of_getElem? (i := 31) rfl)) (hw _ (List.mem_of_getElem? (i := 3) rfl)) (by decide) (by decide)) q794a q794c (g := (mkF m 159 #[.val (.int p0), .val (.int p1), .val (.int p2), .val (.ref b434), .val (.int (2 : Int32)), .val (.int (p1 &&& (3 : Int32))), .val (.int (own_f0_j115_L6 p1 p2)), .val (.int (own_f0_151 p1 p2))] [(.int (own_f0_j115_L6 p1 p2)), (.ref w2)])) rfl (by rw [hml]; rfl) (Steps.refl _) (argsL := [(.int (own_f0_j115_L6 p1 p2))]) (rest := []) (lenOf own_pd170 rfl) rfl (by show 2 * 0 + _ ≤ _; exact Nat.le_of_eq rfl) (hb hby at_159) (fun _ _ => ⟨rfl, e787, (by decide : 1 + 0 ≤ _), (by decide : 8 + 0 ≤ _)⟩)
        dsimp only [Pt.U, Pt.locs, Pt.cells, Pt.slots] at X794 lq794 yq794 zq794 st794 hQ794
        subst lq794 yq794 zq794
        obtain ⟨rfl, N794q, e794⟩ := hQ794
        have N794 := Fr.app N787 N794q
        refine own_tr st794 ?_
        show own_Run p e below T794 (mkF m 162 #[.val (.int p0), .val (.int p1), .val (.int p2), .val (.ref b434), .val (.int (2 : Int32)), .val (.int (p1 &&& (3 : Int32))), .val (.int (own_f0_j115_L6 p1 p2)), .val (.int (own_f0_151 p1 p2))] [(.int (own_r3 (own_f0_j115_L6 p1 p2) (3458764316252045312 : Int64) (5188146764422578175 : Int64)))]) _
        refine own_step (fun t k => XS.iload X794.here hx rfl (hb hby at_162) rfl  k) ?_
        show own_Run p e below T794 (mkF m 164 #[.val (.int p0), .val (.int p1), .val (.int p2), .val (.ref b434), .val (.int (2 : Int32)), .val (.int (p1 &&& (3 : Int32))), .val (.int (own_f0_j115_L6 p1 p2)), .val (.int (own_f0_151 p1 p2))] [(.int (own_f0_151 p1 p2)), (.int (own_r3 (own_f0_j115_L6 p1 p2) (3458764316252045312 : Int64) (5188146764422578175 : Int64)))]) _
        obtain ⟨_, st795, rfl⟩ : own_Run p e below T794 (mkF m 164 #[.val (.int p0), .val (.int p1), .val (.int p2), .val (.ref b434), .val (.int (2 : Int32)), .val (.int (p1 &&& (3 : Int32))), .val (.int (own_f0_j115_L6 p1 p2)), .val (.int (own_f0_151 p1 p2))] [(.int (own_f0_151 p1 p2)), (.int (own_r3 (own_f0_j115_L6 p1 p2) (3458764316252045312 : Int64) (5188146764422578175 : Int64)))]) (fun t => t = T794.setTop (mkF m 172 #[.val (.int p0), .val (.int p1), .val (.int p2), .val (.ref b434), .val (.int (2 : Int32)), .val (.int (p1 &&& (3 : Int32))), .val (.int (own_f0_j115_L6 p1 p2)), .val (.int (own_f0_151 p1 p2))] [(.int (own_f0_j172_S0'' p1 p2))])) := by
          by_cases hc796 : (own_r3 (own_f0_j115_L6 p1 p2) (3458764316252045312 : Int64) (5188146764422578175 : Int64)) = (own_f0_151 p1 p2)
          · refine own_step (fun t k => XS.icmpNo X794.here hx rfl (hb hby at_164) rfl (teq hc796).2 k) ?_
            show own_Run p e below T794 (mkF m 167 #[.val (.int p0), .val (.int p1), .val (.int p2), .val (.ref b434), .val (.int (2 : Int32)), .val (.int (p1 &&& (3 : Int32))), .val (.int (own_f0_j115_L6 p1 p2)), .val (.int (own_f0_151 p1 p2))] []) _
            refine own_step (fun t k => XS.iconst X794.here hx rfl (hb hby at_167) k) ?_
            show own_Run p e below T794 (mkF m 168 #[.val (.int p0), .val (.int p1), .val (.int p2), .val (.ref b434), .val (.int (2 : Int32)), .val (.int (p1 &&& (3 : Int32))), .val (.int (own_f0_j115_L6 p1 p2)), .val (.int (own_f0_151 p1 p2))] [(.int (1 : Int32))]) _
            refine own_step (fun t k => XS.goto X794.here hx rfl (pc0 := 168) (pc' := 172) rfl (hb hby at_168) (by decide) (by decide) k) ?_
            show own_Run p e below T794 (mkF m 172 #[.val (.int p0), .val (.int p1), .val (.int p2), .val (.ref b434), .val (.int (2 : Int32)), .val (.int (p1 &&& (3 : Int32))), .val (.int (own_f0_j115_L6 p1 p2)), .val (.int (own_f0_151 p1 p2))] [(.int (1 : Int32))]) _
            have hj0 : (own_f0_j172_S0'' p1 p2) = (1 : Int32) := (if_pos hc796)
            exact own_here (by rw [hj0])
          · refine own_step (fun t k => XS.icmpYes X794.here hx rfl (pc0 := 164) (pc' := 171) rfl (hb hby at_164) rfl (feq hc796).2 (by decide) (by decide) k) ?_
            show own_Run p e below T794 (mkF m 171 #[.val (.int p0), .val (.int p1), .val (.int p2), .val (.ref b434), .val (.int (2 : Int32)), .val (.int (p1 &&& (3 : Int32))), .val (.int (own_f0_j115_L6 p1 p2)), .val (.int (own_f0_151 p1 p2))] []) _
            refine own_step (fun t k => XS.iconst X794.here hx rfl (hb hby at_171) k) ?_
            show own_Run p e below T794 (mkF m 172 #[.val (.int p0), .val (.int p1), .val (.int p2), .val (.ref b434), .val (.int (2 : Int32)), .val (.int (p1 &&& (3 : Int32))), .val (.int (own_f0_j115_L6 p1 p2)), .val (.int (own_f0_151 p1 p2))] [(.int (0 : Int32))]) _
            have hj0 : (own_f0_j172_S0'' p1 p2) = (0 : Int32) := (if_neg hc796)
            exact own_here (by rw [hj0])
        refine own_tr st795 ?_
        show own_Run p e below T794 (mkF m 172 #[.val (.int p0), .val (.int p1), .val (.int p2), .val (.ref b434), .val (.int (2 : Int32)), .val (.int (p1 &&& (3 : Int32))), .val (.int (own_f0_j115_L6 p1 p2)), .val (.int (own_f0_151 p1 p2))] [(.int (own_f0_j172_S0'' p1 p2))]) _
        exact own_retZ X794 hx hlk hret (hb hby at_172) (by decide) (by decide) N794 trivial
      · refine own_vi (if_neg hs749) ?_
        by_cases hs750 : (p0 &&& (7 : Int32)) = (3 : Int32)
        · refine own_vi (if_pos hs750) ?_
          rw [hs750]
          show own_Run p e below T714 (mkF m 60 #[.val (.int p0), .val (.int p1), .val (.int p2), .val (.ref b434), .unset, .unset, .unset, .unset] [(.int (3 : Int32))]) _
          refine own_step (fun t k => XS.istore X714.here hx rfl (hb hby at_60) rfl (l' := #[.val (.int p0), .val (.int p1), .val (.int p2), .val (.ref b434), .val (.int (3 : Int32)), .unset, .unset, .unset]) rfl k) ?_
          show own_Run p e below T714 (mkF m 62 #[.val (.int p0), .val (.int p1), .val (.int p2), .val (.ref b434), .val (.int (3 : Int32)), .unset, .unset, .unset] []) _
          refine own_step (fun t k => XS.iloadN X714.here hx rfl (hb hby at_62) rfl  k) ?_
          show own_Run p e below T714 (mkF m 63 #[.val (.int p0), .val (.int p1), .val (.int p2), .val (.ref b434), .val (.int (3 : Int32)), .unset, .unset, .unset] [(.int p1)]) _
          refine own_step (fun t k => XS.iconst X714.here hx rfl (hb hby at_63) k) ?_
          show own_Run p e below T714 (mkF m 64 #[.val (.int p0), .val (.int p1), .val (.int p2), .val (.ref b434), .val (.int (3 : Int32)), .unset, .unset, .unset] [(.int (3 : Int32)), (.int p1)]) _
          refine own_step (fun t k => XS.iand X714.here hx rfl (hb hby at_64) rfl k) ?_
          show own_Run p e below T714 (mkF m 65 #[.val (.int p0), .val (.int p1), .val (.int p2), .val (.ref b434), .val (.int (3 : Int32)), .unset, .unset, .unset] [(.int (p1 &&& (3 : Int32)))]) _
          refine own_step (fun t k => XS.istore X714.here hx rfl (hb hby at_65) rfl (l' := #[.val (.int p0), .val (.int p1), .val (.int p2), .val (.ref b434), .val (.int (3 : Int32)), .val (.int (p1 &&& (3 : Int32))), .unset, .unset]) rfl k) ?_
          show own_Run p e below T714 (mkF m 67 #[.val (.int p0), .val (.int p1), .val (.int p2), .val (.ref b434), .val (.int (3 : Int32)), .val (.int (p1 &&& (3 : Int32))), .unset, .unset] []) _
          refine own_step (fun t k => XS.iload X714.here hx rfl (hb hby at_67) rfl  k) ?_
          show own_Run p e below T714 (mkF m 69 #[.val (.int p0), .val (.int p1), .val (.int p2), .val (.ref b434), .val (.int (3 : Int32)), .val (.int (p1 &&& (3 : Int32))), .unset, .unset] [(.int (p1 &&& (3 : Int32)))]) _
          obtain ⟨_, st797, rfl⟩ : own_Run p e below T714 (mkF m 69 #[.val (.int p0), .val (.int p1), .val (.int p2), .val (.ref b434), .val (.int (3 : Int32)), .val (.int (p1 &&& (3 : Int32))), .unset, .unset] [(.int (p1 &&& (3 : Int32)))]) (fun t => t = T714.setTop (mkF m 115 #[.val (.int p0), .val (.int p1), .val (.int p2), .val (.ref b434), .val (.int (3 : Int32)), .val (.int (p1 &&& (3 : Int32))), .val (.int (own_f0_j115_L6 p1 p2)), .unset] [])) := by
            by_cases hc798 : (p1 &&& (3 : Int32)) = (0 : Int32)
            · refine own_step (fun t k => XS.ifNo X714.here hx rfl (hb hby at_69) rfl ((if0 _ _).trans (teq hc798).2) k) ?_
              show own_Run p e below T714 (mkF m 72 #[.val (.int p0), .val (.int p1), .val (.int p2), .val (.ref b434), .val (.int (3 : Int32)), .val (.int (p1 &&& (3 : Int32))), .unset, .unset] []) _
              refine own_step (fun t k => XS.iloadN X714.here hx rfl (hb hby at_72) rfl  k) ?_
              show own_Run p e below T714 (mkF m 73 #[.val (.int p0), .val (.int p1), .val (.int p2), .val (.ref b434), .val (.int (3 : Int32)), .val (.int (p1 &&& (3 : Int32))), .unset, .unset] [(.int p2)]) _
              refine own_step (fun t k => XS.istore X714.here hx rfl (hb hby at_73) rfl (l' := #[.val (.int p0), .val (.int p1), .val (.int p2), .val (.ref b434), .val (.int (3 : Int32)), .val (.int (p1 &&& (3 : Int32))), .val (.int p2), .unset]) rfl k) ?_
              show own_Run p e below T714 (mkF m 75 #[.val (.int p0), .val (.int p1), .val (.int p2), .val (.ref b434), .val (.int (3 : Int32)), .val (.int (p1 &&& (3 : Int32))), .val (.int p2), .unset] []) _
              refine own_step (fun t k => XS.goto X714.here hx rfl (pc0 := 75) (pc' := 115) rfl (hb hby at_75) (by decide) (by decide) k) ?_
              show own_Run p e below T714 (mkF m 115 #[.val (.int p0), .val (.int p1), .val (.int p2), .val (.ref b434), .val (.int (3 : Int32)), .val (.int (p1 &&& (3 : Int32))), .val (.int p2), .unset] []) _
              have hj0 : (own_f0_j115_L6 p1 p2) = p2 := (if_pos hc798)
              exact own_here (by rw [hj0])
            · refine own_step (fun t k => XS.ifYes X714.here hx rfl (pc0 := 69) (pc' := 78) rfl (hb hby at_69) rfl ((if0 _ _).trans (feq hc798).2) (by decide) (by decide) k) ?_
              show own_Run p e below T714 (mkF m 78 #[.val (.int p0), .val (.int p1), .val (.int p2), .val (.ref b434), .val (.int (3 : Int32)), .val (.int (p1 &&& (3 : Int32))), .unset, .unset] []) _
              refine own_step (fun t k => XS.iload X714.here hx rfl (hb hby at_78) rfl  k) ?_
              show own_Run p e below T714 (mkF m 80 #[.val (.int p0), .val (.int p1), .val (.int p2), .val (.ref b434), .val (.int (3 : Int32)), .val (.int (p1 &&& (3 : Int32))), .unset, .unset] [(.int (p1 &&& (3 : Int32)))]) _
              refine own_step (fun t k => XS.iconst X714.here hx rfl (hb hby at_80) k) ?_
              show own_Run p e below T714 (mkF m 81 #[.val (.int p0), .val (.int p1), .val (.int p2), .val (.ref b434), .val (.int (3 : Int32)), .val (.int (p1 &&& (3 : Int32))), .unset, .unset] [(.int (1 : Int32)), (.int (p1 &&& (3 : Int32)))]) _
              by_cases hc799 : (p1 &&& (3 : Int32)) = (1 : Int32)
              · refine own_step (fun t k => XS.icmpNo X714.here hx rfl (hb hby at_81) rfl (teq hc799).2 k) ?_
                show own_Run p e below T714 (mkF m 84 #[.val (.int p0), .val (.int p1), .val (.int p2), .val (.ref b434), .val (.int (3 : Int32)), .val (.int (p1 &&& (3 : Int32))), .unset, .unset] []) _
                refine own_step (fun t k => XS.iloadN X714.here hx rfl (hb hby at_84) rfl  k) ?_
                show own_Run p e below T714 (mkF m 85 #[.val (.int p0), .val (.int p1), .val (.int p2), .val (.ref b434), .val (.int (3 : Int32)), .val (.int (p1 &&& (3 : Int32))), .unset, .unset] [(.int p2)]) _
                refine own_step (fun t k => XS.bipush X714.here hx rfl (hb hby at_85) k) ?_
                show own_Run p e below T714 (mkF m 87 #[.val (.int p0), .val (.int p1), .val (.int p2), .val (.ref b434), .val (.int (3 : Int32)), .val (.int (p1 &&& (3 : Int32))), .unset, .unset] [(.int (127 : Int32)), (.int p2)]) _
                refine own_step (fun t k => XS.iand X714.here hx rfl (hb hby at_87) rfl k) ?_
                show own_Run p e below T714 (mkF m 88 #[.val (.int p0), .val (.int p1), .val (.int p2), .val (.ref b434), .val (.int (3 : Int32)), .val (.int (p1 &&& (3 : Int32))), .unset, .unset] [(.int (p2 &&& (127 : Int32)))]) _
                refine own_step (fun t k => XS.istore X714.here hx rfl (hb hby at_88) rfl (l' := #[.val (.int p0), .val (.int p1), .val (.int p2), .val (.ref b434), .val (.int (3 : Int32)), .val (.int (p1 &&& (3 : Int32))), .val (.int (p2 &&& (127 : Int32))), .unset]) rfl k) ?_
                show own_Run p e below T714 (mkF m 90 #[.val (.int p0), .val (.int p1), .val (.int p2), .val (.ref b434), .val (.int (3 : Int32)), .val (.int (p1 &&& (3 : Int32))), .val (.int (p2 &&& (127 : Int32))), .unset] []) _
                refine own_step (fun t k => XS.goto X714.here hx rfl (pc0 := 90) (pc' := 115) rfl (hb hby at_90) (by decide) (by decide) k) ?_
                show own_Run p e below T714 (mkF m 115 #[.val (.int p0), .val (.int p1), .val (.int p2), .val (.ref b434), .val (.int (3 : Int32)), .val (.int (p1 &&& (3 : Int32))), .val (.int (p2 &&& (127 : Int32))), .unset] []) _
                have hj0 : (own_f0_j115_L6 p1 p2) = (p2 &&& (127 : Int32)) := ((if_neg hc798).trans (if_pos hc799))
                exact own_here (by rw [hj0])
              · refine own_step (fun t k => XS.icmpYes X714.here hx rfl (pc0 := 81) (pc' := 93) rfl (hb hby at_81) rfl (feq hc799).2 (by decide) (by decide) k) ?_
                show own_Run p e below T714 (mkF m 93 #[.val (.int p0), .val (.int p1), .val (.int p2), .val (.ref b434), .val (.int (3 : Int32)), .val (.int (p1 &&& (3 : Int32))), .unset, .unset] []) _
                refine own_step (fun t k => XS.iload X714.here hx rfl (hb hby at_93) rfl  k) ?_
                show own_Run p e below T714 (mkF m 95 #[.val (.int p0), .val (.int p1), .val (.int p2), .val (.ref b434), .val (.int (3 : Int32)), .val (.int (p1 &&& (3 : Int32))), .unset, .unset] [(.int (p1 &&& (3 : Int32)))]) _
                refine own_step (fun t k => XS.iconst X714.here hx rfl (hb hby at_95) k) ?_
                show own_Run p e below T714 (mkF m 96 #[.val (.int p0), .val (.int p1), .val (.int p2), .val (.ref b434), .val (.int (3 : Int32)), .val (.int (p1 &&& (3 : Int32))), .unset, .unset] [(.int (2 : Int32)), (.int (p1 &&& (3 : Int32)))]) _
                by_cases hc800 : (p1 &&& (3 : Int32)) = (2 : Int32)
                · refine own_step (fun t k => XS.icmpNo X714.here hx rfl (hb hby at_96) rfl (teq hc800).2 k) ?_
                  show own_Run p e below T714 (mkF m 99 #[.val (.int p0), .val (.int p1), .val (.int p2), .val (.ref b434), .val (.int (3 : Int32)), .val (.int (p1 &&& (3 : Int32))), .unset, .unset] []) _
                  refine own_step (fun t k => XS.iloadN X714.here hx rfl (hb hby at_99) rfl  k) ?_
                  show own_Run p e below T714 (mkF m 100 #[.val (.int p0), .val (.int p1), .val (.int p2), .val (.ref b434), .val (.int (3 : Int32)), .val (.int (p1 &&& (3 : Int32))), .unset, .unset] [(.int p2)]) _
                  refine own_step (fun t k => X714.ldcInt hx hown (mvT hZ (hw _ (List.mem_of_getElem? (i := 34) rfl))) (g := (mkF m 100 #[.val (.int p0), .val (.int p1), .val (.int p2), .val (.ref b434), .val (.int (3 : Int32)), .val (.int (p1 &&& (3 : Int32))), .unset, .unset] [(.int p2)])) rfl (hb hby at_100) t k) ?_
                  show own_Run p e below T714 (mkF m 102 #[.val (.int p0), .val (.int p1), .val (.int p2), .val (.ref b434), .val (.int (3 : Int32)), .val (.int (p1 &&& (3 : Int32))), .unset, .unset] [(.int (131071 : Int32)), (.int p2)]) _
                  refine own_step (fun t k => XS.iand X714.here hx rfl (hb hby at_102) rfl k) ?_
                  show own_Run p e below T714 (mkF m 103 #[.val (.int p0), .val (.int p1), .val (.int p2), .val (.ref b434), .val (.int (3 : Int32)), .val (.int (p1 &&& (3 : Int32))), .unset, .unset] [(.int (p2 &&& (131071 : Int32)))]) _
                  refine own_step (fun t k => XS.istore X714.here hx rfl (hb hby at_103) rfl (l' := #[.val (.int p0), .val (.int p1), .val (.int p2), .val (.ref b434), .val (.int (3 : Int32)), .val (.int (p1 &&& (3 : Int32))), .val (.int (own_f0_103 p2)), .unset]) rfl k) ?_
                  show own_Run p e below T714 (mkF m 105 #[.val (.int p0), .val (.int p1), .val (.int p2), .val (.ref b434), .val (.int (3 : Int32)), .val (.int (p1 &&& (3 : Int32))), .val (.int (own_f0_103 p2)), .unset] []) _
                  refine own_step (fun t k => XS.goto X714.here hx rfl (pc0 := 105) (pc' := 115) rfl (hb hby at_105) (by decide) (by decide) k) ?_
                  show own_Run p e below T714 (mkF m 115 #[.val (.int p0), .val (.int p1), .val (.int p2), .val (.ref b434), .val (.int (3 : Int32)), .val (.int (p1 &&& (3 : Int32))), .val (.int (own_f0_103 p2)), .unset] []) _
                  have hj0 : (own_f0_j115_L6 p1 p2) = (own_f0_103 p2) := ((if_neg hc798).trans ((if_neg hc799).trans (if_pos hc800)))
                  exact own_here (by rw [hj0])
                · refine own_step (fun t k => XS.icmpYes X714.here hx rfl (pc0 := 96) (pc' := 108) rfl (hb hby at_96) rfl (feq hc800).2 (by decide) (by decide) k) ?_
                  show own_Run p e below T714 (mkF m 108 #[.val (.int p0), .val (.int p1), .val (.int p2), .val (.ref b434), .val (.int (3 : Int32)), .val (.int (p1 &&& (3 : Int32))), .unset, .unset] []) _
                  refine own_step (fun t k => XS.iloadN X714.here hx rfl (hb hby at_108) rfl  k) ?_
                  show own_Run p e below T714 (mkF m 109 #[.val (.int p0), .val (.int p1), .val (.int p2), .val (.ref b434), .val (.int (3 : Int32)), .val (.int (p1 &&& (3 : Int32))), .unset, .unset] [(.int p2)]) _
                  refine own_step (fun t k => XS.sipush X714.here hx rfl (hb hby at_109) k) ?_
                  show own_Run p e below T714 (mkF m 112 #[.val (.int p0), .val (.int p1), .val (.int p2), .val (.ref b434), .val (.int (3 : Int32)), .val (.int (p1 &&& (3 : Int32))), .unset, .unset] [(.int (255 : Int32)), (.int p2)]) _
                  refine own_step (fun t k => XS.iand X714.here hx rfl (hb hby at_112) rfl k) ?_
                  show own_Run p e below T714 (mkF m 113 #[.val (.int p0), .val (.int p1), .val (.int p2), .val (.ref b434), .val (.int (3 : Int32)), .val (.int (p1 &&& (3 : Int32))), .unset, .unset] [(.int (p2 &&& (255 : Int32)))]) _
                  refine own_step (fun t k => XS.istore X714.here hx rfl (hb hby at_113) rfl (l' := #[.val (.int p0), .val (.int p1), .val (.int p2), .val (.ref b434), .val (.int (3 : Int32)), .val (.int (p1 &&& (3 : Int32))), .val (.int (p2 &&& (255 : Int32))), .unset]) rfl k) ?_
                  show own_Run p e below T714 (mkF m 115 #[.val (.int p0), .val (.int p1), .val (.int p2), .val (.ref b434), .val (.int (3 : Int32)), .val (.int (p1 &&& (3 : Int32))), .val (.int (p2 &&& (255 : Int32))), .unset] []) _
                  have hj0 : (own_f0_j115_L6 p1 p2) = (p2 &&& (255 : Int32)) := ((if_neg hc798).trans ((if_neg hc799).trans (if_neg hc800)))
                  exact own_here (by rw [hj0])
          refine own_tr st797 ?_
          show own_Run p e below T714 (mkF m 115 #[.val (.int p0), .val (.int p1), .val (.int p2), .val (.ref b434), .val (.int (3 : Int32)), .val (.int (p1 &&& (3 : Int32))), .val (.int (own_f0_j115_L6 p1 p2)), .unset] []) _
          refine own_step (fun t k => XS.iload X714.here hx rfl (hb hby at_115) rfl  k) ?_
          show own_Run p e below T714 (mkF m 117 #[.val (.int p0), .val (.int p1), .val (.int p2), .val (.ref b434), .val (.int (3 : Int32)), .val (.int (p1 &&& (3 : Int32))), .val (.int (own_f0_j115_L6 p1 p2)), .unset] [(.int (own_f0_j115_L6 p1 p2))]) _
          obtain ⟨_, st801, T801, L801, rfl, X801, e801, N801⟩ : own_Run p e below T714 (mkF m 117 #[.val (.int p0), .val (.int p1), .val (.int p2), .val (.ref b434), .val (.int (3 : Int32)), .val (.int (p1 &&& (3 : Int32))), .val (.int (own_f0_j115_L6 p1 p2)), .unset] [(.int (own_f0_j115_L6 p1 p2))]) (fun t => ∃ (T' : State) (L' : List Loc) , t = T'.setTop (mkF m 151 #[.val (.int p0), .val (.int p1), .val (.int p2), .val (.ref b434), .val (.int (3 : Int32)), .val (.int (p1 &&& (3 : Int32))), .val (.int (own_f0_j115_L6 p1 p2)), .unset] [(.int (own_f0_j151_S0''' p1 p2))]) ∧ Stand p l e room_1 s m #[(.int p0), (.int p1), (.int p2)] below meth c T' L' 1 8 ∧ T'.heap = h714 ∧ Fr n0 L') := by
            by_cases hc802 : (own_f0_j115_L6 p1 p2) < (0 : Int32)
            · refine own_step (fun t k => XS.ifYes X714.here hx rfl (pc0 := 117) (pc' := 150) rfl (hb hby at_117) rfl ((if0 _ _).trans (tlt hc802).1) (by decide) (by decide) k) ?_
              show own_Run p e below T714 (mkF m 150 #[.val (.int p0), .val (.int p1), .val (.int p2), .val (.ref b434), .val (.int (3 : Int32)), .val (.int (p1 &&& (3 : Int32))), .val (.int (own_f0_j115_L6 p1 p2)), .unset] []) _
              refine own_step (fun t k => XS.iconst X714.here hx rfl (hb hby at_150) k) ?_
              show own_Run p e below T714 (mkF m 151 #[.val (.int p0), .val (.int p1), .val (.int p2), .val (.ref b434), .val (.int (3 : Int32)), .val (.int (p1 &&& (3 : Int32))), .val (.int (own_f0_j115_L6 p1 p2)), .unset] [(.int (0 : Int32))]) _
              have hj0 : (own_f0_j151_S0''' p1 p2) = (0 : Int32) := (if_pos hc802)
              exact own_here ⟨T714, _, (by rw [hj0]), X714, e714, N714⟩
            · refine own_step (fun t k => XS.ifNo X714.here hx rfl (hb hby at_117) rfl ((if0 _ _).trans (flt hc802).1) k) ?_
              show own_Run p e below T714 (mkF m 120 #[.val (.int p0), .val (.int p1), .val (.int p2), .val (.ref b434), .val (.int (3 : Int32)), .val (.int (p1 &&& (3 : Int32))), .val (.int (own_f0_j115_L6 p1 p2)), .unset] []) _
              refine own_step (fun t k => XS.iload X714.here hx rfl (hb hby at_120) rfl  k) ?_
              show own_Run p e below T714 (mkF m 122 #[.val (.int p0), .val (.int p1), .val (.int p2), .val (.ref b434), .val (.int (3 : Int32)), .val (.int (p1 &&& (3 : Int32))), .val (.int (own_f0_j115_L6 p1 p2)), .unset] [(.int (own_f0_j115_L6 p1 p2))]) _
              refine own_step (fun t k => XS.sipush X714.here hx rfl (hb hby at_122) k) ?_
              show own_Run p e below T714 (mkF m 125 #[.val (.int p0), .val (.int p1), .val (.int p2), .val (.ref b434), .val (.int (3 : Int32)), .val (.int (p1 &&& (3 : Int32))), .val (.int (own_f0_j115_L6 p1 p2)), .unset] [(.int (128 : Int32)), (.int (own_f0_j115_L6 p1 p2))]) _
              by_cases hc803 : (own_f0_j115_L6 p1 p2) < (128 : Int32)
              · refine own_step (fun t k => XS.icmpNo X714.here hx rfl (hb hby at_125) rfl (tlt hc803).2.1 k) ?_
                show own_Run p e below T714 (mkF m 128 #[.val (.int p0), .val (.int p1), .val (.int p2), .val (.ref b434), .val (.int (3 : Int32)), .val (.int (p1 &&& (3 : Int32))), .val (.int (own_f0_j115_L6 p1 p2)), .unset] []) _
                refine own_step (fun t k => XS.iload X714.here hx rfl (hb hby at_128) rfl  k) ?_
                show own_Run p e below T714 (mkF m 130 #[.val (.int p0), .val (.int p1), .val (.int p2), .val (.ref b434), .val (.int (3 : Int32)), .val (.int (p1 &&& (3 : Int32))), .val (.int (own_f0_j115_L6 p1 p2)), .unset] [(.int (own_f0_j115_L6 p1 p2))]) _
                obtain ⟨_, _, ⟨T804, L804, kq804, nq804⟩, -, X804, ⟨Lc804, hQ804, lq804, yq804, zq804⟩, st804⟩ := Jvm.LawKit.callS X714 hx (y := (⟨"com/example/fuxi/fuxi/model/PartKeepsPinLaw", "alnum", "(I)Z"⟩ : MethodName)) hown (mvT hZ (hw _ (List.mem_of_getElem? (i := 20) rfl))) (mvT hZ (hw _ (List.mem_of_getElem? (i := 21) rfl))) (mvT hZ (hw _ (List.mem_of_getElem? (i := 22) rfl))) (mvT hZ (hw _ (List.mem_of_getElem? (i := 23) rfl))) (by decide) (backOf (W := 0) (rm1 l Z av0 hw [] (own_f0_j115_L6 p1 p2) h714 n0 Zn714 ) hZ (hw _ (List.mem_of_getElem? (i := 23) rfl)) (hw _ (List.mem_of_getElem? (i := 22) rfl)) (by decide) (by decide)) (g := (mkF m 130 #[.val (.int p0), .val (.int p1), .val (.int p2), .val (.ref b434), .val (.int (3 : Int32)), .val (.int (p1 &&& (3 : Int32))), .val (.int (own_f0_j115_L6 p1 p2)), .unset] [(.int (own_f0_j115_L6 p1 p2))])) rfl (by rw [hml]; rfl) (argsL := [(.int (own_f0_j115_L6 p1 p2))]) (rest := []) (lenOf own_pd170 rfl) rfl (by show 2 * 0 + _ ≤ _; exact Nat.le_of_eq rfl) (hb hby at_130) (fun _ _ => ⟨rfl, e714, (by decide : 1 + 0 ≤ _), (by decide : 8 + 0 ≤ _)⟩)
                dsimp only [Pt.U, Pt.locs, Pt.cells, Pt.slots] at X804 lq804 yq804 zq804 st804 hQ804
                subst lq804 yq804 zq804
                obtain ⟨rfl, N804q, e804⟩ := hQ804
                have N804 := Fr.app N714 N804q
                refine own_step st804 ?_
                show own_Run p e below T804 (mkF m 133 #[.val (.int p0), .val (.int p1), .val (.int p2), .val (.ref b434), .val (.int (3 : Int32)), .val (.int (p1 &&& (3 : Int32))), .val (.int (own_f0_j115_L6 p1 p2)), .unset] [(.int (own_r1 (own_f0_j115_L6 p1 p2)))]) _
                by_cases hc805 : (own_r1 (own_f0_j115_L6 p1 p2)) = (0 : Int32)
                · refine own_step (fun t k => XS.ifNo X804.here hx rfl (hb hby at_133) rfl ((if0 _ _).trans (teq hc805).2) k) ?_
                  show own_Run p e below T804 (mkF m 136 #[.val (.int p0), .val (.int p1), .val (.int p2), .val (.ref b434), .val (.int (3 : Int32)), .val (.int (p1 &&& (3 : Int32))), .val (.int (own_f0_j115_L6 p1 p2)), .unset] []) _
                  refine own_step (fun t k => XS.iload X804.here hx rfl (hb hby at_136) rfl  k) ?_
                  show own_Run p e below T804 (mkF m 138 #[.val (.int p0), .val (.int p1), .val (.int p2), .val (.ref b434), .val (.int (3 : Int32)), .val (.int (p1 &&& (3 : Int32))), .val (.int (own_f0_j115_L6 p1 p2)), .unset] [(.int (3 : Int32))]) _
                  refine own_step (fun t k => XS.iload X804.here hx rfl (hb hby at_138) rfl  k) ?_
                  show own_Run p e below T804 (mkF m 140 #[.val (.int p0), .val (.int p1), .val (.int p2), .val (.ref b434), .val (.int (3 : Int32)), .val (.int (p1 &&& (3 : Int32))), .val (.int (own_f0_j115_L6 p1 p2)), .unset] [(.int (own_f0_j115_L6 p1 p2)), (.int (3 : Int32))]) _
                  obtain ⟨_, _, ⟨T806, L806, kq806, nq806⟩, -, X806, ⟨Lc806, hQ806, lq806, yq806, zq806⟩, st806⟩ := Jvm.LawKit.callS X804 hx (y := (⟨"com/example/fuxi/fuxi/model/PartKeepsPinLaw", "punct", "(II)Z"⟩ : MethodName)) hown (mvT hZ (hw _ (List.mem_of_getElem? (i := 24) rfl))) (mvT hZ (hw _ (List.mem_of_getElem? (i := 25) rfl))) (mvT hZ (hw _ (List.mem_of_getElem? (i := 22) rfl))) (mvT hZ (hw _ (List.mem_of_getElem? (i := 26) rfl))) (by decide) (backOf (W := 0) (rm2 l Z av0 hw [] (3 : Int32) (own_f0_j115_L6 p1 p2) h714 n0 Zn714 ) hZ (hw _ (List.mem_of_getElem? (i := 26) rfl)) (hw _ (List.mem_of_getElem? (i := 22) rfl)) (by decide) (by decide)) (g := (mkF m 140 #[.val (.int p0), .val (.int p1), .val (.int p2), .val (.ref b434), .val (.int (3 : Int32)), .val (.int (p1 &&& (3 : Int32))), .val (.int (own_f0_j115_L6 p1 p2)), .unset] [(.int (own_f0_j115_L6 p1 p2)), (.int (3 : Int32))])) rfl (by rw [hml]; rfl) (argsL := [(.int (3 : Int32)), (.int (own_f0_j115_L6 p1 p2))]) (rest := []) (lenOf own_pd171 rfl) rfl (by show 2 * 0 + _ ≤ _; exact Nat.le_of_eq rfl) (hb hby at_140) (fun _ _ => ⟨rfl, e804, (by decide : 1 + 0 ≤ _), (by decide : 8 + 0 ≤ _)⟩)
                  dsimp only [Pt.U, Pt.locs, Pt.cells, Pt.slots] at X806 lq806 yq806 zq806 st806 hQ806
                  subst lq806 yq806 zq806
                  obtain ⟨rfl, N806q, e806⟩ := hQ806
                  have N806 := Fr.app N804 N806q
                  refine own_step st806 ?_
                  show own_Run p e below T806 (mkF m 143 #[.val (.int p0), .val (.int p1), .val (.int p2), .val (.ref b434), .val (.int (3 : Int32)), .val (.int (p1 &&& (3 : Int32))), .val (.int (own_f0_j115_L6 p1 p2)), .unset] [(.int (own_r2 (3 : Int32) (own_f0_j115_L6 p1 p2)))]) _
                  by_cases hc807 : (own_r2 (3 : Int32) (own_f0_j115_L6 p1 p2)) = (0 : Int32)
                  · refine own_step (fun t k => XS.ifYes X806.here hx rfl (pc0 := 143) (pc' := 150) rfl (hb hby at_143) rfl ((if0 _ _).trans (teq hc807).1) (by decide) (by decide) k) ?_
                    show own_Run p e below T806 (mkF m 150 #[.val (.int p0), .val (.int p1), .val (.int p2), .val (.ref b434), .val (.int (3 : Int32)), .val (.int (p1 &&& (3 : Int32))), .val (.int (own_f0_j115_L6 p1 p2)), .unset] []) _
                    refine own_step (fun t k => XS.iconst X806.here hx rfl (hb hby at_150) k) ?_
                    show own_Run p e below T806 (mkF m 151 #[.val (.int p0), .val (.int p1), .val (.int p2), .val (.ref b434), .val (.int (3 : Int32)), .val (.int (p1 &&& (3 : Int32))), .val (.int (own_f0_j115_L6 p1 p2)), .unset] [(.int (0 : Int32))]) _
                    have hj0 : (own_f0_j151_S0''' p1 p2) = (0 : Int32) := ((if_neg hc802).trans ((if_pos hc803).trans ((if_pos hc805).trans (if_pos hc807))))
                    exact own_here ⟨T806, _, (by rw [hj0]), X806, e806, N806⟩
                  · refine own_step (fun t k => XS.ifNo X806.here hx rfl (hb hby at_143) rfl ((if0 _ _).trans (feq hc807).1) k) ?_
                    show own_Run p e below T806 (mkF m 146 #[.val (.int p0), .val (.int p1), .val (.int p2), .val (.ref b434), .val (.int (3 : Int32)), .val (.int (p1 &&& (3 : Int32))), .val (.int (own_f0_j115_L6 p1 p2)), .unset] []) _
                    refine own_step (fun t k => XS.iconst X806.here hx rfl (hb hby at_146) k) ?_
                    show own_Run p e below T806 (mkF m 147 #[.val (.int p0), .val (.int p1), .val (.int p2), .val (.ref b434), .val (.int (3 : Int32)), .val (.int (p1 &&& (3 : Int32))), .val (.int (own_f0_j115_L6 p1 p2)), .unset] [(.int (1 : Int32))]) _
                    refine own_step (fun t k => XS.goto X806.here hx rfl (pc0 := 147) (pc' := 151) rfl (hb hby at_147) (by decide) (by decide) k) ?_
                    show own_Run p e below T806 (mkF m 151 #[.val (.int p0), .val (.int p1), .val (.int p2), .val (.ref b434), .val (.int (3 : Int32)), .val (.int (p1 &&& (3 : Int32))), .val (.int (own_f0_j115_L6 p1 p2)), .unset] [(.int (1 : Int32))]) _
                    have hj0 : (own_f0_j151_S0''' p1 p2) = (1 : Int32) := ((if_neg hc802).trans ((if_pos hc803).trans ((if_pos hc805).trans (if_neg hc807))))
                    exact own_here ⟨T806, _, (by rw [hj0]), X806, e806, N806⟩
                · refine own_step (fun t k => XS.ifYes X804.here hx rfl (pc0 := 133) (pc' := 146) rfl (hb hby at_133) rfl ((if0 _ _).trans (feq hc805).2) (by decide) (by decide) k) ?_
                  show own_Run p e below T804 (mkF m 146 #[.val (.int p0), .val (.int p1), .val (.int p2), .val (.ref b434), .val (.int (3 : Int32)), .val (.int (p1 &&& (3 : Int32))), .val (.int (own_f0_j115_L6 p1 p2)), .unset] []) _
                  refine own_step (fun t k => XS.iconst X804.here hx rfl (hb hby at_146) k) ?_
                  show own_Run p e below T804 (mkF m 147 #[.val (.int p0), .val (.int p1), .val (.int p2), .val (.ref b434), .val (.int (3 : Int32)), .val (.int (p1 &&& (3 : Int32))), .val (.int (own_f0_j115_L6 p1 p2)), .unset] [(.int (1 : Int32))]) _
                  refine own_step (fun t k => XS.goto X804.here hx rfl (pc0 := 147) (pc' := 151) rfl (hb hby at_147) (by decide) (by decide) k) ?_
                  show own_Run p e below T804 (mkF m 151 #[.val (.int p0), .val (.int p1), .val (.int p2), .val (.ref b434), .val (.int (3 : Int32)), .val (.int (p1 &&& (3 : Int32))), .val (.int (own_f0_j115_L6 p1 p2)), .unset] [(.int (1 : Int32))]) _
                  have hj0 : (own_f0_j151_S0''' p1 p2) = (1 : Int32) := ((if_neg hc802).trans ((if_pos hc803).trans (if_neg hc805)))
                  exact own_here ⟨T804, _, (by rw [hj0]), X804, e804, N804⟩
              · refine own_step (fun t k => XS.icmpYes X714.here hx rfl (pc0 := 125) (pc' := 150) rfl (hb hby at_125) rfl (flt hc803).2.1 (by decide) (by decide) k) ?_
                show own_Run p e below T714 (mkF m 150 #[.val (.int p0), .val (.int p1), .val (.int p2), .val (.ref b434), .val (.int (3 : Int32)), .val (.int (p1 &&& (3 : Int32))), .val (.int (own_f0_j115_L6 p1 p2)), .unset] []) _
                refine own_step (fun t k => XS.iconst X714.here hx rfl (hb hby at_150) k) ?_
                show own_Run p e below T714 (mkF m 151 #[.val (.int p0), .val (.int p1), .val (.int p2), .val (.ref b434), .val (.int (3 : Int32)), .val (.int (p1 &&& (3 : Int32))), .val (.int (own_f0_j115_L6 p1 p2)), .unset] [(.int (0 : Int32))]) _
                have hj0 : (own_f0_j151_S0''' p1 p2) = (0 : Int32) := ((if_neg hc802).trans (if_neg hc803))
                exact own_here ⟨T714, _, (by rw [hj0]), X714, e714, N714⟩
          refine own_tr st801 ?_
          show own_Run p e below T801 (mkF m 151 #[.val (.int p0), .val (.int p1), .val (.int p2), .val (.ref b434), .val (.int (3 : Int32)), .val (.int (p1 &&& (3 : Int32))), .val (.int (own_f0_j115_L6 p1 p2)), .unset] [(.int (own_f0_j151_S0''' p1 p2))]) _
          refine own_step (fun t k => XS.istore X801.here hx rfl (hb hby at_151) rfl (l' := #[.val (.int p0), .val (.int p1), .val (.int p2), .val (.ref b434), .val (.int (3 : Int32)), .val (.int (p1 &&& (3 : Int32))), .val (.int (own_f0_j115_L6 p1 p2)), .val (.int (own_f0_151' p1 p2))]) rfl k) ?_
          show own_Run p e below T801 (mkF m 153 #[.val (.int p0), .val (.int p1), .val (.int p2), .val (.ref b434), .val (.int (3 : Int32)), .val (.int (p1 &&& (3 : Int32))), .val (.int (own_f0_j115_L6 p1 p2)), .val (.int (own_f0_151' p1 p2))] []) _
          refine own_step (fun t k => XS.aloadN X801.here hx rfl (hb hby at_153) rfl rfl k) ?_
          show own_Run p e below T801 (mkF m 154 #[.val (.int p0), .val (.int p1), .val (.int p2), .val (.ref b434), .val (.int (3 : Int32)), .val (.int (p1 &&& (3 : Int32))), .val (.int (own_f0_j115_L6 p1 p2)), .val (.int (own_f0_151' p1 p2))] [(.ref b434)]) _
          refine own_step (fun t k => XS.iload X801.here hx rfl (hb hby at_154) rfl  k) ?_
          show own_Run p e below T801 (mkF m 156 #[.val (.int p0), .val (.int p1), .val (.int p2), .val (.ref b434), .val (.int (3 : Int32)), .val (.int (p1 &&& (3 : Int32))), .val (.int (own_f0_j115_L6 p1 p2)), .val (.int (own_f0_151' p1 p2))] [(.int (3 : Int32)), (.ref b434)]) _
          refine own_step (own_ldR X801 hx hZ e801 V714x (j := (3 : Int32)) (v := (.ref w3)) ⟨by decide, by decide⟩ rfl (g := (mkF m 156 #[.val (.int p0), .val (.int p1), .val (.int p2), .val (.ref b434), .val (.int (3 : Int32)), .val (.int (p1 &&& (3 : Int32))), .val (.int (own_f0_j115_L6 p1 p2)), .val (.int (own_f0_151' p1 p2))] [(.int (3 : Int32)), (.ref b434)])) rfl rfl (hb hby at_156)) ?_
          show own_Run p e below T801 (mkF m 157 #[.val (.int p0), .val (.int p1), .val (.int p2), .val (.ref b434), .val (.int (3 : Int32)), .val (.int (p1 &&& (3 : Int32))), .val (.int (own_f0_j115_L6 p1 p2)), .val (.int (own_f0_151' p1 p2))] [(.ref w3)]) _
          refine own_step (fun t k => XS.iload X801.here hx rfl (hb hby at_157) rfl  k) ?_
          show own_Run p e below T801 (mkF m 159 #[.val (.int p0), .val (.int p1), .val (.int p2), .val (.ref b434), .val (.int (3 : Int32)), .val (.int (p1 &&& (3 : Int32))), .val (.int (own_f0_j115_L6 p1 p2)), .val (.int (own_f0_151' p1 p2))] [(.int (own_f0_j115_L6 p1 p2)), (.ref w3)]) _
          obtain ⟨cq808, kq808, q808a, q808b, q808c⟩ := isOf hZ e801 f728
          obtain ⟨_, _, ⟨T808, L808, kq808, nq808⟩, -, X808, ⟨Lc808, hQ808, lq808, yq808, zq808⟩, st808⟩ := X801.virtualBack hx (y := (⟨"com/example/fuxi/fuxi/model/Part", "keeps", "(I)Z"⟩ : MethodName)) (z := (⟨"com/example/fuxi/fuxi/model/Part", "keeps", "(I)Z"⟩ : MethodName)) hown (mvT hZ (hw _ (List.mem_of_getElem? (i := 27) rfl))) (mvT hZ (hw _ (List.mem_of_getElem? (i := 28) rfl))) (notFace_of_selects (args := #[]) (mvT hZ (hw _ (List.mem_of_getElem? (i := 30) rfl)))) (mvT hZ (hw _ (List.mem_of_getElem? (i := 30) rfl))) (mvT hZ (hw _ (List.mem_of_getElem? (i := 29) rfl))) (by decide) (backOf (W := 0) (rm3 l Z av0 hw [] w3 (own_f0_j115_L6 p1 p2) (-5764607720602730496 : Int64) (5188146764422578175 : Int64) h714 n0 Zn714 f729 f730) hZ (hw _ (List.mem_of_getElem? (i := 31) rfl)) (hw _ (List.mem_of_getElem? (i := 3) rfl)) (by decide) (by decide)) q808a q808c (g := (mkF m 159 #[.val (.int p0), .val (.int p1), .val (.int p2), .val (.ref b434), .val (.int (3 : Int32)), .val (.int (p1 &&& (3 : Int32))), .val (.int (own_f0_j115_L6 p1 p2)), .val (.int (own_f0_151' p1 p2))] [(.int (own_f0_j115_L6 p1 p2)), (.ref w3)])) rfl (by rw [hml]; rfl) (Steps.refl _) (argsL := [(.int (own_f0_j115_L6 p1 p2))]) (rest := []) (lenOf own_pd170 rfl) rfl (by show 2 * 0 + _ ≤ _; exact Nat.le_of_eq rfl) (hb hby at_159) (fun _ _ => ⟨rfl, e801, (by decide : 1 + 0 ≤ _), (by decide : 8 + 0 ≤ _)⟩)
          dsimp only [Pt.U, Pt.locs, Pt.cells, Pt.slots] at X808 lq808 yq808 zq808 st808 hQ808
          subst lq808 yq808 zq808
          obtain ⟨rfl, N808q, e808⟩ := hQ808
          have N808 := Fr.app N801 N808q
          refine own_tr st808 ?_
          show own_Run p e below T808 (mkF m 162 #[.val (.int p0), .val (.int p1), .val (.int p2), .val (.ref b434), .val (.int (3 : Int32)), .val (.int (p1 &&& (3 : Int32))), .val (.int (own_f0_j115_L6 p1 p2)), .val (.int (own_f0_151' p1 p2))] [(.int (own_r3 (own_f0_j115_L6 p1 p2) (-5764607720602730496 : Int64) (5188146764422578175 : Int64)))]) _
          refine own_step (fun t k => XS.iload X808.here hx rfl (hb hby at_162) rfl  k) ?_
          show own_Run p e below T808 (mkF m 164 #[.val (.int p0), .val (.int p1), .val (.int p2), .val (.ref b434), .val (.int (3 : Int32)), .val (.int (p1 &&& (3 : Int32))), .val (.int (own_f0_j115_L6 p1 p2)), .val (.int (own_f0_151' p1 p2))] [(.int (own_f0_151' p1 p2)), (.int (own_r3 (own_f0_j115_L6 p1 p2) (-5764607720602730496 : Int64) (5188146764422578175 : Int64)))]) _
          obtain ⟨_, st809, rfl⟩ : own_Run p e below T808 (mkF m 164 #[.val (.int p0), .val (.int p1), .val (.int p2), .val (.ref b434), .val (.int (3 : Int32)), .val (.int (p1 &&& (3 : Int32))), .val (.int (own_f0_j115_L6 p1 p2)), .val (.int (own_f0_151' p1 p2))] [(.int (own_f0_151' p1 p2)), (.int (own_r3 (own_f0_j115_L6 p1 p2) (-5764607720602730496 : Int64) (5188146764422578175 : Int64)))]) (fun t => t = T808.setTop (mkF m 172 #[.val (.int p0), .val (.int p1), .val (.int p2), .val (.ref b434), .val (.int (3 : Int32)), .val (.int (p1 &&& (3 : Int32))), .val (.int (own_f0_j115_L6 p1 p2)), .val (.int (own_f0_151' p1 p2))] [(.int (own_f0_j172_S0''' p1 p2))])) := by
            by_cases hc810 : (own_r3 (own_f0_j115_L6 p1 p2) (-5764607720602730496 : Int64) (5188146764422578175 : Int64)) = (own_f0_151' p1 p2)
            · refine own_step (fun t k => XS.icmpNo X808.here hx rfl (hb hby at_164) rfl (teq hc810).2 k) ?_
              show own_Run p e below T808 (mkF m 167 #[.val (.int p0), .val (.int p1), .val (.int p2), .val (.ref b434), .val (.int (3 : Int32)), .val (.int (p1 &&& (3 : Int32))), .val (.int (own_f0_j115_L6 p1 p2)), .val (.int (own_f0_151' p1 p2))] []) _
              refine own_step (fun t k => XS.iconst X808.here hx rfl (hb hby at_167) k) ?_
              show own_Run p e below T808 (mkF m 168 #[.val (.int p0), .val (.int p1), .val (.int p2), .val (.ref b434), .val (.int (3 : Int32)), .val (.int (p1 &&& (3 : Int32))), .val (.int (own_f0_j115_L6 p1 p2)), .val (.int (own_f0_151' p1 p2))] [(.int (1 : Int32))]) _
              refine own_step (fun t k => XS.goto X808.here hx rfl (pc0 := 168) (pc' := 172) rfl (hb hby at_168) (by decide) (by decide) k) ?_
              show own_Run p e below T808 (mkF m 172 #[.val (.int p0), .val (.int p1), .val (.int p2), .val (.ref b434), .val (.int (3 : Int32)), .val (.int (p1 &&& (3 : Int32))), .val (.int (own_f0_j115_L6 p1 p2)), .val (.int (own_f0_151' p1 p2))] [(.int (1 : Int32))]) _
              have hj0 : (own_f0_j172_S0''' p1 p2) = (1 : Int32) := (if_pos hc810)
              exact own_here (by rw [hj0])
            · refine own_step (fun t k => XS.icmpYes X808.here hx rfl (pc0 := 164) (pc' := 171) rfl (hb hby at_164) rfl (feq hc810).2 (by decide) (by decide) k) ?_
              show own_Run p e below T808 (mkF m 171 #[.val (.int p0), .val (.int p1), .val (.int p2), .val (.ref b434), .val (.int (3 : Int32)), .val (.int (p1 &&& (3 : Int32))), .val (.int (own_f0_j115_L6 p1 p2)), .val (.int (own_f0_151' p1 p2))] []) _
              refine own_step (fun t k => XS.iconst X808.here hx rfl (hb hby at_171) k) ?_
              show own_Run p e below T808 (mkF m 172 #[.val (.int p0), .val (.int p1), .val (.int p2), .val (.ref b434), .val (.int (3 : Int32)), .val (.int (p1 &&& (3 : Int32))), .val (.int (own_f0_j115_L6 p1 p2)), .val (.int (own_f0_151' p1 p2))] [(.int (0 : Int32))]) _
              have hj0 : (own_f0_j172_S0''' p1 p2) = (0 : Int32) := (if_neg hc810)
              exact own_here (by rw [hj0])
          refine own_tr st809 ?_
          show own_Run p e below T808 (mkF m 172 #[.val (.int p0), .val (.int p1), .val (.int p2), .val (.ref b434), .val (.int (3 : Int32)), .val (.int (p1 &&& (3 : Int32))), .val (.int (own_f0_j115_L6 p1 p2)), .val (.int (own_f0_151' p1 p2))] [(.int (own_f0_j172_S0''' p1 p2))]) _
          exact own_retZ X808 hx hlk hret (hb hby at_172) (by decide) (by decide) N808 trivial
        · refine own_vi (if_neg hs750) ?_
          by_cases hs751 : (p0 &&& (7 : Int32)) = (4 : Int32)
          · refine own_vi (if_pos hs751) ?_
            rw [hs751]
            show own_Run p e below T714 (mkF m 60 #[.val (.int p0), .val (.int p1), .val (.int p2), .val (.ref b434), .unset, .unset, .unset, .unset] [(.int (4 : Int32))]) _
            refine own_step (fun t k => XS.istore X714.here hx rfl (hb hby at_60) rfl (l' := #[.val (.int p0), .val (.int p1), .val (.int p2), .val (.ref b434), .val (.int (4 : Int32)), .unset, .unset, .unset]) rfl k) ?_
            show own_Run p e below T714 (mkF m 62 #[.val (.int p0), .val (.int p1), .val (.int p2), .val (.ref b434), .val (.int (4 : Int32)), .unset, .unset, .unset] []) _
            refine own_step (fun t k => XS.iloadN X714.here hx rfl (hb hby at_62) rfl  k) ?_
            show own_Run p e below T714 (mkF m 63 #[.val (.int p0), .val (.int p1), .val (.int p2), .val (.ref b434), .val (.int (4 : Int32)), .unset, .unset, .unset] [(.int p1)]) _
            refine own_step (fun t k => XS.iconst X714.here hx rfl (hb hby at_63) k) ?_
            show own_Run p e below T714 (mkF m 64 #[.val (.int p0), .val (.int p1), .val (.int p2), .val (.ref b434), .val (.int (4 : Int32)), .unset, .unset, .unset] [(.int (3 : Int32)), (.int p1)]) _
            refine own_step (fun t k => XS.iand X714.here hx rfl (hb hby at_64) rfl k) ?_
            show own_Run p e below T714 (mkF m 65 #[.val (.int p0), .val (.int p1), .val (.int p2), .val (.ref b434), .val (.int (4 : Int32)), .unset, .unset, .unset] [(.int (p1 &&& (3 : Int32)))]) _
            refine own_step (fun t k => XS.istore X714.here hx rfl (hb hby at_65) rfl (l' := #[.val (.int p0), .val (.int p1), .val (.int p2), .val (.ref b434), .val (.int (4 : Int32)), .val (.int (p1 &&& (3 : Int32))), .unset, .unset]) rfl k) ?_
            show own_Run p e below T714 (mkF m 67 #[.val (.int p0), .val (.int p1), .val (.int p2), .val (.ref b434), .val (.int (4 : Int32)), .val (.int (p1 &&& (3 : Int32))), .unset, .unset] []) _
            refine own_step (fun t k => XS.iload X714.here hx rfl (hb hby at_67) rfl  k) ?_
            show own_Run p e below T714 (mkF m 69 #[.val (.int p0), .val (.int p1), .val (.int p2), .val (.ref b434), .val (.int (4 : Int32)), .val (.int (p1 &&& (3 : Int32))), .unset, .unset] [(.int (p1 &&& (3 : Int32)))]) _
            obtain ⟨_, st811, rfl⟩ : own_Run p e below T714 (mkF m 69 #[.val (.int p0), .val (.int p1), .val (.int p2), .val (.ref b434), .val (.int (4 : Int32)), .val (.int (p1 &&& (3 : Int32))), .unset, .unset] [(.int (p1 &&& (3 : Int32)))]) (fun t => t = T714.setTop (mkF m 115 #[.val (.int p0), .val (.int p1), .val (.int p2), .val (.ref b434), .val (.int (4 : Int32)), .val (.int (p1 &&& (3 : Int32))), .val (.int (own_f0_j115_L6 p1 p2)), .unset] [])) := by
              by_cases hc812 : (p1 &&& (3 : Int32)) = (0 : Int32)
              · refine own_step (fun t k => XS.ifNo X714.here hx rfl (hb hby at_69) rfl ((if0 _ _).trans (teq hc812).2) k) ?_
                show own_Run p e below T714 (mkF m 72 #[.val (.int p0), .val (.int p1), .val (.int p2), .val (.ref b434), .val (.int (4 : Int32)), .val (.int (p1 &&& (3 : Int32))), .unset, .unset] []) _
                refine own_step (fun t k => XS.iloadN X714.here hx rfl (hb hby at_72) rfl  k) ?_
                show own_Run p e below T714 (mkF m 73 #[.val (.int p0), .val (.int p1), .val (.int p2), .val (.ref b434), .val (.int (4 : Int32)), .val (.int (p1 &&& (3 : Int32))), .unset, .unset] [(.int p2)]) _
                refine own_step (fun t k => XS.istore X714.here hx rfl (hb hby at_73) rfl (l' := #[.val (.int p0), .val (.int p1), .val (.int p2), .val (.ref b434), .val (.int (4 : Int32)), .val (.int (p1 &&& (3 : Int32))), .val (.int p2), .unset]) rfl k) ?_
                show own_Run p e below T714 (mkF m 75 #[.val (.int p0), .val (.int p1), .val (.int p2), .val (.ref b434), .val (.int (4 : Int32)), .val (.int (p1 &&& (3 : Int32))), .val (.int p2), .unset] []) _
                refine own_step (fun t k => XS.goto X714.here hx rfl (pc0 := 75) (pc' := 115) rfl (hb hby at_75) (by decide) (by decide) k) ?_
                show own_Run p e below T714 (mkF m 115 #[.val (.int p0), .val (.int p1), .val (.int p2), .val (.ref b434), .val (.int (4 : Int32)), .val (.int (p1 &&& (3 : Int32))), .val (.int p2), .unset] []) _
                have hj0 : (own_f0_j115_L6 p1 p2) = p2 := (if_pos hc812)
                exact own_here (by rw [hj0])
              · refine own_step (fun t k => XS.ifYes X714.here hx rfl (pc0 := 69) (pc' := 78) rfl (hb hby at_69) rfl ((if0 _ _).trans (feq hc812).2) (by decide) (by decide) k) ?_
                show own_Run p e below T714 (mkF m 78 #[.val (.int p0), .val (.int p1), .val (.int p2), .val (.ref b434), .val (.int (4 : Int32)), .val (.int (p1 &&& (3 : Int32))), .unset, .unset] []) _
                refine own_step (fun t k => XS.iload X714.here hx rfl (hb hby at_78) rfl  k) ?_
                show own_Run p e below T714 (mkF m 80 #[.val (.int p0), .val (.int p1), .val (.int p2), .val (.ref b434), .val (.int (4 : Int32)), .val (.int (p1 &&& (3 : Int32))), .unset, .unset] [(.int (p1 &&& (3 : Int32)))]) _
                refine own_step (fun t k => XS.iconst X714.here hx rfl (hb hby at_80) k) ?_
                show own_Run p e below T714 (mkF m 81 #[.val (.int p0), .val (.int p1), .val (.int p2), .val (.ref b434), .val (.int (4 : Int32)), .val (.int (p1 &&& (3 : Int32))), .unset, .unset] [(.int (1 : Int32)), (.int (p1 &&& (3 : Int32)))]) _
                by_cases hc813 : (p1 &&& (3 : Int32)) = (1 : Int32)
                · refine own_step (fun t k => XS.icmpNo X714.here hx rfl (hb hby at_81) rfl (teq hc813).2 k) ?_
                  show own_Run p e below T714 (mkF m 84 #[.val (.int p0), .val (.int p1), .val (.int p2), .val (.ref b434), .val (.int (4 : Int32)), .val (.int (p1 &&& (3 : Int32))), .unset, .unset] []) _
                  refine own_step (fun t k => XS.iloadN X714.here hx rfl (hb hby at_84) rfl  k) ?_
                  show own_Run p e below T714 (mkF m 85 #[.val (.int p0), .val (.int p1), .val (.int p2), .val (.ref b434), .val (.int (4 : Int32)), .val (.int (p1 &&& (3 : Int32))), .unset, .unset] [(.int p2)]) _
                  refine own_step (fun t k => XS.bipush X714.here hx rfl (hb hby at_85) k) ?_
                  show own_Run p e below T714 (mkF m 87 #[.val (.int p0), .val (.int p1), .val (.int p2), .val (.ref b434), .val (.int (4 : Int32)), .val (.int (p1 &&& (3 : Int32))), .unset, .unset] [(.int (127 : Int32)), (.int p2)]) _
                  refine own_step (fun t k => XS.iand X714.here hx rfl (hb hby at_87) rfl k) ?_
                  show own_Run p e below T714 (mkF m 88 #[.val (.int p0), .val (.int p1), .val (.int p2), .val (.ref b434), .val (.int (4 : Int32)), .val (.int (p1 &&& (3 : Int32))), .unset, .unset] [(.int (p2 &&& (127 : Int32)))]) _
                  refine own_step (fun t k => XS.istore X714.here hx rfl (hb hby at_88) rfl (l' := #[.val (.int p0), .val (.int p1), .val (.int p2), .val (.ref b434), .val (.int (4 : Int32)), .val (.int (p1 &&& (3 : Int32))), .val (.int (p2 &&& (127 : Int32))), .unset]) rfl k) ?_
                  show own_Run p e below T714 (mkF m 90 #[.val (.int p0), .val (.int p1), .val (.int p2), .val (.ref b434), .val (.int (4 : Int32)), .val (.int (p1 &&& (3 : Int32))), .val (.int (p2 &&& (127 : Int32))), .unset] []) _
                  refine own_step (fun t k => XS.goto X714.here hx rfl (pc0 := 90) (pc' := 115) rfl (hb hby at_90) (by decide) (by decide) k) ?_
                  show own_Run p e below T714 (mkF m 115 #[.val (.int p0), .val (.int p1), .val (.int p2), .val (.ref b434), .val (.int (4 : Int32)), .val (.int (p1 &&& (3 : Int32))), .val (.int (p2 &&& (127 : Int32))), .unset] []) _
                  have hj0 : (own_f0_j115_L6 p1 p2) = (p2 &&& (127 : Int32)) := ((if_neg hc812).trans (if_pos hc813))
                  exact own_here (by rw [hj0])
                · refine own_step (fun t k => XS.icmpYes X714.here hx rfl (pc0 := 81) (pc' := 93) rfl (hb hby at_81) rfl (feq hc813).2 (by decide) (by decide) k) ?_
                  show own_Run p e below T714 (mkF m 93 #[.val (.int p0), .val (.int p1), .val (.int p2), .val (.ref b434), .val (.int (4 : Int32)), .val (.int (p1 &&& (3 : Int32))), .unset, .unset] []) _
                  refine own_step (fun t k => XS.iload X714.here hx rfl (hb hby at_93) rfl  k) ?_
                  show own_Run p e below T714 (mkF m 95 #[.val (.int p0), .val (.int p1), .val (.int p2), .val (.ref b434), .val (.int (4 : Int32)), .val (.int (p1 &&& (3 : Int32))), .unset, .unset] [(.int (p1 &&& (3 : Int32)))]) _
                  refine own_step (fun t k => XS.iconst X714.here hx rfl (hb hby at_95) k) ?_
                  show own_Run p e below T714 (mkF m 96 #[.val (.int p0), .val (.int p1), .val (.int p2), .val (.ref b434), .val (.int (4 : Int32)), .val (.int (p1 &&& (3 : Int32))), .unset, .unset] [(.int (2 : Int32)), (.int (p1 &&& (3 : Int32)))]) _
                  by_cases hc814 : (p1 &&& (3 : Int32)) = (2 : Int32)
                  · refine own_step (fun t k => XS.icmpNo X714.here hx rfl (hb hby at_96) rfl (teq hc814).2 k) ?_
                    show own_Run p e below T714 (mkF m 99 #[.val (.int p0), .val (.int p1), .val (.int p2), .val (.ref b434), .val (.int (4 : Int32)), .val (.int (p1 &&& (3 : Int32))), .unset, .unset] []) _
                    refine own_step (fun t k => XS.iloadN X714.here hx rfl (hb hby at_99) rfl  k) ?_
                    show own_Run p e below T714 (mkF m 100 #[.val (.int p0), .val (.int p1), .val (.int p2), .val (.ref b434), .val (.int (4 : Int32)), .val (.int (p1 &&& (3 : Int32))), .unset, .unset] [(.int p2)]) _
                    refine own_step (fun t k => X714.ldcInt hx hown (mvT hZ (hw _ (List.mem_of_getElem? (i := 34) rfl))) (g := (mkF m 100 #[.val (.int p0), .val (.int p1), .val (.int p2), .val (.ref b434), .val (.int (4 : Int32)), .val (.int (p1 &&& (3 : Int32))), .unset, .unset] [(.int p2)])) rfl (hb hby at_100) t k) ?_
                    show own_Run p e below T714 (mkF m 102 #[.val (.int p0), .val (.int p1), .val (.int p2), .val (.ref b434), .val (.int (4 : Int32)), .val (.int (p1 &&& (3 : Int32))), .unset, .unset] [(.int (131071 : Int32)), (.int p2)]) _
                    refine own_step (fun t k => XS.iand X714.here hx rfl (hb hby at_102) rfl k) ?_
                    show own_Run p e below T714 (mkF m 103 #[.val (.int p0), .val (.int p1), .val (.int p2), .val (.ref b434), .val (.int (4 : Int32)), .val (.int (p1 &&& (3 : Int32))), .unset, .unset] [(.int (p2 &&& (131071 : Int32)))]) _
                    refine own_step (fun t k => XS.istore X714.here hx rfl (hb hby at_103) rfl (l' := #[.val (.int p0), .val (.int p1), .val (.int p2), .val (.ref b434), .val (.int (4 : Int32)), .val (.int (p1 &&& (3 : Int32))), .val (.int (own_f0_103 p2)), .unset]) rfl k) ?_
                    show own_Run p e below T714 (mkF m 105 #[.val (.int p0), .val (.int p1), .val (.int p2), .val (.ref b434), .val (.int (4 : Int32)), .val (.int (p1 &&& (3 : Int32))), .val (.int (own_f0_103 p2)), .unset] []) _
                    refine own_step (fun t k => XS.goto X714.here hx rfl (pc0 := 105) (pc' := 115) rfl (hb hby at_105) (by decide) (by decide) k) ?_
                    show own_Run p e below T714 (mkF m 115 #[.val (.int p0), .val (.int p1), .val (.int p2), .val (.ref b434), .val (.int (4 : Int32)), .val (.int (p1 &&& (3 : Int32))), .val (.int (own_f0_103 p2)), .unset] []) _
                    have hj0 : (own_f0_j115_L6 p1 p2) = (own_f0_103 p2) := ((if_neg hc812).trans ((if_neg hc813).trans (if_pos hc814)))
                    exact own_here (by rw [hj0])
                  · refine own_step (fun t k => XS.icmpYes X714.here hx rfl (pc0 := 96) (pc' := 108) rfl (hb hby at_96) rfl (feq hc814).2 (by decide) (by decide) k) ?_
                    show own_Run p e below T714 (mkF m 108 #[.val (.int p0), .val (.int p1), .val (.int p2), .val (.ref b434), .val (.int (4 : Int32)), .val (.int (p1 &&& (3 : Int32))), .unset, .unset] []) _
                    refine own_step (fun t k => XS.iloadN X714.here hx rfl (hb hby at_108) rfl  k) ?_
                    show own_Run p e below T714 (mkF m 109 #[.val (.int p0), .val (.int p1), .val (.int p2), .val (.ref b434), .val (.int (4 : Int32)), .val (.int (p1 &&& (3 : Int32))), .unset, .unset] [(.int p2)]) _
                    refine own_step (fun t k => XS.sipush X714.here hx rfl (hb hby at_109) k) ?_
                    show own_Run p e below T714 (mkF m 112 #[.val (.int p0), .val (.int p1), .val (.int p2), .val (.ref b434), .val (.int (4 : Int32)), .val (.int (p1 &&& (3 : Int32))), .unset, .unset] [(.int (255 : Int32)), (.int p2)]) _
                    refine own_step (fun t k => XS.iand X714.here hx rfl (hb hby at_112) rfl k) ?_
                    show own_Run p e below T714 (mkF m 113 #[.val (.int p0), .val (.int p1), .val (.int p2), .val (.ref b434), .val (.int (4 : Int32)), .val (.int (p1 &&& (3 : Int32))), .unset, .unset] [(.int (p2 &&& (255 : Int32)))]) _
                    refine own_step (fun t k => XS.istore X714.here hx rfl (hb hby at_113) rfl (l' := #[.val (.int p0), .val (.int p1), .val (.int p2), .val (.ref b434), .val (.int (4 : Int32)), .val (.int (p1 &&& (3 : Int32))), .val (.int (p2 &&& (255 : Int32))), .unset]) rfl k) ?_
                    show own_Run p e below T714 (mkF m 115 #[.val (.int p0), .val (.int p1), .val (.int p2), .val (.ref b434), .val (.int (4 : Int32)), .val (.int (p1 &&& (3 : Int32))), .val (.int (p2 &&& (255 : Int32))), .unset] []) _
                    have hj0 : (own_f0_j115_L6 p1 p2) = (p2 &&& (255 : Int32)) := ((if_neg hc812).trans ((if_neg hc813).trans (if_neg hc814)))
                    exact own_here (by rw [hj0])
            refine own_tr st811 ?_
            show own_Run p e below T714 (mkF m 115 #[.val (.int p0), .val (.int p1), .val (.int p2), .val (.ref b434), .val (.int (4 : Int32)), .val (.int (p1 &&& (3 : Int32))), .val (.int (own_f0_j115_L6 p1 p2)), .unset] []) _
            refine own_step (fun t k => XS.iload X714.here hx rfl (hb hby at_115) rfl  k) ?_
            show own_Run p e below T714 (mkF m 117 #[.val (.int p0), .val (.int p1), .val (.int p2), .val (.ref b434), .val (.int (4 : Int32)), .val (.int (p1 &&& (3 : Int32))), .val (.int (own_f0_j115_L6 p1 p2)), .unset] [(.int (own_f0_j115_L6 p1 p2))]) _
            obtain ⟨_, st815, T815, L815, rfl, X815, e815, N815⟩ : own_Run p e below T714 (mkF m 117 #[.val (.int p0), .val (.int p1), .val (.int p2), .val (.ref b434), .val (.int (4 : Int32)), .val (.int (p1 &&& (3 : Int32))), .val (.int (own_f0_j115_L6 p1 p2)), .unset] [(.int (own_f0_j115_L6 p1 p2))]) (fun t => ∃ (T' : State) (L' : List Loc) , t = T'.setTop (mkF m 151 #[.val (.int p0), .val (.int p1), .val (.int p2), .val (.ref b434), .val (.int (4 : Int32)), .val (.int (p1 &&& (3 : Int32))), .val (.int (own_f0_j115_L6 p1 p2)), .unset] [(.int (own_f0_j151_S0'''' p1 p2))]) ∧ Stand p l e room_1 s m #[(.int p0), (.int p1), (.int p2)] below meth c T' L' 1 8 ∧ T'.heap = h714 ∧ Fr n0 L') := by
              by_cases hc816 : (own_f0_j115_L6 p1 p2) < (0 : Int32)
              · refine own_step (fun t k => XS.ifYes X714.here hx rfl (pc0 := 117) (pc' := 150) rfl (hb hby at_117) rfl ((if0 _ _).trans (tlt hc816).1) (by decide) (by decide) k) ?_
                show own_Run p e below T714 (mkF m 150 #[.val (.int p0), .val (.int p1), .val (.int p2), .val (.ref b434), .val (.int (4 : Int32)), .val (.int (p1 &&& (3 : Int32))), .val (.int (own_f0_j115_L6 p1 p2)), .unset] []) _
                refine own_step (fun t k => XS.iconst X714.here hx rfl (hb hby at_150) k) ?_
                show own_Run p e below T714 (mkF m 151 #[.val (.int p0), .val (.int p1), .val (.int p2), .val (.ref b434), .val (.int (4 : Int32)), .val (.int (p1 &&& (3 : Int32))), .val (.int (own_f0_j115_L6 p1 p2)), .unset] [(.int (0 : Int32))]) _
                have hj0 : (own_f0_j151_S0'''' p1 p2) = (0 : Int32) := (if_pos hc816)
                exact own_here ⟨T714, _, (by rw [hj0]), X714, e714, N714⟩
              · refine own_step (fun t k => XS.ifNo X714.here hx rfl (hb hby at_117) rfl ((if0 _ _).trans (flt hc816).1) k) ?_
                show own_Run p e below T714 (mkF m 120 #[.val (.int p0), .val (.int p1), .val (.int p2), .val (.ref b434), .val (.int (4 : Int32)), .val (.int (p1 &&& (3 : Int32))), .val (.int (own_f0_j115_L6 p1 p2)), .unset] []) _
                refine own_step (fun t k => XS.iload X714.here hx rfl (hb hby at_120) rfl  k) ?_
                show own_Run p e below T714 (mkF m 122 #[.val (.int p0), .val (.int p1), .val (.int p2), .val (.ref b434), .val (.int (4 : Int32)), .val (.int (p1 &&& (3 : Int32))), .val (.int (own_f0_j115_L6 p1 p2)), .unset] [(.int (own_f0_j115_L6 p1 p2))]) _
                refine own_step (fun t k => XS.sipush X714.here hx rfl (hb hby at_122) k) ?_
                show own_Run p e below T714 (mkF m 125 #[.val (.int p0), .val (.int p1), .val (.int p2), .val (.ref b434), .val (.int (4 : Int32)), .val (.int (p1 &&& (3 : Int32))), .val (.int (own_f0_j115_L6 p1 p2)), .unset] [(.int (128 : Int32)), (.int (own_f0_j115_L6 p1 p2))]) _
                by_cases hc817 : (own_f0_j115_L6 p1 p2) < (128 : Int32)
                · refine own_step (fun t k => XS.icmpNo X714.here hx rfl (hb hby at_125) rfl (tlt hc817).2.1 k) ?_
                  show own_Run p e below T714 (mkF m 128 #[.val (.int p0), .val (.int p1), .val (.int p2), .val (.ref b434), .val (.int (4 : Int32)), .val (.int (p1 &&& (3 : Int32))), .val (.int (own_f0_j115_L6 p1 p2)), .unset] []) _
                  refine own_step (fun t k => XS.iload X714.here hx rfl (hb hby at_128) rfl  k) ?_
                  show own_Run p e below T714 (mkF m 130 #[.val (.int p0), .val (.int p1), .val (.int p2), .val (.ref b434), .val (.int (4 : Int32)), .val (.int (p1 &&& (3 : Int32))), .val (.int (own_f0_j115_L6 p1 p2)), .unset] [(.int (own_f0_j115_L6 p1 p2))]) _
                  obtain ⟨_, _, ⟨T818, L818, kq818, nq818⟩, -, X818, ⟨Lc818, hQ818, lq818, yq818, zq818⟩, st818⟩ := Jvm.LawKit.callS X714 hx (y := (⟨"com/example/fuxi/fuxi/model/PartKeepsPinLaw", "alnum", "(I)Z"⟩ : MethodName)) hown (mvT hZ (hw _ (List.mem_of_getElem? (i := 20) rfl))) (mvT hZ (hw _ (List.mem_of_getElem? (i := 21) rfl))) (mvT hZ (hw _ (List.mem_of_getElem? (i := 22) rfl))) (mvT hZ (hw _ (List.mem_of_getElem? (i := 23) rfl))) (by decide) (backOf (W := 0) (rm1 l Z av0 hw [] (own_f0_j115_L6 p1 p2) h714 n0 Zn714 ) hZ (hw _ (List.mem_of_getElem? (i := 23) rfl)) (hw _ (List.mem_of_getElem? (i := 22) rfl)) (by decide) (by decide)) (g := (mkF m 130 #[.val (.int p0), .val (.int p1), .val (.int p2), .val (.ref b434), .val (.int (4 : Int32)), .val (.int (p1 &&& (3 : Int32))), .val (.int (own_f0_j115_L6 p1 p2)), .unset] [(.int (own_f0_j115_L6 p1 p2))])) rfl (by rw [hml]; rfl) (argsL := [(.int (own_f0_j115_L6 p1 p2))]) (rest := []) (lenOf own_pd170 rfl) rfl (by show 2 * 0 + _ ≤ _; exact Nat.le_of_eq rfl) (hb hby at_130) (fun _ _ => ⟨rfl, e714, (by decide : 1 + 0 ≤ _), (by decide : 8 + 0 ≤ _)⟩)
                  dsimp only [Pt.U, Pt.locs, Pt.cells, Pt.slots] at X818 lq818 yq818 zq818 st818 hQ818
                  subst lq818 yq818 zq818
                  obtain ⟨rfl, N818q, e818⟩ := hQ818
                  have N818 := Fr.app N714 N818q
                  refine own_step st818 ?_
                  show own_Run p e below T818 (mkF m 133 #[.val (.int p0), .val (.int p1), .val (.int p2), .val (.ref b434), .val (.int (4 : Int32)), .val (.int (p1 &&& (3 : Int32))), .val (.int (own_f0_j115_L6 p1 p2)), .unset] [(.int (own_r1 (own_f0_j115_L6 p1 p2)))]) _
                  by_cases hc819 : (own_r1 (own_f0_j115_L6 p1 p2)) = (0 : Int32)
                  · refine own_step (fun t k => XS.ifNo X818.here hx rfl (hb hby at_133) rfl ((if0 _ _).trans (teq hc819).2) k) ?_
                    show own_Run p e below T818 (mkF m 136 #[.val (.int p0), .val (.int p1), .val (.int p2), .val (.ref b434), .val (.int (4 : Int32)), .val (.int (p1 &&& (3 : Int32))), .val (.int (own_f0_j115_L6 p1 p2)), .unset] []) _
                    refine own_step (fun t k => XS.iload X818.here hx rfl (hb hby at_136) rfl  k) ?_
                    show own_Run p e below T818 (mkF m 138 #[.val (.int p0), .val (.int p1), .val (.int p2), .val (.ref b434), .val (.int (4 : Int32)), .val (.int (p1 &&& (3 : Int32))), .val (.int (own_f0_j115_L6 p1 p2)), .unset] [(.int (4 : Int32))]) _
                    refine own_step (fun t k => XS.iload X818.here hx rfl (hb hby at_138) rfl  k) ?_
                    show own_Run p e below T818 (mkF m 140 #[.val (.int p0), .val (.int p1), .val (.int p2), .val (.ref b434), .val (.int (4 : Int32)), .val (.int (p1 &&& (3 : Int32))), .val (.int (own_f0_j115_L6 p1 p2)), .unset] [(.int (own_f0_j115_L6 p1 p2)), (.int (4 : Int32))]) _
                    obtain ⟨_, _, ⟨T820, L820, kq820, nq820⟩, -, X820, ⟨Lc820, hQ820, lq820, yq820, zq820⟩, st820⟩ := Jvm.LawKit.callS X818 hx (y := (⟨"com/example/fuxi/fuxi/model/PartKeepsPinLaw", "punct", "(II)Z"⟩ : MethodName)) hown (mvT hZ (hw _ (List.mem_of_getElem? (i := 24) rfl))) (mvT hZ (hw _ (List.mem_of_getElem? (i := 25) rfl))) (mvT hZ (hw _ (List.mem_of_getElem? (i := 22) rfl))) (mvT hZ (hw _ (List.mem_of_getElem? (i := 26) rfl))) (by decide) (backOf (W := 0) (rm2 l Z av0 hw [] (4 : Int32) (own_f0_j115_L6 p1 p2) h714 n0 Zn714 ) hZ (hw _ (List.mem_of_getElem? (i := 26) rfl)) (hw _ (List.mem_of_getElem? (i := 22) rfl)) (by decide) (by decide)) (g := (mkF m 140 #[.val (.int p0), .val (.int p1), .val (.int p2), .val (.ref b434), .val (.int (4 : Int32)), .val (.int (p1 &&& (3 : Int32))), .val (.int (own_f0_j115_L6 p1 p2)), .unset] [(.int (own_f0_j115_L6 p1 p2)), (.int (4 : Int32))])) rfl (by rw [hml]; rfl) (argsL := [(.int (4 : Int32)), (.int (own_f0_j115_L6 p1 p2))]) (rest := []) (lenOf own_pd171 rfl) rfl (by show 2 * 0 + _ ≤ _; exact Nat.le_of_eq rfl) (hb hby at_140) (fun _ _ => ⟨rfl, e818, (by decide : 1 + 0 ≤ _), (by decide : 8 + 0 ≤ _)⟩)
                    dsimp only [Pt.U, Pt.locs, Pt.cells, Pt.slots] at X820 lq820 yq820 zq820 st820 hQ820
                    subst lq820 yq820 zq820
                    obtain ⟨rfl, N820q, e820⟩ := hQ820
                    have N820 := Fr.app N818 N820q
                    refine own_step st820 ?_
                    show own_Run p e below T820 (mkF m 143 #[.val (.int p0), .val (.int p1), .val (.int p2), .val (.ref b434), .val (.int (4 : Int32)), .val (.int (p1 &&& (3 : Int32))), .val (.int (own_f0_j115_L6 p1 p2)), .unset] [(.int (own_r2 (4 : Int32) (own_f0_j115_L6 p1 p2)))]) _
                    by_cases hc821 : (own_r2 (4 : Int32) (own_f0_j115_L6 p1 p2)) = (0 : Int32)
                    · refine own_step (fun t k => XS.ifYes X820.here hx rfl (pc0 := 143) (pc' := 150) rfl (hb hby at_143) rfl ((if0 _ _).trans (teq hc821).1) (by decide) (by decide) k) ?_
                      show own_Run p e below T820 (mkF m 150 #[.val (.int p0), .val (.int p1), .val (.int p2), .val (.ref b434), .val (.int (4 : Int32)), .val (.int (p1 &&& (3 : Int32))), .val (.int (own_f0_j115_L6 p1 p2)), .unset] []) _
                      refine own_step (fun t k => XS.iconst X820.here hx rfl (hb hby at_150) k) ?_
                      show own_Run p e below T820 (mkF m 151 #[.val (.int p0), .val (.int p1), .val (.int p2), .val (.ref b434), .val (.int (4 : Int32)), .val (.int (p1 &&& (3 : Int32))), .val (.int (own_f0_j115_L6 p1 p2)), .unset] [(.int (0 : Int32))]) _
                      have hj0 : (own_f0_j151_S0'''' p1 p2) = (0 : Int32) := ((if_neg hc816).trans ((if_pos hc817).trans ((if_pos hc819).trans (if_pos hc821))))
                      exact own_here ⟨T820, _, (by rw [hj0]), X820, e820, N820⟩
                    · refine own_step (fun t k => XS.ifNo X820.here hx rfl (hb hby at_143) rfl ((if0 _ _).trans (feq hc821).1) k) ?_
                      show own_Run p e below T820 (mkF m 146 #[.val (.int p0), .val (.int p1), .val (.int p2), .val (.ref b434), .val (.int (4 : Int32)), .val (.int (p1 &&& (3 : Int32))), .val (.int (own_f0_j115_L6 p1 p2)), .unset] []) _
                      refine own_step (fun t k => XS.iconst X820.here hx rfl (hb hby at_146) k) ?_
                      show own_Run p e below T820 (mkF m 147 #[.val (.int p0), .val (.int p1), .val (.int p2), .val (.ref b434), .val (.int (4 : Int32)), .val (.int (p1 &&& (3 : Int32))), .val (.int (own_f0_j115_L6 p1 p2)), .unset] [(.int (1 : Int32))]) _
                      refine own_step (fun t k => XS.goto X820.here hx rfl (pc0 := 147) (pc' := 151) rfl (hb hby at_147) (by decide) (by decide) k) ?_
                      show own_Run p e below T820 (mkF m 151 #[.val (.int p0), .val (.int p1), .val (.int p2), .val (.ref b434), .val (.int (4 : Int32)), .val (.int (p1 &&& (3 : Int32))), .val (.int (own_f0_j115_L6 p1 p2)), .unset] [(.int (1 : Int32))]) _
                      have hj0 : (own_f0_j151_S0'''' p1 p2) = (1 : Int32) := ((if_neg hc816).trans ((if_pos hc817).trans ((if_pos hc819).trans (if_neg hc821))))
                      exact own_here ⟨T820, _, (by rw [hj0]), X820, e820, N820⟩
                  · refine own_step (fun t k => XS.ifYes X818.here hx rfl (pc0 := 133) (pc' := 146) rfl (hb hby at_133) rfl ((if0 _ _).trans (feq hc819).2) (by decide) (by decide) k) ?_
                    show own_Run p e below T818 (mkF m 146 #[.val (.int p0), .val (.int p1), .val (.int p2), .val (.ref b434), .val (.int (4 : Int32)), .val (.int (p1 &&& (3 : Int32))), .val (.int (own_f0_j115_L6 p1 p2)), .unset] []) _
                    refine own_step (fun t k => XS.iconst X818.here hx rfl (hb hby at_146) k) ?_
                    show own_Run p e below T818 (mkF m 147 #[.val (.int p0), .val (.int p1), .val (.int p2), .val (.ref b434), .val (.int (4 : Int32)), .val (.int (p1 &&& (3 : Int32))), .val (.int (own_f0_j115_L6 p1 p2)), .unset] [(.int (1 : Int32))]) _
                    refine own_step (fun t k => XS.goto X818.here hx rfl (pc0 := 147) (pc' := 151) rfl (hb hby at_147) (by decide) (by decide) k) ?_
                    show own_Run p e below T818 (mkF m 151 #[.val (.int p0), .val (.int p1), .val (.int p2), .val (.ref b434), .val (.int (4 : Int32)), .val (.int (p1 &&& (3 : Int32))), .val (.int (own_f0_j115_L6 p1 p2)), .unset] [(.int (1 : Int32))]) _
                    have hj0 : (own_f0_j151_S0'''' p1 p2) = (1 : Int32) := ((if_neg hc816).trans ((if_pos hc817).trans (if_neg hc819)))
                    exact own_here ⟨T818, _, (by rw [hj0]), X818, e818, N818⟩
                · refine own_step (fun t k => XS.icmpYes X714.here hx rfl (pc0 := 125) (pc' := 150) rfl (hb hby at_125) rfl (flt hc817).2.1 (by decide) (by decide) k) ?_
                  show own_Run p e below T714 (mkF m 150 #[.val (.int p0), .val (.int p1), .val (.int p2), .val (.ref b434), .val (.int (4 : Int32)), .val (.int (p1 &&& (3 : Int32))), .val (.int (own_f0_j115_L6 p1 p2)), .unset] []) _
                  refine own_step (fun t k => XS.iconst X714.here hx rfl (hb hby at_150) k) ?_
                  show own_Run p e below T714 (mkF m 151 #[.val (.int p0), .val (.int p1), .val (.int p2), .val (.ref b434), .val (.int (4 : Int32)), .val (.int (p1 &&& (3 : Int32))), .val (.int (own_f0_j115_L6 p1 p2)), .unset] [(.int (0 : Int32))]) _
                  have hj0 : (own_f0_j151_S0'''' p1 p2) = (0 : Int32) := ((if_neg hc816).trans (if_neg hc817))
                  exact own_here ⟨T714, _, (by rw [hj0]), X714, e714, N714⟩
            refine own_tr st815 ?_
            show own_Run p e below T815 (mkF m 151 #[.val (.int p0), .val (.int p1), .val (.int p2), .val (.ref b434), .val (.int (4 : Int32)), .val (.int (p1 &&& (3 : Int32))), .val (.int (own_f0_j115_L6 p1 p2)), .unset] [(.int (own_f0_j151_S0'''' p1 p2))]) _
            refine own_step (fun t k => XS.istore X815.here hx rfl (hb hby at_151) rfl (l' := #[.val (.int p0), .val (.int p1), .val (.int p2), .val (.ref b434), .val (.int (4 : Int32)), .val (.int (p1 &&& (3 : Int32))), .val (.int (own_f0_j115_L6 p1 p2)), .val (.int (own_f0_151'' p1 p2))]) rfl k) ?_
            show own_Run p e below T815 (mkF m 153 #[.val (.int p0), .val (.int p1), .val (.int p2), .val (.ref b434), .val (.int (4 : Int32)), .val (.int (p1 &&& (3 : Int32))), .val (.int (own_f0_j115_L6 p1 p2)), .val (.int (own_f0_151'' p1 p2))] []) _
            refine own_step (fun t k => XS.aloadN X815.here hx rfl (hb hby at_153) rfl rfl k) ?_
            show own_Run p e below T815 (mkF m 154 #[.val (.int p0), .val (.int p1), .val (.int p2), .val (.ref b434), .val (.int (4 : Int32)), .val (.int (p1 &&& (3 : Int32))), .val (.int (own_f0_j115_L6 p1 p2)), .val (.int (own_f0_151'' p1 p2))] [(.ref b434)]) _
            refine own_step (fun t k => XS.iload X815.here hx rfl (hb hby at_154) rfl  k) ?_
            show own_Run p e below T815 (mkF m 156 #[.val (.int p0), .val (.int p1), .val (.int p2), .val (.ref b434), .val (.int (4 : Int32)), .val (.int (p1 &&& (3 : Int32))), .val (.int (own_f0_j115_L6 p1 p2)), .val (.int (own_f0_151'' p1 p2))] [(.int (4 : Int32)), (.ref b434)]) _
            refine own_step (own_ldR X815 hx hZ e815 V714x (j := (4 : Int32)) (v := (.ref w4)) ⟨by decide, by decide⟩ rfl (g := (mkF m 156 #[.val (.int p0), .val (.int p1), .val (.int p2), .val (.ref b434), .val (.int (4 : Int32)), .val (.int (p1 &&& (3 : Int32))), .val (.int (own_f0_j115_L6 p1 p2)), .val (.int (own_f0_151'' p1 p2))] [(.int (4 : Int32)), (.ref b434)])) rfl rfl (hb hby at_156)) ?_
            show own_Run p e below T815 (mkF m 157 #[.val (.int p0), .val (.int p1), .val (.int p2), .val (.ref b434), .val (.int (4 : Int32)), .val (.int (p1 &&& (3 : Int32))), .val (.int (own_f0_j115_L6 p1 p2)), .val (.int (own_f0_151'' p1 p2))] [(.ref w4)]) _
            refine own_step (fun t k => XS.iload X815.here hx rfl (hb hby at_157) rfl  k) ?_
            show own_Run p e below T815 (mkF m 159 #[.val (.int p0), .val (.int p1), .val (.int p2), .val (.ref b434), .val (.int (4 : Int32)), .val (.int (p1 &&& (3 : Int32))), .val (.int (own_f0_j115_L6 p1 p2)), .val (.int (own_f0_151'' p1 p2))] [(.int (own_f0_j115_L6 p1 p2)), (.ref w4)]) _
            obtain ⟨cq822, kq822, q822a, q822b, q822c⟩ := isOf hZ e815 f732
            obtain ⟨_, _, ⟨T822, L822, kq822, nq822⟩, -, X822, ⟨Lc822, hQ822, lq822, yq822, zq822⟩, st822⟩ := X815.virtualBack hx (y := (⟨"com/example/fuxi/fuxi/model/Part", "keeps", "(I)Z"⟩ : MethodName)) (z := (⟨"com/example/fuxi/fuxi/model/Part", "keeps", "(I)Z"⟩ : MethodName)) hown (mvT hZ (hw _ (List.mem_of_getElem? (i := 27) rfl))) (mvT hZ (hw _ (List.mem_of_getElem? (i := 28) rfl))) (notFace_of_selects (args := #[]) (mvT hZ (hw _ (List.mem_of_getElem? (i := 30) rfl)))) (mvT hZ (hw _ (List.mem_of_getElem? (i := 30) rfl))) (mvT hZ (hw _ (List.mem_of_getElem? (i := 29) rfl))) (by decide) (backOf (W := 0) (rm3 l Z av0 hw [] w4 (own_f0_j115_L6 p1 p2) (-8646920553090777088 : Int64) (5188146764422578175 : Int64) h714 n0 Zn714 f733 f734) hZ (hw _ (List.mem_of_getElem? (i := 31) rfl)) (hw _ (List.mem_of_getElem? (i := 3) rfl)) (by decide) (by decide)) q822a q822c (g := (mkF m 159 #[.val (.int p0), .val (.int p1), .val (.int p2), .val (.ref b434), .val (.int (4 : Int32)), .val (.int (p1 &&& (3 : Int32))), .val (.int (own_f0_j115_L6 p1 p2)), .val (.int (own_f0_151'' p1 p2))] [(.int (own_f0_j115_L6 p1 p2)), (.ref w4)])) rfl (by rw [hml]; rfl) (Steps.refl _) (argsL := [(.int (own_f0_j115_L6 p1 p2))]) (rest := []) (lenOf own_pd170 rfl) rfl (by show 2 * 0 + _ ≤ _; exact Nat.le_of_eq rfl) (hb hby at_159) (fun _ _ => ⟨rfl, e815, (by decide : 1 + 0 ≤ _), (by decide : 8 + 0 ≤ _)⟩)
            dsimp only [Pt.U, Pt.locs, Pt.cells, Pt.slots] at X822 lq822 yq822 zq822 st822 hQ822
            subst lq822 yq822 zq822
            obtain ⟨rfl, N822q, e822⟩ := hQ822
            have N822 := Fr.app N815 N822q
            refine own_tr st822 ?_
            show own_Run p e below T822 (mkF m 162 #[.val (.int p0), .val (.int p1), .val (.int p2), .val (.ref b434), .val (.int (4 : Int32)), .val (.int (p1 &&& (3 : Int32))), .val (.int (own_f0_j115_L6 p1 p2)), .val (.int (own_f0_151'' p1 p2))] [(.int (own_r3 (own_f0_j115_L6 p1 p2) (-8646920553090777088 : Int64) (5188146764422578175 : Int64)))]) _
            refine own_step (fun t k => XS.iload X822.here hx rfl (hb hby at_162) rfl  k) ?_
            show own_Run p e below T822 (mkF m 164 #[.val (.int p0), .val (.int p1), .val (.int p2), .val (.ref b434), .val (.int (4 : Int32)), .val (.int (p1 &&& (3 : Int32))), .val (.int (own_f0_j115_L6 p1 p2)), .val (.int (own_f0_151'' p1 p2))] [(.int (own_f0_151'' p1 p2)), (.int (own_r3 (own_f0_j115_L6 p1 p2) (-8646920553090777088 : Int64) (5188146764422578175 : Int64)))]) _
            obtain ⟨_, st823, rfl⟩ : own_Run p e below T822 (mkF m 164 #[.val (.int p0), .val (.int p1), .val (.int p2), .val (.ref b434), .val (.int (4 : Int32)), .val (.int (p1 &&& (3 : Int32))), .val (.int (own_f0_j115_L6 p1 p2)), .val (.int (own_f0_151'' p1 p2))] [(.int (own_f0_151'' p1 p2)), (.int (own_r3 (own_f0_j115_L6 p1 p2) (-8646920553090777088 : Int64) (5188146764422578175 : Int64)))]) (fun t => t = T822.setTop (mkF m 172 #[.val (.int p0), .val (.int p1), .val (.int p2), .val (.ref b434), .val (.int (4 : Int32)), .val (.int (p1 &&& (3 : Int32))), .val (.int (own_f0_j115_L6 p1 p2)), .val (.int (own_f0_151'' p1 p2))] [(.int (own_f0_j172_S0'''' p1 p2))])) := by
              by_cases hc824 : (own_r3 (own_f0_j115_L6 p1 p2) (-8646920553090777088 : Int64) (5188146764422578175 : Int64)) = (own_f0_151'' p1 p2)
              · refine own_step (fun t k => XS.icmpNo X822.here hx rfl (hb hby at_164) rfl (teq hc824).2 k) ?_
                show own_Run p e below T822 (mkF m 167 #[.val (.int p0), .val (.int p1), .val (.int p2), .val (.ref b434), .val (.int (4 : Int32)), .val (.int (p1 &&& (3 : Int32))), .val (.int (own_f0_j115_L6 p1 p2)), .val (.int (own_f0_151'' p1 p2))] []) _
                refine own_step (fun t k => XS.iconst X822.here hx rfl (hb hby at_167) k) ?_
                show own_Run p e below T822 (mkF m 168 #[.val (.int p0), .val (.int p1), .val (.int p2), .val (.ref b434), .val (.int (4 : Int32)), .val (.int (p1 &&& (3 : Int32))), .val (.int (own_f0_j115_L6 p1 p2)), .val (.int (own_f0_151'' p1 p2))] [(.int (1 : Int32))]) _
                refine own_step (fun t k => XS.goto X822.here hx rfl (pc0 := 168) (pc' := 172) rfl (hb hby at_168) (by decide) (by decide) k) ?_
                show own_Run p e below T822 (mkF m 172 #[.val (.int p0), .val (.int p1), .val (.int p2), .val (.ref b434), .val (.int (4 : Int32)), .val (.int (p1 &&& (3 : Int32))), .val (.int (own_f0_j115_L6 p1 p2)), .val (.int (own_f0_151'' p1 p2))] [(.int (1 : Int32))]) _
                have hj0 : (own_f0_j172_S0'''' p1 p2) = (1 : Int32) := (if_pos hc824)
                exact own_here (by rw [hj0])
              · refine own_step (fun t k => XS.icmpYes X822.here hx rfl (pc0 := 164) (pc' := 171) rfl (hb hby at_164) rfl (feq hc824).2 (by decide) (by decide) k) ?_
                show own_Run p e below T822 (mkF m 171 #[.val (.int p0), .val (.int p1), .val (.int p2), .val (.ref b434), .val (.int (4 : Int32)), .val (.int (p1 &&& (3 : Int32))), .val (.int (own_f0_j115_L6 p1 p2)), .val (.int (own_f0_151'' p1 p2))] []) _
                refine own_step (fun t k => XS.iconst X822.here hx rfl (hb hby at_171) k) ?_
                show own_Run p e below T822 (mkF m 172 #[.val (.int p0), .val (.int p1), .val (.int p2), .val (.ref b434), .val (.int (4 : Int32)), .val (.int (p1 &&& (3 : Int32))), .val (.int (own_f0_j115_L6 p1 p2)), .val (.int (own_f0_151'' p1 p2))] [(.int (0 : Int32))]) _
                have hj0 : (own_f0_j172_S0'''' p1 p2) = (0 : Int32) := (if_neg hc824)
                exact own_here (by rw [hj0])
            refine own_tr st823 ?_
            show own_Run p e below T822 (mkF m 172 #[.val (.int p0), .val (.int p1), .val (.int p2), .val (.ref b434), .val (.int (4 : Int32)), .val (.int (p1 &&& (3 : Int32))), .val (.int (own_f0_j115_L6 p1 p2)), .val (.int (own_f0_151'' p1 p2))] [(.int (own_f0_j172_S0'''' p1 p2))]) _
            exact own_retZ X822 hx hlk hret (hb hby at_172) (by decide) (by decide) N822 trivial
          · refine own_vi (if_neg hs751) ?_
            by_cases hs752 : (p0 &&& (7 : Int32)) = (5 : Int32)
            · refine own_vi (if_pos hs752) ?_
              rw [hs752]
              show own_Run p e below T714 (mkF m 60 #[.val (.int p0), .val (.int p1), .val (.int p2), .val (.ref b434), .unset, .unset, .unset, .unset] [(.int (5 : Int32))]) _
              refine own_step (fun t k => XS.istore X714.here hx rfl (hb hby at_60) rfl (l' := #[.val (.int p0), .val (.int p1), .val (.int p2), .val (.ref b434), .val (.int (5 : Int32)), .unset, .unset, .unset]) rfl k) ?_
              show own_Run p e below T714 (mkF m 62 #[.val (.int p0), .val (.int p1), .val (.int p2), .val (.ref b434), .val (.int (5 : Int32)), .unset, .unset, .unset] []) _
              refine own_step (fun t k => XS.iloadN X714.here hx rfl (hb hby at_62) rfl  k) ?_
              show own_Run p e below T714 (mkF m 63 #[.val (.int p0), .val (.int p1), .val (.int p2), .val (.ref b434), .val (.int (5 : Int32)), .unset, .unset, .unset] [(.int p1)]) _
              refine own_step (fun t k => XS.iconst X714.here hx rfl (hb hby at_63) k) ?_
              show own_Run p e below T714 (mkF m 64 #[.val (.int p0), .val (.int p1), .val (.int p2), .val (.ref b434), .val (.int (5 : Int32)), .unset, .unset, .unset] [(.int (3 : Int32)), (.int p1)]) _
              refine own_step (fun t k => XS.iand X714.here hx rfl (hb hby at_64) rfl k) ?_
              show own_Run p e below T714 (mkF m 65 #[.val (.int p0), .val (.int p1), .val (.int p2), .val (.ref b434), .val (.int (5 : Int32)), .unset, .unset, .unset] [(.int (p1 &&& (3 : Int32)))]) _
              refine own_step (fun t k => XS.istore X714.here hx rfl (hb hby at_65) rfl (l' := #[.val (.int p0), .val (.int p1), .val (.int p2), .val (.ref b434), .val (.int (5 : Int32)), .val (.int (p1 &&& (3 : Int32))), .unset, .unset]) rfl k) ?_
              show own_Run p e below T714 (mkF m 67 #[.val (.int p0), .val (.int p1), .val (.int p2), .val (.ref b434), .val (.int (5 : Int32)), .val (.int (p1 &&& (3 : Int32))), .unset, .unset] []) _
              refine own_step (fun t k => XS.iload X714.here hx rfl (hb hby at_67) rfl  k) ?_
              show own_Run p e below T714 (mkF m 69 #[.val (.int p0), .val (.int p1), .val (.int p2), .val (.ref b434), .val (.int (5 : Int32)), .val (.int (p1 &&& (3 : Int32))), .unset, .unset] [(.int (p1 &&& (3 : Int32)))]) _
              obtain ⟨_, st825, rfl⟩ : own_Run p e below T714 (mkF m 69 #[.val (.int p0), .val (.int p1), .val (.int p2), .val (.ref b434), .val (.int (5 : Int32)), .val (.int (p1 &&& (3 : Int32))), .unset, .unset] [(.int (p1 &&& (3 : Int32)))]) (fun t => t = T714.setTop (mkF m 115 #[.val (.int p0), .val (.int p1), .val (.int p2), .val (.ref b434), .val (.int (5 : Int32)), .val (.int (p1 &&& (3 : Int32))), .val (.int (own_f0_j115_L6 p1 p2)), .unset] [])) := by
                by_cases hc826 : (p1 &&& (3 : Int32)) = (0 : Int32)
                · refine own_step (fun t k => XS.ifNo X714.here hx rfl (hb hby at_69) rfl ((if0 _ _).trans (teq hc826).2) k) ?_
                  show own_Run p e below T714 (mkF m 72 #[.val (.int p0), .val (.int p1), .val (.int p2), .val (.ref b434), .val (.int (5 : Int32)), .val (.int (p1 &&& (3 : Int32))), .unset, .unset] []) _
                  refine own_step (fun t k => XS.iloadN X714.here hx rfl (hb hby at_72) rfl  k) ?_
                  show own_Run p e below T714 (mkF m 73 #[.val (.int p0), .val (.int p1), .val (.int p2), .val (.ref b434), .val (.int (5 : Int32)), .val (.int (p1 &&& (3 : Int32))), .unset, .unset] [(.int p2)]) _
                  refine own_step (fun t k => XS.istore X714.here hx rfl (hb hby at_73) rfl (l' := #[.val (.int p0), .val (.int p1), .val (.int p2), .val (.ref b434), .val (.int (5 : Int32)), .val (.int (p1 &&& (3 : Int32))), .val (.int p2), .unset]) rfl k) ?_
                  show own_Run p e below T714 (mkF m 75 #[.val (.int p0), .val (.int p1), .val (.int p2), .val (.ref b434), .val (.int (5 : Int32)), .val (.int (p1 &&& (3 : Int32))), .val (.int p2), .unset] []) _
                  refine own_step (fun t k => XS.goto X714.here hx rfl (pc0 := 75) (pc' := 115) rfl (hb hby at_75) (by decide) (by decide) k) ?_
                  show own_Run p e below T714 (mkF m 115 #[.val (.int p0), .val (.int p1), .val (.int p2), .val (.ref b434), .val (.int (5 : Int32)), .val (.int (p1 &&& (3 : Int32))), .val (.int p2), .unset] []) _
                  have hj0 : (own_f0_j115_L6 p1 p2) = p2 := (if_pos hc826)
                  exact own_here (by rw [hj0])
                · refine own_step (fun t k => XS.ifYes X714.here hx rfl (pc0 := 69) (pc' := 78) rfl (hb hby at_69) rfl ((if0 _ _).trans (feq hc826).2) (by decide) (by decide) k) ?_
                  show own_Run p e below T714 (mkF m 78 #[.val (.int p0), .val (.int p1), .val (.int p2), .val (.ref b434), .val (.int (5 : Int32)), .val (.int (p1 &&& (3 : Int32))), .unset, .unset] []) _
                  refine own_step (fun t k => XS.iload X714.here hx rfl (hb hby at_78) rfl  k) ?_
                  show own_Run p e below T714 (mkF m 80 #[.val (.int p0), .val (.int p1), .val (.int p2), .val (.ref b434), .val (.int (5 : Int32)), .val (.int (p1 &&& (3 : Int32))), .unset, .unset] [(.int (p1 &&& (3 : Int32)))]) _
                  refine own_step (fun t k => XS.iconst X714.here hx rfl (hb hby at_80) k) ?_
                  show own_Run p e below T714 (mkF m 81 #[.val (.int p0), .val (.int p1), .val (.int p2), .val (.ref b434), .val (.int (5 : Int32)), .val (.int (p1 &&& (3 : Int32))), .unset, .unset] [(.int (1 : Int32)), (.int (p1 &&& (3 : Int32)))]) _
                  by_cases hc827 : (p1 &&& (3 : Int32)) = (1 : Int32)
                  · refine own_step (fun t k => XS.icmpNo X714.here hx rfl (hb hby at_81) rfl (teq hc827).2 k) ?_
                    show own_Run p e below T714 (mkF m 84 #[.val (.int p0), .val (.int p1), .val (.int p2), .val (.ref b434), .val (.int (5 : Int32)), .val (.int (p1 &&& (3 : Int32))), .unset, .unset] []) _
                    refine own_step (fun t k => XS.iloadN X714.here hx rfl (hb hby at_84) rfl  k) ?_
                    show own_Run p e below T714 (mkF m 85 #[.val (.int p0), .val (.int p1), .val (.int p2), .val (.ref b434), .val (.int (5 : Int32)), .val (.int (p1 &&& (3 : Int32))), .unset, .unset] [(.int p2)]) _
                    refine own_step (fun t k => XS.bipush X714.here hx rfl (hb hby at_85) k) ?_
                    show own_Run p e below T714 (mkF m 87 #[.val (.int p0), .val (.int p1), .val (.int p2), .val (.ref b434), .val (.int (5 : Int32)), .val (.int (p1 &&& (3 : Int32))), .unset, .unset] [(.int (127 : Int32)), (.int p2)]) _
                    refine own_step (fun t k => XS.iand X714.here hx rfl (hb hby at_87) rfl k) ?_
                    show own_Run p e below T714 (mkF m 88 #[.val (.int p0), .val (.int p1), .val (.int p2), .val (.ref b434), .val (.int (5 : Int32)), .val (.int (p1 &&& (3 : Int32))), .unset, .unset] [(.int (p2 &&& (127 : Int32)))]) _
                    refine own_step (fun t k => XS.istore X714.here hx rfl (hb hby at_88) rfl (l' := #[.val (.int p0), .val (.int p1), .val (.int p2), .val (.ref b434), .val (.int (5 : Int32)), .val (.int (p1 &&& (3 : Int32))), .val (.int (p2 &&& (127 : Int32))), .unset]) rfl k) ?_
                    show own_Run p e below T714 (mkF m 90 #[.val (.int p0), .val (.int p1), .val (.int p2), .val (.ref b434), .val (.int (5 : Int32)), .val (.int (p1 &&& (3 : Int32))), .val (.int (p2 &&& (127 : Int32))), .unset] []) _
                    refine own_step (fun t k => XS.goto X714.here hx rfl (pc0 := 90) (pc' := 115) rfl (hb hby at_90) (by decide) (by decide) k) ?_
                    show own_Run p e below T714 (mkF m 115 #[.val (.int p0), .val (.int p1), .val (.int p2), .val (.ref b434), .val (.int (5 : Int32)), .val (.int (p1 &&& (3 : Int32))), .val (.int (p2 &&& (127 : Int32))), .unset] []) _
                    have hj0 : (own_f0_j115_L6 p1 p2) = (p2 &&& (127 : Int32)) := ((if_neg hc826).trans (if_pos hc827))
                    exact own_here (by rw [hj0])
                  · refine own_step (fun t k => XS.icmpYes X714.here hx rfl (pc0 := 81) (pc' := 93) rfl (hb hby at_81) rfl (feq hc827).2 (by decide) (by decide) k) ?_
                    show own_Run p e below T714 (mkF m 93 #[.val (.int p0), .val (.int p1), .val (.int p2), .val (.ref b434), .val (.int (5 : Int32)), .val (.int (p1 &&& (3 : Int32))), .unset, .unset] []) _
                    refine own_step (fun t k => XS.iload X714.here hx rfl (hb hby at_93) rfl  k) ?_
                    show own_Run p e below T714 (mkF m 95 #[.val (.int p0), .val (.int p1), .val (.int p2), .val (.ref b434), .val (.int (5 : Int32)), .val (.int (p1 &&& (3 : Int32))), .unset, .unset] [(.int (p1 &&& (3 : Int32)))]) _
                    refine own_step (fun t k => XS.iconst X714.here hx rfl (hb hby at_95) k) ?_
                    show own_Run p e below T714 (mkF m 96 #[.val (.int p0), .val (.int p1), .val (.int p2), .val (.ref b434), .val (.int (5 : Int32)), .val (.int (p1 &&& (3 : Int32))), .unset, .unset] [(.int (2 : Int32)), (.int (p1 &&& (3 : Int32)))]) _
                    by_cases hc828 : (p1 &&& (3 : Int32)) = (2 : Int32)
                    · refine own_step (fun t k => XS.icmpNo X714.here hx rfl (hb hby at_96) rfl (teq hc828).2 k) ?_
                      show own_Run p e below T714 (mkF m 99 #[.val (.int p0), .val (.int p1), .val (.int p2), .val (.ref b434), .val (.int (5 : Int32)), .val (.int (p1 &&& (3 : Int32))), .unset, .unset] []) _
                      refine own_step (fun t k => XS.iloadN X714.here hx rfl (hb hby at_99) rfl  k) ?_
                      show own_Run p e below T714 (mkF m 100 #[.val (.int p0), .val (.int p1), .val (.int p2), .val (.ref b434), .val (.int (5 : Int32)), .val (.int (p1 &&& (3 : Int32))), .unset, .unset] [(.int p2)]) _
                      refine own_step (fun t k => X714.ldcInt hx hown (mvT hZ (hw _ (List.mem_of_getElem? (i := 34) rfl))) (g := (mkF m 100 #[.val (.int p0), .val (.int p1), .val (.int p2), .val (.ref b434), .val (.int (5 : Int32)), .val (.int (p1 &&& (3 : Int32))), .unset, .unset] [(.int p2)])) rfl (hb hby at_100) t k) ?_
                      show own_Run p e below T714 (mkF m 102 #[.val (.int p0), .val (.int p1), .val (.int p2), .val (.ref b434), .val (.int (5 : Int32)), .val (.int (p1 &&& (3 : Int32))), .unset, .unset] [(.int (131071 : Int32)), (.int p2)]) _
                      refine own_step (fun t k => XS.iand X714.here hx rfl (hb hby at_102) rfl k) ?_
                      show own_Run p e below T714 (mkF m 103 #[.val (.int p0), .val (.int p1), .val (.int p2), .val (.ref b434), .val (.int (5 : Int32)), .val (.int (p1 &&& (3 : Int32))), .unset, .unset] [(.int (p2 &&& (131071 : Int32)))]) _
                      refine own_step (fun t k => XS.istore X714.here hx rfl (hb hby at_103) rfl (l' := #[.val (.int p0), .val (.int p1), .val (.int p2), .val (.ref b434), .val (.int (5 : Int32)), .val (.int (p1 &&& (3 : Int32))), .val (.int (own_f0_103 p2)), .unset]) rfl k) ?_
                      show own_Run p e below T714 (mkF m 105 #[.val (.int p0), .val (.int p1), .val (.int p2), .val (.ref b434), .val (.int (5 : Int32)), .val (.int (p1 &&& (3 : Int32))), .val (.int (own_f0_103 p2)), .unset] []) _
                      refine own_step (fun t k => XS.goto X714.here hx rfl (pc0 := 105) (pc' := 115) rfl (hb hby at_105) (by decide) (by decide) k) ?_
                      show own_Run p e below T714 (mkF m 115 #[.val (.int p0), .val (.int p1), .val (.int p2), .val (.ref b434), .val (.int (5 : Int32)), .val (.int (p1 &&& (3 : Int32))), .val (.int (own_f0_103 p2)), .unset] []) _
                      have hj0 : (own_f0_j115_L6 p1 p2) = (own_f0_103 p2) := ((if_neg hc826).trans ((if_neg hc827).trans (if_pos hc828)))
                      exact own_here (by rw [hj0])
                    · refine own_step (fun t k => XS.icmpYes X714.here hx rfl (pc0 := 96) (pc' := 108) rfl (hb hby at_96) rfl (feq hc828).2 (by decide) (by decide) k) ?_
                      show own_Run p e below T714 (mkF m 108 #[.val (.int p0), .val (.int p1), .val (.int p2), .val (.ref b434), .val (.int (5 : Int32)), .val (.int (p1 &&& (3 : Int32))), .unset, .unset] []) _
                      refine own_step (fun t k => XS.iloadN X714.here hx rfl (hb hby at_108) rfl  k) ?_
                      show own_Run p e below T714 (mkF m 109 #[.val (.int p0), .val (.int p1), .val (.int p2), .val (.ref b434), .val (.int (5 : Int32)), .val (.int (p1 &&& (3 : Int32))), .unset, .unset] [(.int p2)]) _
                      refine own_step (fun t k => XS.sipush X714.here hx rfl (hb hby at_109) k) ?_
                      show own_Run p e below T714 (mkF m 112 #[.val (.int p0), .val (.int p1), .val (.int p2), .val (.ref b434), .val (.int (5 : Int32)), .val (.int (p1 &&& (3 : Int32))), .unset, .unset] [(.int (255 : Int32)), (.int p2)]) _
                      refine own_step (fun t k => XS.iand X714.here hx rfl (hb hby at_112) rfl k) ?_
                      show own_Run p e below T714 (mkF m 113 #[.val (.int p0), .val (.int p1), .val (.int p2), .val (.ref b434), .val (.int (5 : Int32)), .val (.int (p1 &&& (3 : Int32))), .unset, .unset] [(.int (p2 &&& (255 : Int32)))]) _
                      refine own_step (fun t k => XS.istore X714.here hx rfl (hb hby at_113) rfl (l' := #[.val (.int p0), .val (.int p1), .val (.int p2), .val (.ref b434), .val (.int (5 : Int32)), .val (.int (p1 &&& (3 : Int32))), .val (.int (p2 &&& (255 : Int32))), .unset]) rfl k) ?_
                      show own_Run p e below T714 (mkF m 115 #[.val (.int p0), .val (.int p1), .val (.int p2), .val (.ref b434), .val (.int (5 : Int32)), .val (.int (p1 &&& (3 : Int32))), .val (.int (p2 &&& (255 : Int32))), .unset] []) _
                      have hj0 : (own_f0_j115_L6 p1 p2) = (p2 &&& (255 : Int32)) := ((if_neg hc826).trans ((if_neg hc827).trans (if_neg hc828)))
                      exact own_here (by rw [hj0])
              refine own_tr st825 ?_
              show own_Run p e below T714 (mkF m 115 #[.val (.int p0), .val (.int p1), .val (.int p2), .val (.ref b434), .val (.int (5 : Int32)), .val (.int (p1 &&& (3 : Int32))), .val (.int (own_f0_j115_L6 p1 p2)), .unset] []) _
              refine own_step (fun t k => XS.iload X714.here hx rfl (hb hby at_115) rfl  k) ?_
              show own_Run p e below T714 (mkF m 117 #[.val (.int p0), .val (.int p1), .val (.int p2), .val (.ref b434), .val (.int (5 : Int32)), .val (.int (p1 &&& (3 : Int32))), .val (.int (own_f0_j115_L6 p1 p2)), .unset] [(.int (own_f0_j115_L6 p1 p2))]) _
              obtain ⟨_, st829, T829, L829, rfl, X829, e829, N829⟩ : own_Run p e below T714 (mkF m 117 #[.val (.int p0), .val (.int p1), .val (.int p2), .val (.ref b434), .val (.int (5 : Int32)), .val (.int (p1 &&& (3 : Int32))), .val (.int (own_f0_j115_L6 p1 p2)), .unset] [(.int (own_f0_j115_L6 p1 p2))]) (fun t => ∃ (T' : State) (L' : List Loc) , t = T'.setTop (mkF m 151 #[.val (.int p0), .val (.int p1), .val (.int p2), .val (.ref b434), .val (.int (5 : Int32)), .val (.int (p1 &&& (3 : Int32))), .val (.int (own_f0_j115_L6 p1 p2)), .unset] [(.int (own_f0_j151_S0''''' p1 p2))]) ∧ Stand p l e room_1 s m #[(.int p0), (.int p1), (.int p2)] below meth c T' L' 1 8 ∧ T'.heap = h714 ∧ Fr n0 L') := by
                by_cases hc830 : (own_f0_j115_L6 p1 p2) < (0 : Int32)
                · refine own_step (fun t k => XS.ifYes X714.here hx rfl (pc0 := 117) (pc' := 150) rfl (hb hby at_117) rfl ((if0 _ _).trans (tlt hc830).1) (by decide) (by decide) k) ?_
                  show own_Run p e below T714 (mkF m 150 #[.val (.int p0), .val (.int p1), .val (.int p2), .val (.ref b434), .val (.int (5 : Int32)), .val (.int (p1 &&& (3 : Int32))), .val (.int (own_f0_j115_L6 p1 p2)), .unset] []) _
                  refine own_step (fun t k => XS.iconst X714.here hx rfl (hb hby at_150) k) ?_
                  show own_Run p e below T714 (mkF m 151 #[.val (.int p0), .val (.int p1), .val (.int p2), .val (.ref b434), .val (.int (5 : Int32)), .val (.int (p1 &&& (3 : Int32))), .val (.int (own_f0_j115_L6 p1 p2)), .unset] [(.int (0 : Int32))]) _
                  have hj0 : (own_f0_j151_S0''''' p1 p2) = (0 : Int32) := (if_pos hc830)
                  exact own_here ⟨T714, _, (by rw [hj0]), X714, e714, N714⟩
                · refine own_step (fun t k => XS.ifNo X714.here hx rfl (hb hby at_117) rfl ((if0 _ _).trans (flt hc830).1) k) ?_
                  show own_Run p e below T714 (mkF m 120 #[.val (.int p0), .val (.int p1), .val (.int p2), .val (.ref b434), .val (.int (5 : Int32)), .val (.int (p1 &&& (3 : Int32))), .val (.int (own_f0_j115_L6 p1 p2)), .unset] []) _
                  refine own_step (fun t k => XS.iload X714.here hx rfl (hb hby at_120) rfl  k) ?_
                  show own_Run p e below T714 (mkF m 122 #[.val (.int p0), .val (.int p1), .val (.int p2), .val (.ref b434), .val (.int (5 : Int32)), .val (.int (p1 &&& (3 : Int32))), .val (.int (own_f0_j115_L6 p1 p2)), .unset] [(.int (own_f0_j115_L6 p1 p2))]) _
                  refine own_step (fun t k => XS.sipush X714.here hx rfl (hb hby at_122) k) ?_
                  show own_Run p e below T714 (mkF m 125 #[.val (.int p0), .val (.int p1), .val (.int p2), .val (.ref b434), .val (.int (5 : Int32)), .val (.int (p1 &&& (3 : Int32))), .val (.int (own_f0_j115_L6 p1 p2)), .unset] [(.int (128 : Int32)), (.int (own_f0_j115_L6 p1 p2))]) _
                  by_cases hc831 : (own_f0_j115_L6 p1 p2) < (128 : Int32)
                  · refine own_step (fun t k => XS.icmpNo X714.here hx rfl (hb hby at_125) rfl (tlt hc831).2.1 k) ?_
                    show own_Run p e below T714 (mkF m 128 #[.val (.int p0), .val (.int p1), .val (.int p2), .val (.ref b434), .val (.int (5 : Int32)), .val (.int (p1 &&& (3 : Int32))), .val (.int (own_f0_j115_L6 p1 p2)), .unset] []) _
                    refine own_step (fun t k => XS.iload X714.here hx rfl (hb hby at_128) rfl  k) ?_
                    show own_Run p e below T714 (mkF m 130 #[.val (.int p0), .val (.int p1), .val (.int p2), .val (.ref b434), .val (.int (5 : Int32)), .val (.int (p1 &&& (3 : Int32))), .val (.int (own_f0_j115_L6 p1 p2)), .unset] [(.int (own_f0_j115_L6 p1 p2))]) _
                    obtain ⟨_, _, ⟨T832, L832, kq832, nq832⟩, -, X832, ⟨Lc832, hQ832, lq832, yq832, zq832⟩, st832⟩ := Jvm.LawKit.callS X714 hx (y := (⟨"com/example/fuxi/fuxi/model/PartKeepsPinLaw", "alnum", "(I)Z"⟩ : MethodName)) hown (mvT hZ (hw _ (List.mem_of_getElem? (i := 20) rfl))) (mvT hZ (hw _ (List.mem_of_getElem? (i := 21) rfl))) (mvT hZ (hw _ (List.mem_of_getElem? (i := 22) rfl))) (mvT hZ (hw _ (List.mem_of_getElem? (i := 23) rfl))) (by decide) (backOf (W := 0) (rm1 l Z av0 hw [] (own_f0_j115_L6 p1 p2) h714 n0 Zn714 ) hZ (hw _ (List.mem_of_getElem? (i := 23) rfl)) (hw _ (List.mem_of_getElem? (i := 22) rfl)) (by decide) (by decide)) (g := (mkF m 130 #[.val (.int p0), .val (.int p1), .val (.int p2), .val (.ref b434), .val (.int (5 : Int32)), .val (.int (p1 &&& (3 : Int32))), .val (.int (own_f0_j115_L6 p1 p2)), .unset] [(.int (own_f0_j115_L6 p1 p2))])) rfl (by rw [hml]; rfl) (argsL := [(.int (own_f0_j115_L6 p1 p2))]) (rest := []) (lenOf own_pd170 rfl) rfl (by show 2 * 0 + _ ≤ _; exact Nat.le_of_eq rfl) (hb hby at_130) (fun _ _ => ⟨rfl, e714, (by decide : 1 + 0 ≤ _), (by decide : 8 + 0 ≤ _)⟩)
                    dsimp only [Pt.U, Pt.locs, Pt.cells, Pt.slots] at X832 lq832 yq832 zq832 st832 hQ832
                    subst lq832 yq832 zq832
                    obtain ⟨rfl, N832q, e832⟩ := hQ832
                    have N832 := Fr.app N714 N832q
                    refine own_step st832 ?_
                    show own_Run p e below T832 (mkF m 133 #[.val (.int p0), .val (.int p1), .val (.int p2), .val (.ref b434), .val (.int (5 : Int32)), .val (.int (p1 &&& (3 : Int32))), .val (.int (own_f0_j115_L6 p1 p2)), .unset] [(.int (own_r1 (own_f0_j115_L6 p1 p2)))]) _
                    by_cases hc833 : (own_r1 (own_f0_j115_L6 p1 p2)) = (0 : Int32)
                    · refine own_step (fun t k => XS.ifNo X832.here hx rfl (hb hby at_133) rfl ((if0 _ _).trans (teq hc833).2) k) ?_
                      show own_Run p e below T832 (mkF m 136 #[.val (.int p0), .val (.int p1), .val (.int p2), .val (.ref b434), .val (.int (5 : Int32)), .val (.int (p1 &&& (3 : Int32))), .val (.int (own_f0_j115_L6 p1 p2)), .unset] []) _
                      refine own_step (fun t k => XS.iload X832.here hx rfl (hb hby at_136) rfl  k) ?_
                      show own_Run p e below T832 (mkF m 138 #[.val (.int p0), .val (.int p1), .val (.int p2), .val (.ref b434), .val (.int (5 : Int32)), .val (.int (p1 &&& (3 : Int32))), .val (.int (own_f0_j115_L6 p1 p2)), .unset] [(.int (5 : Int32))]) _
                      refine own_step (fun t k => XS.iload X832.here hx rfl (hb hby at_138) rfl  k) ?_
                      show own_Run p e below T832 (mkF m 140 #[.val (.int p0), .val (.int p1), .val (.int p2), .val (.ref b434), .val (.int (5 : Int32)), .val (.int (p1 &&& (3 : Int32))), .val (.int (own_f0_j115_L6 p1 p2)), .unset] [(.int (own_f0_j115_L6 p1 p2)), (.int (5 : Int32))]) _
                      obtain ⟨_, _, ⟨T834, L834, kq834, nq834⟩, -, X834, ⟨Lc834, hQ834, lq834, yq834, zq834⟩, st834⟩ := Jvm.LawKit.callS X832 hx (y := (⟨"com/example/fuxi/fuxi/model/PartKeepsPinLaw", "punct", "(II)Z"⟩ : MethodName)) hown (mvT hZ (hw _ (List.mem_of_getElem? (i := 24) rfl))) (mvT hZ (hw _ (List.mem_of_getElem? (i := 25) rfl))) (mvT hZ (hw _ (List.mem_of_getElem? (i := 22) rfl))) (mvT hZ (hw _ (List.mem_of_getElem? (i := 26) rfl))) (by decide) (backOf (W := 0) (rm2 l Z av0 hw [] (5 : Int32) (own_f0_j115_L6 p1 p2) h714 n0 Zn714 ) hZ (hw _ (List.mem_of_getElem? (i := 26) rfl)) (hw _ (List.mem_of_getElem? (i := 22) rfl)) (by decide) (by decide)) (g := (mkF m 140 #[.val (.int p0), .val (.int p1), .val (.int p2), .val (.ref b434), .val (.int (5 : Int32)), .val (.int (p1 &&& (3 : Int32))), .val (.int (own_f0_j115_L6 p1 p2)), .unset] [(.int (own_f0_j115_L6 p1 p2)), (.int (5 : Int32))])) rfl (by rw [hml]; rfl) (argsL := [(.int (5 : Int32)), (.int (own_f0_j115_L6 p1 p2))]) (rest := []) (lenOf own_pd171 rfl) rfl (by show 2 * 0 + _ ≤ _; exact Nat.le_of_eq rfl) (hb hby at_140) (fun _ _ => ⟨rfl, e832, (by decide : 1 + 0 ≤ _), (by decide : 8 + 0 ≤ _)⟩)
                      dsimp only [Pt.U, Pt.locs, Pt.cells, Pt.slots] at X834 lq834 yq834 zq834 st834 hQ834
                      subst lq834 yq834 zq834
                      obtain ⟨rfl, N834q, e834⟩ := hQ834
                      have N834 := Fr.app N832 N834q
                      refine own_step st834 ?_
                      show own_Run p e below T834 (mkF m 143 #[.val (.int p0), .val (.int p1), .val (.int p2), .val (.ref b434), .val (.int (5 : Int32)), .val (.int (p1 &&& (3 : Int32))), .val (.int (own_f0_j115_L6 p1 p2)), .unset] [(.int (own_r2 (5 : Int32) (own_f0_j115_L6 p1 p2)))]) _
                      by_cases hc835 : (own_r2 (5 : Int32) (own_f0_j115_L6 p1 p2)) = (0 : Int32)
                      · refine own_step (fun t k => XS.ifYes X834.here hx rfl (pc0 := 143) (pc' := 150) rfl (hb hby at_143) rfl ((if0 _ _).trans (teq hc835).1) (by decide) (by decide) k) ?_
                        show own_Run p e below T834 (mkF m 150 #[.val (.int p0), .val (.int p1), .val (.int p2), .val (.ref b434), .val (.int (5 : Int32)), .val (.int (p1 &&& (3 : Int32))), .val (.int (own_f0_j115_L6 p1 p2)), .unset] []) _
                        refine own_step (fun t k => XS.iconst X834.here hx rfl (hb hby at_150) k) ?_
                        show own_Run p e below T834 (mkF m 151 #[.val (.int p0), .val (.int p1), .val (.int p2), .val (.ref b434), .val (.int (5 : Int32)), .val (.int (p1 &&& (3 : Int32))), .val (.int (own_f0_j115_L6 p1 p2)), .unset] [(.int (0 : Int32))]) _
                        have hj0 : (own_f0_j151_S0''''' p1 p2) = (0 : Int32) := ((if_neg hc830).trans ((if_pos hc831).trans ((if_pos hc833).trans (if_pos hc835))))
                        exact own_here ⟨T834, _, (by rw [hj0]), X834, e834, N834⟩
                      · refine own_step (fun t k => XS.ifNo X834.here hx rfl (hb hby at_143) rfl ((if0 _ _).trans (feq hc835).1) k) ?_
                        show own_Run p e below T834 (mkF m 146 #[.val (.int p0), .val (.int p1), .val (.int p2), .val (.ref b434), .val (.int (5 : Int32)), .val (.int (p1 &&& (3 : Int32))), .val (.int (own_f0_j115_L6 p1 p2)), .unset] []) _
                        refine own_step (fun t k => XS.iconst X834.here hx rfl (hb hby at_146) k) ?_
                        show own_Run p e below T834 (mkF m 147 #[.val (.int p0), .val (.int p1), .val (.int p2), .val (.ref b434), .val (.int (5 : Int32)), .val (.int (p1 &&& (3 : Int32))), .val (.int (own_f0_j115_L6 p1 p2)), .unset] [(.int (1 : Int32))]) _
                        refine own_step (fun t k => XS.goto X834.here hx rfl (pc0 := 147) (pc' := 151) rfl (hb hby at_147) (by decide) (by decide) k) ?_
                        show own_Run p e below T834 (mkF m 151 #[.val (.int p0), .val (.int p1), .val (.int p2), .val (.ref b434), .val (.int (5 : Int32)), .val (.int (p1 &&& (3 : Int32))), .val (.int (own_f0_j115_L6 p1 p2)), .unset] [(.int (1 : Int32))]) _
                        have hj0 : (own_f0_j151_S0''''' p1 p2) = (1 : Int32) := ((if_neg hc830).trans ((if_pos hc831).trans ((if_pos hc833).trans (if_neg hc835))))
                        exact own_here ⟨T834, _, (by rw [hj0]), X834, e834, N834⟩
                    · refine own_step (fun t k => XS.ifYes X832.here hx rfl (pc0 := 133) (pc' := 146) rfl (hb hby at_133) rfl ((if0 _ _).trans (feq hc833).2) (by decide) (by decide) k) ?_
                      show own_Run p e below T832 (mkF m 146 #[.val (.int p0), .val (.int p1), .val (.int p2), .val (.ref b434), .val (.int (5 : Int32)), .val (.int (p1 &&& (3 : Int32))), .val (.int (own_f0_j115_L6 p1 p2)), .unset] []) _
                      refine own_step (fun t k => XS.iconst X832.here hx rfl (hb hby at_146) k) ?_
                      show own_Run p e below T832 (mkF m 147 #[.val (.int p0), .val (.int p1), .val (.int p2), .val (.ref b434), .val (.int (5 : Int32)), .val (.int (p1 &&& (3 : Int32))), .val (.int (own_f0_j115_L6 p1 p2)), .unset] [(.int (1 : Int32))]) _
                      refine own_step (fun t k => XS.goto X832.here hx rfl (pc0 := 147) (pc' := 151) rfl (hb hby at_147) (by decide) (by decide) k) ?_
                      show own_Run p e below T832 (mkF m 151 #[.val (.int p0), .val (.int p1), .val (.int p2), .val (.ref b434), .val (.int (5 : Int32)), .val (.int (p1 &&& (3 : Int32))), .val (.int (own_f0_j115_L6 p1 p2)), .unset] [(.int (1 : Int32))]) _
                      have hj0 : (own_f0_j151_S0''''' p1 p2) = (1 : Int32) := ((if_neg hc830).trans ((if_pos hc831).trans (if_neg hc833)))
                      exact own_here ⟨T832, _, (by rw [hj0]), X832, e832, N832⟩
                  · refine own_step (fun t k => XS.icmpYes X714.here hx rfl (pc0 := 125) (pc' := 150) rfl (hb hby at_125) rfl (flt hc831).2.1 (by decide) (by decide) k) ?_
                    show own_Run p e below T714 (mkF m 150 #[.val (.int p0), .val (.int p1), .val (.int p2), .val (.ref b434), .val (.int (5 : Int32)), .val (.int (p1 &&& (3 : Int32))), .val (.int (own_f0_j115_L6 p1 p2)), .unset] []) _
                    refine own_step (fun t k => XS.iconst X714.here hx rfl (hb hby at_150) k) ?_
                    show own_Run p e below T714 (mkF m 151 #[.val (.int p0), .val (.int p1), .val (.int p2), .val (.ref b434), .val (.int (5 : Int32)), .val (.int (p1 &&& (3 : Int32))), .val (.int (own_f0_j115_L6 p1 p2)), .unset] [(.int (0 : Int32))]) _
                    have hj0 : (own_f0_j151_S0''''' p1 p2) = (0 : Int32) := ((if_neg hc830).trans (if_neg hc831))
                    exact own_here ⟨T714, _, (by rw [hj0]), X714, e714, N714⟩
              refine own_tr st829 ?_
              show own_Run p e below T829 (mkF m 151 #[.val (.int p0), .val (.int p1), .val (.int p2), .val (.ref b434), .val (.int (5 : Int32)), .val (.int (p1 &&& (3 : Int32))), .val (.int (own_f0_j115_L6 p1 p2)), .unset] [(.int (own_f0_j151_S0''''' p1 p2))]) _
              refine own_step (fun t k => XS.istore X829.here hx rfl (hb hby at_151) rfl (l' := #[.val (.int p0), .val (.int p1), .val (.int p2), .val (.ref b434), .val (.int (5 : Int32)), .val (.int (p1 &&& (3 : Int32))), .val (.int (own_f0_j115_L6 p1 p2)), .val (.int (own_f0_151''' p1 p2))]) rfl k) ?_
              show own_Run p e below T829 (mkF m 153 #[.val (.int p0), .val (.int p1), .val (.int p2), .val (.ref b434), .val (.int (5 : Int32)), .val (.int (p1 &&& (3 : Int32))), .val (.int (own_f0_j115_L6 p1 p2)), .val (.int (own_f0_151''' p1 p2))] []) _
              refine own_step (fun t k => XS.aloadN X829.here hx rfl (hb hby at_153) rfl rfl k) ?_
              show own_Run p e below T829 (mkF m 154 #[.val (.int p0), .val (.int p1), .val (.int p2), .val (.ref b434), .val (.int (5 : Int32)), .val (.int (p1 &&& (3 : Int32))), .val (.int (own_f0_j115_L6 p1 p2)), .val (.int (own_f0_151''' p1 p2))] [(.ref b434)]) _
              refine own_step (fun t k => XS.iload X829.here hx rfl (hb hby at_154) rfl  k) ?_
              show own_Run p e below T829 (mkF m 156 #[.val (.int p0), .val (.int p1), .val (.int p2), .val (.ref b434), .val (.int (5 : Int32)), .val (.int (p1 &&& (3 : Int32))), .val (.int (own_f0_j115_L6 p1 p2)), .val (.int (own_f0_151''' p1 p2))] [(.int (5 : Int32)), (.ref b434)]) _
              refine own_step (own_ldR X829 hx hZ e829 V714x (j := (5 : Int32)) (v := (.ref w5)) ⟨by decide, by decide⟩ rfl (g := (mkF m 156 #[.val (.int p0), .val (.int p1), .val (.int p2), .val (.ref b434), .val (.int (5 : Int32)), .val (.int (p1 &&& (3 : Int32))), .val (.int (own_f0_j115_L6 p1 p2)), .val (.int (own_f0_151''' p1 p2))] [(.int (5 : Int32)), (.ref b434)])) rfl rfl (hb hby at_156)) ?_
              show own_Run p e below T829 (mkF m 157 #[.val (.int p0), .val (.int p1), .val (.int p2), .val (.ref b434), .val (.int (5 : Int32)), .val (.int (p1 &&& (3 : Int32))), .val (.int (own_f0_j115_L6 p1 p2)), .val (.int (own_f0_151''' p1 p2))] [(.ref w5)]) _
              refine own_step (fun t k => XS.iload X829.here hx rfl (hb hby at_157) rfl  k) ?_
              show own_Run p e below T829 (mkF m 159 #[.val (.int p0), .val (.int p1), .val (.int p2), .val (.ref b434), .val (.int (5 : Int32)), .val (.int (p1 &&& (3 : Int32))), .val (.int (own_f0_j115_L6 p1 p2)), .val (.int (own_f0_151''' p1 p2))] [(.int (own_f0_j115_L6 p1 p2)), (.ref w5)]) _
              obtain ⟨cq836, kq836, q836a, q836b, q836c⟩ := isOf hZ e829 f736
              obtain ⟨_, _, ⟨T836, L836, kq836, nq836⟩, -, X836, ⟨Lc836, hQ836, lq836, yq836, zq836⟩, st836⟩ := X829.virtualBack hx (y := (⟨"com/example/fuxi/fuxi/model/Part", "keeps", "(I)Z"⟩ : MethodName)) (z := (⟨"com/example/fuxi/fuxi/model/Part", "keeps", "(I)Z"⟩ : MethodName)) hown (mvT hZ (hw _ (List.mem_of_getElem? (i := 27) rfl))) (mvT hZ (hw _ (List.mem_of_getElem? (i := 28) rfl))) (notFace_of_selects (args := #[]) (mvT hZ (hw _ (List.mem_of_getElem? (i := 30) rfl)))) (mvT hZ (hw _ (List.mem_of_getElem? (i := 30) rfl))) (mvT hZ (hw _ (List.mem_of_getElem? (i := 29) rfl))) (by decide) (backOf (W := 0) (rm3 l Z av0 hw [] w5 (own_f0_j115_L6 p1 p2) (-5764607720602730496 : Int64) (5188146764422578175 : Int64) h714 n0 Zn714 f737 f738) hZ (hw _ (List.mem_of_getElem? (i := 31) rfl)) (hw _ (List.mem_of_getElem? (i := 3) rfl)) (by decide) (by decide)) q836a q836c (g := (mkF m 159 #[.val (.int p0), .val (.int p1), .val (.int p2), .val (.ref b434), .val (.int (5 : Int32)), .val (.int (p1 &&& (3 : Int32))), .val (.int (own_f0_j115_L6 p1 p2)), .val (.int (own_f0_151''' p1 p2))] [(.int (own_f0_j115_L6 p1 p2)), (.ref w5)])) rfl (by rw [hml]; rfl) (Steps.refl _) (argsL := [(.int (own_f0_j115_L6 p1 p2))]) (rest := []) (lenOf own_pd170 rfl) rfl (by show 2 * 0 + _ ≤ _; exact Nat.le_of_eq rfl) (hb hby at_159) (fun _ _ => ⟨rfl, e829, (by decide : 1 + 0 ≤ _), (by decide : 8 + 0 ≤ _)⟩)
              dsimp only [Pt.U, Pt.locs, Pt.cells, Pt.slots] at X836 lq836 yq836 zq836 st836 hQ836
              subst lq836 yq836 zq836
              obtain ⟨rfl, N836q, e836⟩ := hQ836
              have N836 := Fr.app N829 N836q
              refine own_tr st836 ?_
              show own_Run p e below T836 (mkF m 162 #[.val (.int p0), .val (.int p1), .val (.int p2), .val (.ref b434), .val (.int (5 : Int32)), .val (.int (p1 &&& (3 : Int32))), .val (.int (own_f0_j115_L6 p1 p2)), .val (.int (own_f0_151''' p1 p2))] [(.int (own_r3 (own_f0_j115_L6 p1 p2) (-5764607720602730496 : Int64) (5188146764422578175 : Int64)))]) _
              refine own_step (fun t k => XS.iload X836.here hx rfl (hb hby at_162) rfl  k) ?_
              show own_Run p e below T836 (mkF m 164 #[.val (.int p0), .val (.int p1), .val (.int p2), .val (.ref b434), .val (.int (5 : Int32)), .val (.int (p1 &&& (3 : Int32))), .val (.int (own_f0_j115_L6 p1 p2)), .val (.int (own_f0_151''' p1 p2))] [(.int (own_f0_151''' p1 p2)), (.int (own_r3 (own_f0_j115_L6 p1 p2) (-5764607720602730496 : Int64) (5188146764422578175 : Int64)))]) _
              obtain ⟨_, st837, rfl⟩ : own_Run p e below T836 (mkF m 164 #[.val (.int p0), .val (.int p1), .val (.int p2), .val (.ref b434), .val (.int (5 : Int32)), .val (.int (p1 &&& (3 : Int32))), .val (.int (own_f0_j115_L6 p1 p2)), .val (.int (own_f0_151''' p1 p2))] [(.int (own_f0_151''' p1 p2)), (.int (own_r3 (own_f0_j115_L6 p1 p2) (-5764607720602730496 : Int64) (5188146764422578175 : Int64)))]) (fun t => t = T836.setTop (mkF m 172 #[.val (.int p0), .val (.int p1), .val (.int p2), .val (.ref b434), .val (.int (5 : Int32)), .val (.int (p1 &&& (3 : Int32))), .val (.int (own_f0_j115_L6 p1 p2)), .val (.int (own_f0_151''' p1 p2))] [(.int (own_f0_j172_S0''''' p1 p2))])) := by
                by_cases hc838 : (own_r3 (own_f0_j115_L6 p1 p2) (-5764607720602730496 : Int64) (5188146764422578175 : Int64)) = (own_f0_151''' p1 p2)
                · refine own_step (fun t k => XS.icmpNo X836.here hx rfl (hb hby at_164) rfl (teq hc838).2 k) ?_
                  show own_Run p e below T836 (mkF m 167 #[.val (.int p0), .val (.int p1), .val (.int p2), .val (.ref b434), .val (.int (5 : Int32)), .val (.int (p1 &&& (3 : Int32))), .val (.int (own_f0_j115_L6 p1 p2)), .val (.int (own_f0_151''' p1 p2))] []) _
                  refine own_step (fun t k => XS.iconst X836.here hx rfl (hb hby at_167) k) ?_
                  show own_Run p e below T836 (mkF m 168 #[.val (.int p0), .val (.int p1), .val (.int p2), .val (.ref b434), .val (.int (5 : Int32)), .val (.int (p1 &&& (3 : Int32))), .val (.int (own_f0_j115_L6 p1 p2)), .val (.int (own_f0_151''' p1 p2))] [(.int (1 : Int32))]) _
                  refine own_step (fun t k => XS.goto X836.here hx rfl (pc0 := 168) (pc' := 172) rfl (hb hby at_168) (by decide) (by decide) k) ?_
                  show own_Run p e below T836 (mkF m 172 #[.val (.int p0), .val (.int p1), .val (.int p2), .val (.ref b434), .val (.int (5 : Int32)), .val (.int (p1 &&& (3 : Int32))), .val (.int (own_f0_j115_L6 p1 p2)), .val (.int (own_f0_151''' p1 p2))] [(.int (1 : Int32))]) _
                  have hj0 : (own_f0_j172_S0''''' p1 p2) = (1 : Int32) := (if_pos hc838)
                  exact own_here (by rw [hj0])
                · refine own_step (fun t k => XS.icmpYes X836.here hx rfl (pc0 := 164) (pc' := 171) rfl (hb hby at_164) rfl (feq hc838).2 (by decide) (by decide) k) ?_
                  show own_Run p e below T836 (mkF m 171 #[.val (.int p0), .val (.int p1), .val (.int p2), .val (.ref b434), .val (.int (5 : Int32)), .val (.int (p1 &&& (3 : Int32))), .val (.int (own_f0_j115_L6 p1 p2)), .val (.int (own_f0_151''' p1 p2))] []) _
                  refine own_step (fun t k => XS.iconst X836.here hx rfl (hb hby at_171) k) ?_
                  show own_Run p e below T836 (mkF m 172 #[.val (.int p0), .val (.int p1), .val (.int p2), .val (.ref b434), .val (.int (5 : Int32)), .val (.int (p1 &&& (3 : Int32))), .val (.int (own_f0_j115_L6 p1 p2)), .val (.int (own_f0_151''' p1 p2))] [(.int (0 : Int32))]) _
                  have hj0 : (own_f0_j172_S0''''' p1 p2) = (0 : Int32) := (if_neg hc838)
                  exact own_here (by rw [hj0])
              refine own_tr st837 ?_
              show own_Run p e below T836 (mkF m 172 #[.val (.int p0), .val (.int p1), .val (.int p2), .val (.ref b434), .val (.int (5 : Int32)), .val (.int (p1 &&& (3 : Int32))), .val (.int (own_f0_j115_L6 p1 p2)), .val (.int (own_f0_151''' p1 p2))] [(.int (own_f0_j172_S0''''' p1 p2))]) _
              exact own_retZ X836 hx hlk hret (hb hby at_172) (by decide) (by decide) N836 trivial
            · refine own_vi (if_neg hs752) ?_
              by_cases hs753 : (p0 &&& (7 : Int32)) = (6 : Int32)
              · refine own_vi (if_pos hs753) ?_
                rw [hs753]
                show own_Run p e below T714 (mkF m 60 #[.val (.int p0), .val (.int p1), .val (.int p2), .val (.ref b434), .unset, .unset, .unset, .unset] [(.int (6 : Int32))]) _
                refine own_step (fun t k => XS.istore X714.here hx rfl (hb hby at_60) rfl (l' := #[.val (.int p0), .val (.int p1), .val (.int p2), .val (.ref b434), .val (.int (6 : Int32)), .unset, .unset, .unset]) rfl k) ?_
                show own_Run p e below T714 (mkF m 62 #[.val (.int p0), .val (.int p1), .val (.int p2), .val (.ref b434), .val (.int (6 : Int32)), .unset, .unset, .unset] []) _
                refine own_step (fun t k => XS.iloadN X714.here hx rfl (hb hby at_62) rfl  k) ?_
                show own_Run p e below T714 (mkF m 63 #[.val (.int p0), .val (.int p1), .val (.int p2), .val (.ref b434), .val (.int (6 : Int32)), .unset, .unset, .unset] [(.int p1)]) _
                refine own_step (fun t k => XS.iconst X714.here hx rfl (hb hby at_63) k) ?_
                show own_Run p e below T714 (mkF m 64 #[.val (.int p0), .val (.int p1), .val (.int p2), .val (.ref b434), .val (.int (6 : Int32)), .unset, .unset, .unset] [(.int (3 : Int32)), (.int p1)]) _
                refine own_step (fun t k => XS.iand X714.here hx rfl (hb hby at_64) rfl k) ?_
                show own_Run p e below T714 (mkF m 65 #[.val (.int p0), .val (.int p1), .val (.int p2), .val (.ref b434), .val (.int (6 : Int32)), .unset, .unset, .unset] [(.int (p1 &&& (3 : Int32)))]) _
                refine own_step (fun t k => XS.istore X714.here hx rfl (hb hby at_65) rfl (l' := #[.val (.int p0), .val (.int p1), .val (.int p2), .val (.ref b434), .val (.int (6 : Int32)), .val (.int (p1 &&& (3 : Int32))), .unset, .unset]) rfl k) ?_
                show own_Run p e below T714 (mkF m 67 #[.val (.int p0), .val (.int p1), .val (.int p2), .val (.ref b434), .val (.int (6 : Int32)), .val (.int (p1 &&& (3 : Int32))), .unset, .unset] []) _
                refine own_step (fun t k => XS.iload X714.here hx rfl (hb hby at_67) rfl  k) ?_
                show own_Run p e below T714 (mkF m 69 #[.val (.int p0), .val (.int p1), .val (.int p2), .val (.ref b434), .val (.int (6 : Int32)), .val (.int (p1 &&& (3 : Int32))), .unset, .unset] [(.int (p1 &&& (3 : Int32)))]) _
                obtain ⟨_, st839, rfl⟩ : own_Run p e below T714 (mkF m 69 #[.val (.int p0), .val (.int p1), .val (.int p2), .val (.ref b434), .val (.int (6 : Int32)), .val (.int (p1 &&& (3 : Int32))), .unset, .unset] [(.int (p1 &&& (3 : Int32)))]) (fun t => t = T714.setTop (mkF m 115 #[.val (.int p0), .val (.int p1), .val (.int p2), .val (.ref b434), .val (.int (6 : Int32)), .val (.int (p1 &&& (3 : Int32))), .val (.int (own_f0_j115_L6 p1 p2)), .unset] [])) := by
                  by_cases hc840 : (p1 &&& (3 : Int32)) = (0 : Int32)
                  · refine own_step (fun t k => XS.ifNo X714.here hx rfl (hb hby at_69) rfl ((if0 _ _).trans (teq hc840).2) k) ?_
                    show own_Run p e below T714 (mkF m 72 #[.val (.int p0), .val (.int p1), .val (.int p2), .val (.ref b434), .val (.int (6 : Int32)), .val (.int (p1 &&& (3 : Int32))), .unset, .unset] []) _
                    refine own_step (fun t k => XS.iloadN X714.here hx rfl (hb hby at_72) rfl  k) ?_
                    show own_Run p e below T714 (mkF m 73 #[.val (.int p0), .val (.int p1), .val (.int p2), .val (.ref b434), .val (.int (6 : Int32)), .val (.int (p1 &&& (3 : Int32))), .unset, .unset] [(.int p2)]) _
                    refine own_step (fun t k => XS.istore X714.here hx rfl (hb hby at_73) rfl (l' := #[.val (.int p0), .val (.int p1), .val (.int p2), .val (.ref b434), .val (.int (6 : Int32)), .val (.int (p1 &&& (3 : Int32))), .val (.int p2), .unset]) rfl k) ?_
                    show own_Run p e below T714 (mkF m 75 #[.val (.int p0), .val (.int p1), .val (.int p2), .val (.ref b434), .val (.int (6 : Int32)), .val (.int (p1 &&& (3 : Int32))), .val (.int p2), .unset] []) _
                    refine own_step (fun t k => XS.goto X714.here hx rfl (pc0 := 75) (pc' := 115) rfl (hb hby at_75) (by decide) (by decide) k) ?_
                    show own_Run p e below T714 (mkF m 115 #[.val (.int p0), .val (.int p1), .val (.int p2), .val (.ref b434), .val (.int (6 : Int32)), .val (.int (p1 &&& (3 : Int32))), .val (.int p2), .unset] []) _
                    have hj0 : (own_f0_j115_L6 p1 p2) = p2 := (if_pos hc840)
                    exact own_here (by rw [hj0])
                  · refine own_step (fun t k => XS.ifYes X714.here hx rfl (pc0 := 69) (pc' := 78) rfl (hb hby at_69) rfl ((if0 _ _).trans (feq hc840).2) (by decide) (by decide) k) ?_
                    show own_Run p e below T714 (mkF m 78 #[.val (.int p0), .val (.int p1), .val (.int p2), .val (.ref b434), .val (.int (6 : Int32)), .val (.int (p1 &&& (3 : Int32))), .unset, .unset] []) _
                    refine own_step (fun t k => XS.iload X714.here hx rfl (hb hby at_78) rfl  k) ?_
                    show own_Run p e below T714 (mkF m 80 #[.val (.int p0), .val (.int p1), .val (.int p2), .val (.ref b434), .val (.int (6 : Int32)), .val (.int (p1 &&& (3 : Int32))), .unset, .unset] [(.int (p1 &&& (3 : Int32)))]) _
                    refine own_step (fun t k => XS.iconst X714.here hx rfl (hb hby at_80) k) ?_
                    show own_Run p e below T714 (mkF m 81 #[.val (.int p0), .val (.int p1), .val (.int p2), .val (.ref b434), .val (.int (6 : Int32)), .val (.int (p1 &&& (3 : Int32))), .unset, .unset] [(.int (1 : Int32)), (.int (p1 &&& (3 : Int32)))]) _
                    by_cases hc841 : (p1 &&& (3 : Int32)) = (1 : Int32)
                    · refine own_step (fun t k => XS.icmpNo X714.here hx rfl (hb hby at_81) rfl (teq hc841).2 k) ?_
                      show own_Run p e below T714 (mkF m 84 #[.val (.int p0), .val (.int p1), .val (.int p2), .val (.ref b434), .val (.int (6 : Int32)), .val (.int (p1 &&& (3 : Int32))), .unset, .unset] []) _
                      refine own_step (fun t k => XS.iloadN X714.here hx rfl (hb hby at_84) rfl  k) ?_
                      show own_Run p e below T714 (mkF m 85 #[.val (.int p0), .val (.int p1), .val (.int p2), .val (.ref b434), .val (.int (6 : Int32)), .val (.int (p1 &&& (3 : Int32))), .unset, .unset] [(.int p2)]) _
                      refine own_step (fun t k => XS.bipush X714.here hx rfl (hb hby at_85) k) ?_
                      show own_Run p e below T714 (mkF m 87 #[.val (.int p0), .val (.int p1), .val (.int p2), .val (.ref b434), .val (.int (6 : Int32)), .val (.int (p1 &&& (3 : Int32))), .unset, .unset] [(.int (127 : Int32)), (.int p2)]) _
                      refine own_step (fun t k => XS.iand X714.here hx rfl (hb hby at_87) rfl k) ?_
                      show own_Run p e below T714 (mkF m 88 #[.val (.int p0), .val (.int p1), .val (.int p2), .val (.ref b434), .val (.int (6 : Int32)), .val (.int (p1 &&& (3 : Int32))), .unset, .unset] [(.int (p2 &&& (127 : Int32)))]) _
                      refine own_step (fun t k => XS.istore X714.here hx rfl (hb hby at_88) rfl (l' := #[.val (.int p0), .val (.int p1), .val (.int p2), .val (.ref b434), .val (.int (6 : Int32)), .val (.int (p1 &&& (3 : Int32))), .val (.int (p2 &&& (127 : Int32))), .unset]) rfl k) ?_
                      show own_Run p e below T714 (mkF m 90 #[.val (.int p0), .val (.int p1), .val (.int p2), .val (.ref b434), .val (.int (6 : Int32)), .val (.int (p1 &&& (3 : Int32))), .val (.int (p2 &&& (127 : Int32))), .unset] []) _
                      refine own_step (fun t k => XS.goto X714.here hx rfl (pc0 := 90) (pc' := 115) rfl (hb hby at_90) (by decide) (by decide) k) ?_
                      show own_Run p e below T714 (mkF m 115 #[.val (.int p0), .val (.int p1), .val (.int p2), .val (.ref b434), .val (.int (6 : Int32)), .val (.int (p1 &&& (3 : Int32))), .val (.int (p2 &&& (127 : Int32))), .unset] []) _
                      have hj0 : (own_f0_j115_L6 p1 p2) = (p2 &&& (127 : Int32)) := ((if_neg hc840).trans (if_pos hc841))
                      exact own_here (by rw [hj0])
                    · refine own_step (fun t k => XS.icmpYes X714.here hx rfl (pc0 := 81) (pc' := 93) rfl (hb hby at_81) rfl (feq hc841).2 (by decide) (by decide) k) ?_
                      show own_Run p e below T714 (mkF m 93 #[.val (.int p0), .val (.int p1), .val (.int p2), .val (.ref b434), .val (.int (6 : Int32)), .val (.int (p1 &&& (3 : Int32))), .unset, .unset] []) _
                      refine own_step (fun t k => XS.iload X714.here hx rfl (hb hby at_93) rfl  k) ?_
                      show own_Run p e below T714 (mkF m 95 #[.val (.int p0), .val (.int p1), .val (.int p2), .val (.ref b434), .val (.int (6 : Int32)), .val (.int (p1 &&& (3 : Int32))), .unset, .unset] [(.int (p1 &&& (3 : Int32)))]) _
                      refine own_step (fun t k => XS.iconst X714.here hx rfl (hb hby at_95) k) ?_
                      show own_Run p e below T714 (mkF m 96 #[.val (.int p0), .val (.int p1), .val (.int p2), .val (.ref b434), .val (.int (6 : Int32)), .val (.int (p1 &&& (3 : Int32))), .unset, .unset] [(.int (2 : Int32)), (.int (p1 &&& (3 : Int32)))]) _
                      by_cases hc842 : (p1 &&& (3 : Int32)) = (2 : Int32)
                      · refine own_step (fun t k => XS.icmpNo X714.here hx rfl (hb hby at_96) rfl (teq hc842).2 k) ?_
                        show own_Run p e below T714 (mkF m 99 #[.val (.int p0), .val (.int p1), .val (.int p2), .val (.ref b434), .val (.int (6 : Int32)), .val (.int (p1 &&& (3 : Int32))), .unset, .unset] []) _
                        refine own_step (fun t k => XS.iloadN X714.here hx rfl (hb hby at_99) rfl  k) ?_
                        show own_Run p e below T714 (mkF m 100 #[.val (.int p0), .val (.int p1), .val (.int p2), .val (.ref b434), .val (.int (6 : Int32)), .val (.int (p1 &&& (3 : Int32))), .unset, .unset] [(.int p2)]) _
                        refine own_step (fun t k => X714.ldcInt hx hown (mvT hZ (hw _ (List.mem_of_getElem? (i := 34) rfl))) (g := (mkF m 100 #[.val (.int p0), .val (.int p1), .val (.int p2), .val (.ref b434), .val (.int (6 : Int32)), .val (.int (p1 &&& (3 : Int32))), .unset, .unset] [(.int p2)])) rfl (hb hby at_100) t k) ?_
                        show own_Run p e below T714 (mkF m 102 #[.val (.int p0), .val (.int p1), .val (.int p2), .val (.ref b434), .val (.int (6 : Int32)), .val (.int (p1 &&& (3 : Int32))), .unset, .unset] [(.int (131071 : Int32)), (.int p2)]) _
                        refine own_step (fun t k => XS.iand X714.here hx rfl (hb hby at_102) rfl k) ?_
                        show own_Run p e below T714 (mkF m 103 #[.val (.int p0), .val (.int p1), .val (.int p2), .val (.ref b434), .val (.int (6 : Int32)), .val (.int (p1 &&& (3 : Int32))), .unset, .unset] [(.int (p2 &&& (131071 : Int32)))]) _
                        refine own_step (fun t k => XS.istore X714.here hx rfl (hb hby at_103) rfl (l' := #[.val (.int p0), .val (.int p1), .val (.int p2), .val (.ref b434), .val (.int (6 : Int32)), .val (.int (p1 &&& (3 : Int32))), .val (.int (own_f0_103 p2)), .unset]) rfl k) ?_
                        show own_Run p e below T714 (mkF m 105 #[.val (.int p0), .val (.int p1), .val (.int p2), .val (.ref b434), .val (.int (6 : Int32)), .val (.int (p1 &&& (3 : Int32))), .val (.int (own_f0_103 p2)), .unset] []) _
                        refine own_step (fun t k => XS.goto X714.here hx rfl (pc0 := 105) (pc' := 115) rfl (hb hby at_105) (by decide) (by decide) k) ?_
                        show own_Run p e below T714 (mkF m 115 #[.val (.int p0), .val (.int p1), .val (.int p2), .val (.ref b434), .val (.int (6 : Int32)), .val (.int (p1 &&& (3 : Int32))), .val (.int (own_f0_103 p2)), .unset] []) _
                        have hj0 : (own_f0_j115_L6 p1 p2) = (own_f0_103 p2) := ((if_neg hc840).trans ((if_neg hc841).trans (if_pos hc842)))
                        exact own_here (by rw [hj0])
                      · refine own_step (fun t k => XS.icmpYes X714.here hx rfl (pc0 := 96) (pc' := 108) rfl (hb hby at_96) rfl (feq hc842).2 (by decide) (by decide) k) ?_
                        show own_Run p e below T714 (mkF m 108 #[.val (.int p0), .val (.int p1), .val (.int p2), .val (.ref b434), .val (.int (6 : Int32)), .val (.int (p1 &&& (3 : Int32))), .unset, .unset] []) _
                        refine own_step (fun t k => XS.iloadN X714.here hx rfl (hb hby at_108) rfl  k) ?_
                        show own_Run p e below T714 (mkF m 109 #[.val (.int p0), .val (.int p1), .val (.int p2), .val (.ref b434), .val (.int (6 : Int32)), .val (.int (p1 &&& (3 : Int32))), .unset, .unset] [(.int p2)]) _
                        refine own_step (fun t k => XS.sipush X714.here hx rfl (hb hby at_109) k) ?_
                        show own_Run p e below T714 (mkF m 112 #[.val (.int p0), .val (.int p1), .val (.int p2), .val (.ref b434), .val (.int (6 : Int32)), .val (.int (p1 &&& (3 : Int32))), .unset, .unset] [(.int (255 : Int32)), (.int p2)]) _
                        refine own_step (fun t k => XS.iand X714.here hx rfl (hb hby at_112) rfl k) ?_
                        show own_Run p e below T714 (mkF m 113 #[.val (.int p0), .val (.int p1), .val (.int p2), .val (.ref b434), .val (.int (6 : Int32)), .val (.int (p1 &&& (3 : Int32))), .unset, .unset] [(.int (p2 &&& (255 : Int32)))]) _
                        refine own_step (fun t k => XS.istore X714.here hx rfl (hb hby at_113) rfl (l' := #[.val (.int p0), .val (.int p1), .val (.int p2), .val (.ref b434), .val (.int (6 : Int32)), .val (.int (p1 &&& (3 : Int32))), .val (.int (p2 &&& (255 : Int32))), .unset]) rfl k) ?_
                        show own_Run p e below T714 (mkF m 115 #[.val (.int p0), .val (.int p1), .val (.int p2), .val (.ref b434), .val (.int (6 : Int32)), .val (.int (p1 &&& (3 : Int32))), .val (.int (p2 &&& (255 : Int32))), .unset] []) _
                        have hj0 : (own_f0_j115_L6 p1 p2) = (p2 &&& (255 : Int32)) := ((if_neg hc840).trans ((if_neg hc841).trans (if_neg hc842)))
                        exact own_here (by rw [hj0])
                refine own_tr st839 ?_
                show own_Run p e below T714 (mkF m 115 #[.val (.int p0), .val (.int p1), .val (.int p2), .val (.ref b434), .val (.int (6 : Int32)), .val (.int (p1 &&& (3 : Int32))), .val (.int (own_f0_j115_L6 p1 p2)), .unset] []) _
                refine own_step (fun t k => XS.iload X714.here hx rfl (hb hby at_115) rfl  k) ?_
                show own_Run p e below T714 (mkF m 117 #[.val (.int p0), .val (.int p1), .val (.int p2), .val (.ref b434), .val (.int (6 : Int32)), .val (.int (p1 &&& (3 : Int32))), .val (.int (own_f0_j115_L6 p1 p2)), .unset] [(.int (own_f0_j115_L6 p1 p2))]) _
                obtain ⟨_, st843, T843, L843, rfl, X843, e843, N843⟩ : own_Run p e below T714 (mkF m 117 #[.val (.int p0), .val (.int p1), .val (.int p2), .val (.ref b434), .val (.int (6 : Int32)), .val (.int (p1 &&& (3 : Int32))), .val (.int (own_f0_j115_L6 p1 p2)), .unset] [(.int (own_f0_j115_L6 p1 p2))]) (fun t => ∃ (T' : State) (L' : List Loc) , t = T'.setTop (mkF m 151 #[.val (.int p0), .val (.int p1), .val (.int p2), .val (.ref b434), .val (.int (6 : Int32)), .val (.int (p1 &&& (3 : Int32))), .val (.int (own_f0_j115_L6 p1 p2)), .unset] [(.int (own_f0_j151_S0'''''' p1 p2))]) ∧ Stand p l e room_1 s m #[(.int p0), (.int p1), (.int p2)] below meth c T' L' 1 8 ∧ T'.heap = h714 ∧ Fr n0 L') := by
                  by_cases hc844 : (own_f0_j115_L6 p1 p2) < (0 : Int32)
                  · refine own_step (fun t k => XS.ifYes X714.here hx rfl (pc0 := 117) (pc' := 150) rfl (hb hby at_117) rfl ((if0 _ _).trans (tlt hc844).1) (by decide) (by decide) k) ?_
                    show own_Run p e below T714 (mkF m 150 #[.val (.int p0), .val (.int p1), .val (.int p2), .val (.ref b434), .val (.int (6 : Int32)), .val (.int (p1 &&& (3 : Int32))), .val (.int (own_f0_j115_L6 p1 p2)), .unset] []) _
                    refine own_step (fun t k => XS.iconst X714.here hx rfl (hb hby at_150) k) ?_
                    show own_Run p e below T714 (mkF m 151 #[.val (.int p0), .val (.int p1), .val (.int p2), .val (.ref b434), .val (.int (6 : Int32)), .val (.int (p1 &&& (3 : Int32))), .val (.int (own_f0_j115_L6 p1 p2)), .unset] [(.int (0 : Int32))]) _
                    have hj0 : (own_f0_j151_S0'''''' p1 p2) = (0 : Int32) := (if_pos hc844)
                    exact own_here ⟨T714, _, (by rw [hj0]), X714, e714, N714⟩
                  · refine own_step (fun t k => XS.ifNo X714.here hx rfl (hb hby at_117) rfl ((if0 _ _).trans (flt hc844).1) k) ?_
                    show own_Run p e below T714 (mkF m 120 #[.val (.int p0), .val (.int p1), .val (.int p2), .val (.ref b434), .val (.int (6 : Int32)), .val (.int (p1 &&& (3 : Int32))), .val (.int (own_f0_j115_L6 p1 p2)), .unset] []) _
                    refine own_step (fun t k => XS.iload X714.here hx rfl (hb hby at_120) rfl  k) ?_
                    show own_Run p e below T714 (mkF m 122 #[.val (.int p0), .val (.int p1), .val (.int p2), .val (.ref b434), .val (.int (6 : Int32)), .val (.int (p1 &&& (3 : Int32))), .val (.int (own_f0_j115_L6 p1 p2)), .unset] [(.int (own_f0_j115_L6 p1 p2))]) _
                    refine own_step (fun t k => XS.sipush X714.here hx rfl (hb hby at_122) k) ?_
                    show own_Run p e below T714 (mkF m 125 #[.val (.int p0), .val (.int p1), .val (.int p2), .val (.ref b434), .val (.int (6 : Int32)), .val (.int (p1 &&& (3 : Int32))), .val (.int (own_f0_j115_L6 p1 p2)), .unset] [(.int (128 : Int32)), (.int (own_f0_j115_L6 p1 p2))]) _
                    by_cases hc845 : (own_f0_j115_L6 p1 p2) < (128 : Int32)
                    · refine own_step (fun t k => XS.icmpNo X714.here hx rfl (hb hby at_125) rfl (tlt hc845).2.1 k) ?_
                      show own_Run p e below T714 (mkF m 128 #[.val (.int p0), .val (.int p1), .val (.int p2), .val (.ref b434), .val (.int (6 : Int32)), .val (.int (p1 &&& (3 : Int32))), .val (.int (own_f0_j115_L6 p1 p2)), .unset] []) _
                      refine own_step (fun t k => XS.iload X714.here hx rfl (hb hby at_128) rfl  k) ?_
                      show own_Run p e below T714 (mkF m 130 #[.val (.int p0), .val (.int p1), .val (.int p2), .val (.ref b434), .val (.int (6 : Int32)), .val (.int (p1 &&& (3 : Int32))), .val (.int (own_f0_j115_L6 p1 p2)), .unset] [(.int (own_f0_j115_L6 p1 p2))]) _
                      obtain ⟨_, _, ⟨T846, L846, kq846, nq846⟩, -, X846, ⟨Lc846, hQ846, lq846, yq846, zq846⟩, st846⟩ := Jvm.LawKit.callS X714 hx (y := (⟨"com/example/fuxi/fuxi/model/PartKeepsPinLaw", "alnum", "(I)Z"⟩ : MethodName)) hown (mvT hZ (hw _ (List.mem_of_getElem? (i := 20) rfl))) (mvT hZ (hw _ (List.mem_of_getElem? (i := 21) rfl))) (mvT hZ (hw _ (List.mem_of_getElem? (i := 22) rfl))) (mvT hZ (hw _ (List.mem_of_getElem? (i := 23) rfl))) (by decide) (backOf (W := 0) (rm1 l Z av0 hw [] (own_f0_j115_L6 p1 p2) h714 n0 Zn714 ) hZ (hw _ (List.mem_of_getElem? (i := 23) rfl)) (hw _ (List.mem_of_getElem? (i := 22) rfl)) (by decide) (by decide)) (g := (mkF m 130 #[.val (.int p0), .val (.int p1), .val (.int p2), .val (.ref b434), .val (.int (6 : Int32)), .val (.int (p1 &&& (3 : Int32))), .val (.int (own_f0_j115_L6 p1 p2)), .unset] [(.int (own_f0_j115_L6 p1 p2))])) rfl (by rw [hml]; rfl) (argsL := [(.int (own_f0_j115_L6 p1 p2))]) (rest := []) (lenOf own_pd170 rfl) rfl (by show 2 * 0 + _ ≤ _; exact Nat.le_of_eq rfl) (hb hby at_130) (fun _ _ => ⟨rfl, e714, (by decide : 1 + 0 ≤ _), (by decide : 8 + 0 ≤ _)⟩)
                      dsimp only [Pt.U, Pt.locs, Pt.cells, Pt.slots] at X846 lq846 yq846 zq846 st846 hQ846
                      subst lq846 yq846 zq846
                      obtain ⟨rfl, N846q, e846⟩ := hQ846
                      have N846 := Fr.app N714 N846q
                      refine own_step st846 ?_
                      show own_Run p e below T846 (mkF m 133 #[.val (.int p0), .val (.int p1), .val (.int p2), .val (.ref b434), .val (.int (6 : Int32)), .val (.int (p1 &&& (3 : Int32))), .val (.int (own_f0_j115_L6 p1 p2)), .unset] [(.int (own_r1 (own_f0_j115_L6 p1 p2)))]) _
                      by_cases hc847 : (own_r1 (own_f0_j115_L6 p1 p2)) = (0 : Int32)
                      · refine own_step (fun t k => XS.ifNo X846.here hx rfl (hb hby at_133) rfl ((if0 _ _).trans (teq hc847).2) k) ?_
                        show own_Run p e below T846 (mkF m 136 #[.val (.int p0), .val (.int p1), .val (.int p2), .val (.ref b434), .val (.int (6 : Int32)), .val (.int (p1 &&& (3 : Int32))), .val (.int (own_f0_j115_L6 p1 p2)), .unset] []) _
                        refine own_step (fun t k => XS.iload X846.here hx rfl (hb hby at_136) rfl  k) ?_
                        show own_Run p e below T846 (mkF m 138 #[.val (.int p0), .val (.int p1), .val (.int p2), .val (.ref b434), .val (.int (6 : Int32)), .val (.int (p1 &&& (3 : Int32))), .val (.int (own_f0_j115_L6 p1 p2)), .unset] [(.int (6 : Int32))]) _
                        refine own_step (fun t k => XS.iload X846.here hx rfl (hb hby at_138) rfl  k) ?_
                        show own_Run p e below T846 (mkF m 140 #[.val (.int p0), .val (.int p1), .val (.int p2), .val (.ref b434), .val (.int (6 : Int32)), .val (.int (p1 &&& (3 : Int32))), .val (.int (own_f0_j115_L6 p1 p2)), .unset] [(.int (own_f0_j115_L6 p1 p2)), (.int (6 : Int32))]) _
                        obtain ⟨_, _, ⟨T848, L848, kq848, nq848⟩, -, X848, ⟨Lc848, hQ848, lq848, yq848, zq848⟩, st848⟩ := Jvm.LawKit.callS X846 hx (y := (⟨"com/example/fuxi/fuxi/model/PartKeepsPinLaw", "punct", "(II)Z"⟩ : MethodName)) hown (mvT hZ (hw _ (List.mem_of_getElem? (i := 24) rfl))) (mvT hZ (hw _ (List.mem_of_getElem? (i := 25) rfl))) (mvT hZ (hw _ (List.mem_of_getElem? (i := 22) rfl))) (mvT hZ (hw _ (List.mem_of_getElem? (i := 26) rfl))) (by decide) (backOf (W := 0) (rm2 l Z av0 hw [] (6 : Int32) (own_f0_j115_L6 p1 p2) h714 n0 Zn714 ) hZ (hw _ (List.mem_of_getElem? (i := 26) rfl)) (hw _ (List.mem_of_getElem? (i := 22) rfl)) (by decide) (by decide)) (g := (mkF m 140 #[.val (.int p0), .val (.int p1), .val (.int p2), .val (.ref b434), .val (.int (6 : Int32)), .val (.int (p1 &&& (3 : Int32))), .val (.int (own_f0_j115_L6 p1 p2)), .unset] [(.int (own_f0_j115_L6 p1 p2)), (.int (6 : Int32))])) rfl (by rw [hml]; rfl) (argsL := [(.int (6 : Int32)), (.int (own_f0_j115_L6 p1 p2))]) (rest := []) (lenOf own_pd171 rfl) rfl (by show 2 * 0 + _ ≤ _; exact Nat.le_of_eq rfl) (hb hby at_140) (fun _ _ => ⟨rfl, e846, (by decide : 1 + 0 ≤ _), (by decide : 8 + 0 ≤ _)⟩)
                        dsimp only [Pt.U, Pt.locs, Pt.cells, Pt.slots] at X848 lq848 yq848 zq848 st848 hQ848
                        subst lq848 yq848 zq848
                        obtain ⟨rfl, N848q, e848⟩ := hQ848
                        have N848 := Fr.app N846 N848q
                        refine own_step st848 ?_
                        show own_Run p e below T848 (mkF m 143 #[.val (.int p0), .val (.int p1), .val (.int p2), .val (.ref b434), .val (.int (6 : Int32)), .val (.int (p1 &&& (3 : Int32))), .val (.int (own_f0_j115_L6 p1 p2)), .unset] [(.int (own_r2 (6 : Int32) (own_f0_j115_L6 p1 p2)))]) _
                        by_cases hc849 : (own_r2 (6 : Int32) (own_f0_j115_L6 p1 p2)) = (0 : Int32)
                        · refine own_step (fun t k => XS.ifYes X848.here hx rfl (pc0 := 143) (pc' := 150) rfl (hb hby at_143) rfl ((if0 _ _).trans (teq hc849).1) (by decide) (by decide) k) ?_
                          show own_Run p e below T848 (mkF m 150 #[.val (.int p0), .val (.int p1), .val (.int p2), .val (.ref b434), .val (.int (6 : Int32)), .val (.int (p1 &&& (3 : Int32))), .val (.int (own_f0_j115_L6 p1 p2)), .unset] []) _
                          refine own_step (fun t k => XS.iconst X848.here hx rfl (hb hby at_150) k) ?_
                          show own_Run p e below T848 (mkF m 151 #[.val (.int p0), .val (.int p1), .val (.int p2), .val (.ref b434), .val (.int (6 : Int32)), .val (.int (p1 &&& (3 : Int32))), .val (.int (own_f0_j115_L6 p1 p2)), .unset] [(.int (0 : Int32))]) _
                          have hj0 : (own_f0_j151_S0'''''' p1 p2) = (0 : Int32) := ((if_neg hc844).trans ((if_pos hc845).trans ((if_pos hc847).trans (if_pos hc849))))
                          exact own_here ⟨T848, _, (by rw [hj0]), X848, e848, N848⟩
                        · refine own_step (fun t k => XS.ifNo X848.here hx rfl (hb hby at_143) rfl ((if0 _ _).trans (feq hc849).1) k) ?_
                          show own_Run p e below T848 (mkF m 146 #[.val (.int p0), .val (.int p1), .val (.int p2), .val (.ref b434), .val (.int (6 : Int32)), .val (.int (p1 &&& (3 : Int32))), .val (.int (own_f0_j115_L6 p1 p2)), .unset] []) _
                          refine own_step (fun t k => XS.iconst X848.here hx rfl (hb hby at_146) k) ?_
                          show own_Run p e below T848 (mkF m 147 #[.val (.int p0), .val (.int p1), .val (.int p2), .val (.ref b434), .val (.int (6 : Int32)), .val (.int (p1 &&& (3 : Int32))), .val (.int (own_f0_j115_L6 p1 p2)), .unset] [(.int (1 : Int32))]) _
                          refine own_step (fun t k => XS.goto X848.here hx rfl (pc0 := 147) (pc' := 151) rfl (hb hby at_147) (by decide) (by decide) k) ?_
                          show own_Run p e below T848 (mkF m 151 #[.val (.int p0), .val (.int p1), .val (.int p2), .val (.ref b434), .val (.int (6 : Int32)), .val (.int (p1 &&& (3 : Int32))), .val (.int (own_f0_j115_L6 p1 p2)), .unset] [(.int (1 : Int32))]) _
                          have hj0 : (own_f0_j151_S0'''''' p1 p2) = (1 : Int32) := ((if_neg hc844).trans ((if_pos hc845).trans ((if_pos hc847).trans (if_neg hc849))))
                          exact own_here ⟨T848, _, (by rw [hj0]), X848, e848, N848⟩
                      · refine own_step (fun t k => XS.ifYes X846.here hx rfl (pc0 := 133) (pc' := 146) rfl (hb hby at_133) rfl ((if0 _ _).trans (feq hc847).2) (by decide) (by decide) k) ?_
                        show own_Run p e below T846 (mkF m 146 #[.val (.int p0), .val (.int p1), .val (.int p2), .val (.ref b434), .val (.int (6 : Int32)), .val (.int (p1 &&& (3 : Int32))), .val (.int (own_f0_j115_L6 p1 p2)), .unset] []) _
                        refine own_step (fun t k => XS.iconst X846.here hx rfl (hb hby at_146) k) ?_
                        show own_Run p e below T846 (mkF m 147 #[.val (.int p0), .val (.int p1), .val (.int p2), .val (.ref b434), .val (.int (6 : Int32)), .val (.int (p1 &&& (3 : Int32))), .val (.int (own_f0_j115_L6 p1 p2)), .unset] [(.int (1 : Int32))]) _
                        refine own_step (fun t k => XS.goto X846.here hx rfl (pc0 := 147) (pc' := 151) rfl (hb hby at_147) (by decide) (by decide) k) ?_
                        show own_Run p e below T846 (mkF m 151 #[.val (.int p0), .val (.int p1), .val (.int p2), .val (.ref b434), .val (.int (6 : Int32)), .val (.int (p1 &&& (3 : Int32))), .val (.int (own_f0_j115_L6 p1 p2)), .unset] [(.int (1 : Int32))]) _
                        have hj0 : (own_f0_j151_S0'''''' p1 p2) = (1 : Int32) := ((if_neg hc844).trans ((if_pos hc845).trans (if_neg hc847)))
                        exact own_here ⟨T846, _, (by rw [hj0]), X846, e846, N846⟩
                    · refine own_step (fun t k => XS.icmpYes X714.here hx rfl (pc0 := 125) (pc' := 150) rfl (hb hby at_125) rfl (flt hc845).2.1 (by decide) (by decide) k) ?_
                      show own_Run p e below T714 (mkF m 150 #[.val (.int p0), .val (.int p1), .val (.int p2), .val (.ref b434), .val (.int (6 : Int32)), .val (.int (p1 &&& (3 : Int32))), .val (.int (own_f0_j115_L6 p1 p2)), .unset] []) _
                      refine own_step (fun t k => XS.iconst X714.here hx rfl (hb hby at_150) k) ?_
                      show own_Run p e below T714 (mkF m 151 #[.val (.int p0), .val (.int p1), .val (.int p2), .val (.ref b434), .val (.int (6 : Int32)), .val (.int (p1 &&& (3 : Int32))), .val (.int (own_f0_j115_L6 p1 p2)), .unset] [(.int (0 : Int32))]) _
                      have hj0 : (own_f0_j151_S0'''''' p1 p2) = (0 : Int32) := ((if_neg hc844).trans (if_neg hc845))
                      exact own_here ⟨T714, _, (by rw [hj0]), X714, e714, N714⟩
                refine own_tr st843 ?_
                show own_Run p e below T843 (mkF m 151 #[.val (.int p0), .val (.int p1), .val (.int p2), .val (.ref b434), .val (.int (6 : Int32)), .val (.int (p1 &&& (3 : Int32))), .val (.int (own_f0_j115_L6 p1 p2)), .unset] [(.int (own_f0_j151_S0'''''' p1 p2))]) _
                refine own_step (fun t k => XS.istore X843.here hx rfl (hb hby at_151) rfl (l' := #[.val (.int p0), .val (.int p1), .val (.int p2), .val (.ref b434), .val (.int (6 : Int32)), .val (.int (p1 &&& (3 : Int32))), .val (.int (own_f0_j115_L6 p1 p2)), .val (.int (own_f0_151'''' p1 p2))]) rfl k) ?_
                show own_Run p e below T843 (mkF m 153 #[.val (.int p0), .val (.int p1), .val (.int p2), .val (.ref b434), .val (.int (6 : Int32)), .val (.int (p1 &&& (3 : Int32))), .val (.int (own_f0_j115_L6 p1 p2)), .val (.int (own_f0_151'''' p1 p2))] []) _
                refine own_step (fun t k => XS.aloadN X843.here hx rfl (hb hby at_153) rfl rfl k) ?_
                show own_Run p e below T843 (mkF m 154 #[.val (.int p0), .val (.int p1), .val (.int p2), .val (.ref b434), .val (.int (6 : Int32)), .val (.int (p1 &&& (3 : Int32))), .val (.int (own_f0_j115_L6 p1 p2)), .val (.int (own_f0_151'''' p1 p2))] [(.ref b434)]) _
                refine own_step (fun t k => XS.iload X843.here hx rfl (hb hby at_154) rfl  k) ?_
                show own_Run p e below T843 (mkF m 156 #[.val (.int p0), .val (.int p1), .val (.int p2), .val (.ref b434), .val (.int (6 : Int32)), .val (.int (p1 &&& (3 : Int32))), .val (.int (own_f0_j115_L6 p1 p2)), .val (.int (own_f0_151'''' p1 p2))] [(.int (6 : Int32)), (.ref b434)]) _
                refine own_step (own_ldR X843 hx hZ e843 V714x (j := (6 : Int32)) (v := (.ref w6)) ⟨by decide, by decide⟩ rfl (g := (mkF m 156 #[.val (.int p0), .val (.int p1), .val (.int p2), .val (.ref b434), .val (.int (6 : Int32)), .val (.int (p1 &&& (3 : Int32))), .val (.int (own_f0_j115_L6 p1 p2)), .val (.int (own_f0_151'''' p1 p2))] [(.int (6 : Int32)), (.ref b434)])) rfl rfl (hb hby at_156)) ?_
                show own_Run p e below T843 (mkF m 157 #[.val (.int p0), .val (.int p1), .val (.int p2), .val (.ref b434), .val (.int (6 : Int32)), .val (.int (p1 &&& (3 : Int32))), .val (.int (own_f0_j115_L6 p1 p2)), .val (.int (own_f0_151'''' p1 p2))] [(.ref w6)]) _
                refine own_step (fun t k => XS.iload X843.here hx rfl (hb hby at_157) rfl  k) ?_
                show own_Run p e below T843 (mkF m 159 #[.val (.int p0), .val (.int p1), .val (.int p2), .val (.ref b434), .val (.int (6 : Int32)), .val (.int (p1 &&& (3 : Int32))), .val (.int (own_f0_j115_L6 p1 p2)), .val (.int (own_f0_151'''' p1 p2))] [(.int (own_f0_j115_L6 p1 p2)), (.ref w6)]) _
                obtain ⟨cq850, kq850, q850a, q850b, q850c⟩ := isOf hZ e843 f740
                obtain ⟨_, _, ⟨T850, L850, kq850, nq850⟩, -, X850, ⟨Lc850, hQ850, lq850, yq850, zq850⟩, st850⟩ := X843.virtualBack hx (y := (⟨"com/example/fuxi/fuxi/model/Part", "keeps", "(I)Z"⟩ : MethodName)) (z := (⟨"com/example/fuxi/fuxi/model/Part", "keeps", "(I)Z"⟩ : MethodName)) hown (mvT hZ (hw _ (List.mem_of_getElem? (i := 27) rfl))) (mvT hZ (hw _ (List.mem_of_getElem? (i := 28) rfl))) (notFace_of_selects (args := #[]) (mvT hZ (hw _ (List.mem_of_getElem? (i := 30) rfl)))) (mvT hZ (hw _ (List.mem_of_getElem? (i := 30) rfl))) (mvT hZ (hw _ (List.mem_of_getElem? (i := 29) rfl))) (by decide) (backOf (W := 0) (rm3 l Z av0 hw [] w6 (own_f0_j115_L6 p1 p2) (3170393202611978240 : Int64) (5188146764422578174 : Int64) h714 n0 Zn714 f741 f742) hZ (hw _ (List.mem_of_getElem? (i := 31) rfl)) (hw _ (List.mem_of_getElem? (i := 3) rfl)) (by decide) (by decide)) q850a q850c (g := (mkF m 159 #[.val (.int p0), .val (.int p1), .val (.int p2), .val (.ref b434), .val (.int (6 : Int32)), .val (.int (p1 &&& (3 : Int32))), .val (.int (own_f0_j115_L6 p1 p2)), .val (.int (own_f0_151'''' p1 p2))] [(.int (own_f0_j115_L6 p1 p2)), (.ref w6)])) rfl (by rw [hml]; rfl) (Steps.refl _) (argsL := [(.int (own_f0_j115_L6 p1 p2))]) (rest := []) (lenOf own_pd170 rfl) rfl (by show 2 * 0 + _ ≤ _; exact Nat.le_of_eq rfl) (hb hby at_159) (fun _ _ => ⟨rfl, e843, (by decide : 1 + 0 ≤ _), (by decide : 8 + 0 ≤ _)⟩)
                dsimp only [Pt.U, Pt.locs, Pt.cells, Pt.slots] at X850 lq850 yq850 zq850 st850 hQ850
                subst lq850 yq850 zq850
                obtain ⟨rfl, N850q, e850⟩ := hQ850
                have N850 := Fr.app N843 N850q
                refine own_tr st850 ?_
                show own_Run p e below T850 (mkF m 162 #[.val (.int p0), .val (.int p1), .val (.int p2), .val (.ref b434), .val (.int (6 : Int32)), .val (.int (p1 &&& (3 : Int32))), .val (.int (own_f0_j115_L6 p1 p2)), .val (.int (own_f0_151'''' p1 p2))] [(.int (own_r3 (own_f0_j115_L6 p1 p2) (3170393202611978240 : Int64) (5188146764422578174 : Int64)))]) _
                refine own_step (fun t k => XS.iload X850.here hx rfl (hb hby at_162) rfl  k) ?_
                show own_Run p e below T850 (mkF m 164 #[.val (.int p0), .val (.int p1), .val (.int p2), .val (.ref b434), .val (.int (6 : Int32)), .val (.int (p1 &&& (3 : Int32))), .val (.int (own_f0_j115_L6 p1 p2)), .val (.int (own_f0_151'''' p1 p2))] [(.int (own_f0_151'''' p1 p2)), (.int (own_r3 (own_f0_j115_L6 p1 p2) (3170393202611978240 : Int64) (5188146764422578174 : Int64)))]) _
                obtain ⟨_, st851, rfl⟩ : own_Run p e below T850 (mkF m 164 #[.val (.int p0), .val (.int p1), .val (.int p2), .val (.ref b434), .val (.int (6 : Int32)), .val (.int (p1 &&& (3 : Int32))), .val (.int (own_f0_j115_L6 p1 p2)), .val (.int (own_f0_151'''' p1 p2))] [(.int (own_f0_151'''' p1 p2)), (.int (own_r3 (own_f0_j115_L6 p1 p2) (3170393202611978240 : Int64) (5188146764422578174 : Int64)))]) (fun t => t = T850.setTop (mkF m 172 #[.val (.int p0), .val (.int p1), .val (.int p2), .val (.ref b434), .val (.int (6 : Int32)), .val (.int (p1 &&& (3 : Int32))), .val (.int (own_f0_j115_L6 p1 p2)), .val (.int (own_f0_151'''' p1 p2))] [(.int (own_f0_j172_S0'''''' p1 p2))])) := by
                  by_cases hc852 : (own_r3 (own_f0_j115_L6 p1 p2) (3170393202611978240 : Int64) (5188146764422578174 : Int64)) = (own_f0_151'''' p1 p2)
                  · refine own_step (fun t k => XS.icmpNo X850.here hx rfl (hb hby at_164) rfl (teq hc852).2 k) ?_
                    show own_Run p e below T850 (mkF m 167 #[.val (.int p0), .val (.int p1), .val (.int p2), .val (.ref b434), .val (.int (6 : Int32)), .val (.int (p1 &&& (3 : Int32))), .val (.int (own_f0_j115_L6 p1 p2)), .val (.int (own_f0_151'''' p1 p2))] []) _
                    refine own_step (fun t k => XS.iconst X850.here hx rfl (hb hby at_167) k) ?_
                    show own_Run p e below T850 (mkF m 168 #[.val (.int p0), .val (.int p1), .val (.int p2), .val (.ref b434), .val (.int (6 : Int32)), .val (.int (p1 &&& (3 : Int32))), .val (.int (own_f0_j115_L6 p1 p2)), .val (.int (own_f0_151'''' p1 p2))] [(.int (1 : Int32))]) _
                    refine own_step (fun t k => XS.goto X850.here hx rfl (pc0 := 168) (pc' := 172) rfl (hb hby at_168) (by decide) (by decide) k) ?_
                    show own_Run p e below T850 (mkF m 172 #[.val (.int p0), .val (.int p1), .val (.int p2), .val (.ref b434), .val (.int (6 : Int32)), .val (.int (p1 &&& (3 : Int32))), .val (.int (own_f0_j115_L6 p1 p2)), .val (.int (own_f0_151'''' p1 p2))] [(.int (1 : Int32))]) _
                    have hj0 : (own_f0_j172_S0'''''' p1 p2) = (1 : Int32) := (if_pos hc852)
                    exact own_here (by rw [hj0])
                  · refine own_step (fun t k => XS.icmpYes X850.here hx rfl (pc0 := 164) (pc' := 171) rfl (hb hby at_164) rfl (feq hc852).2 (by decide) (by decide) k) ?_
                    show own_Run p e below T850 (mkF m 171 #[.val (.int p0), .val (.int p1), .val (.int p2), .val (.ref b434), .val (.int (6 : Int32)), .val (.int (p1 &&& (3 : Int32))), .val (.int (own_f0_j115_L6 p1 p2)), .val (.int (own_f0_151'''' p1 p2))] []) _
                    refine own_step (fun t k => XS.iconst X850.here hx rfl (hb hby at_171) k) ?_
                    show own_Run p e below T850 (mkF m 172 #[.val (.int p0), .val (.int p1), .val (.int p2), .val (.ref b434), .val (.int (6 : Int32)), .val (.int (p1 &&& (3 : Int32))), .val (.int (own_f0_j115_L6 p1 p2)), .val (.int (own_f0_151'''' p1 p2))] [(.int (0 : Int32))]) _
                    have hj0 : (own_f0_j172_S0'''''' p1 p2) = (0 : Int32) := (if_neg hc852)
                    exact own_here (by rw [hj0])
                refine own_tr st851 ?_
                show own_Run p e below T850 (mkF m 172 #[.val (.int p0), .val (.int p1), .val (.int p2), .val (.ref b434), .val (.int (6 : Int32)), .val (.int (p1 &&& (3 : Int32))), .val (.int (own_f0_j115_L6 p1 p2)), .val (.int (own_f0_151'''' p1 p2))] [(.int (own_f0_j172_S0'''''' p1 p2))]) _
                exact own_retZ X850 hx hlk hret (hb hby at_172) (by decide) (by decide) N850 trivial
              · refine own_vi (if_neg hs753) ?_
                have hs754 : (p0 &&& (7 : Int32)) = (7 : Int32) := own_last p0 hs747 hs748 hs749 hs750 hs751 hs752 hs753
                rw [hs754]
                show own_Run p e below T714 (mkF m 60 #[.val (.int p0), .val (.int p1), .val (.int p2), .val (.ref b434), .unset, .unset, .unset, .unset] [(.int (7 : Int32))]) _
                refine own_step (fun t k => XS.istore X714.here hx rfl (hb hby at_60) rfl (l' := #[.val (.int p0), .val (.int p1), .val (.int p2), .val (.ref b434), .val (.int (7 : Int32)), .unset, .unset, .unset]) rfl k) ?_
                show own_Run p e below T714 (mkF m 62 #[.val (.int p0), .val (.int p1), .val (.int p2), .val (.ref b434), .val (.int (7 : Int32)), .unset, .unset, .unset] []) _
                refine own_step (fun t k => XS.iloadN X714.here hx rfl (hb hby at_62) rfl  k) ?_
                show own_Run p e below T714 (mkF m 63 #[.val (.int p0), .val (.int p1), .val (.int p2), .val (.ref b434), .val (.int (7 : Int32)), .unset, .unset, .unset] [(.int p1)]) _
                refine own_step (fun t k => XS.iconst X714.here hx rfl (hb hby at_63) k) ?_
                show own_Run p e below T714 (mkF m 64 #[.val (.int p0), .val (.int p1), .val (.int p2), .val (.ref b434), .val (.int (7 : Int32)), .unset, .unset, .unset] [(.int (3 : Int32)), (.int p1)]) _
                refine own_step (fun t k => XS.iand X714.here hx rfl (hb hby at_64) rfl k) ?_
                show own_Run p e below T714 (mkF m 65 #[.val (.int p0), .val (.int p1), .val (.int p2), .val (.ref b434), .val (.int (7 : Int32)), .unset, .unset, .unset] [(.int (p1 &&& (3 : Int32)))]) _
                refine own_step (fun t k => XS.istore X714.here hx rfl (hb hby at_65) rfl (l' := #[.val (.int p0), .val (.int p1), .val (.int p2), .val (.ref b434), .val (.int (7 : Int32)), .val (.int (p1 &&& (3 : Int32))), .unset, .unset]) rfl k) ?_
                show own_Run p e below T714 (mkF m 67 #[.val (.int p0), .val (.int p1), .val (.int p2), .val (.ref b434), .val (.int (7 : Int32)), .val (.int (p1 &&& (3 : Int32))), .unset, .unset] []) _
                refine own_step (fun t k => XS.iload X714.here hx rfl (hb hby at_67) rfl  k) ?_
                show own_Run p e below T714 (mkF m 69 #[.val (.int p0), .val (.int p1), .val (.int p2), .val (.ref b434), .val (.int (7 : Int32)), .val (.int (p1 &&& (3 : Int32))), .unset, .unset] [(.int (p1 &&& (3 : Int32)))]) _
                obtain ⟨_, st853, rfl⟩ : own_Run p e below T714 (mkF m 69 #[.val (.int p0), .val (.int p1), .val (.int p2), .val (.ref b434), .val (.int (7 : Int32)), .val (.int (p1 &&& (3 : Int32))), .unset, .unset] [(.int (p1 &&& (3 : Int32)))]) (fun t => t = T714.setTop (mkF m 115 #[.val (.int p0), .val (.int p1), .val (.int p2), .val (.ref b434), .val (.int (7 : Int32)), .val (.int (p1 &&& (3 : Int32))), .val (.int (own_f0_j115_L6 p1 p2)), .unset] [])) := by
                  by_cases hc854 : (p1 &&& (3 : Int32)) = (0 : Int32)
                  · refine own_step (fun t k => XS.ifNo X714.here hx rfl (hb hby at_69) rfl ((if0 _ _).trans (teq hc854).2) k) ?_
                    show own_Run p e below T714 (mkF m 72 #[.val (.int p0), .val (.int p1), .val (.int p2), .val (.ref b434), .val (.int (7 : Int32)), .val (.int (p1 &&& (3 : Int32))), .unset, .unset] []) _
                    refine own_step (fun t k => XS.iloadN X714.here hx rfl (hb hby at_72) rfl  k) ?_
                    show own_Run p e below T714 (mkF m 73 #[.val (.int p0), .val (.int p1), .val (.int p2), .val (.ref b434), .val (.int (7 : Int32)), .val (.int (p1 &&& (3 : Int32))), .unset, .unset] [(.int p2)]) _
                    refine own_step (fun t k => XS.istore X714.here hx rfl (hb hby at_73) rfl (l' := #[.val (.int p0), .val (.int p1), .val (.int p2), .val (.ref b434), .val (.int (7 : Int32)), .val (.int (p1 &&& (3 : Int32))), .val (.int p2), .unset]) rfl k) ?_
                    show own_Run p e below T714 (mkF m 75 #[.val (.int p0), .val (.int p1), .val (.int p2), .val (.ref b434), .val (.int (7 : Int32)), .val (.int (p1 &&& (3 : Int32))), .val (.int p2), .unset] []) _
                    refine own_step (fun t k => XS.goto X714.here hx rfl (pc0 := 75) (pc' := 115) rfl (hb hby at_75) (by decide) (by decide) k) ?_
                    show own_Run p e below T714 (mkF m 115 #[.val (.int p0), .val (.int p1), .val (.int p2), .val (.ref b434), .val (.int (7 : Int32)), .val (.int (p1 &&& (3 : Int32))), .val (.int p2), .unset] []) _
                    have hj0 : (own_f0_j115_L6 p1 p2) = p2 := (if_pos hc854)
                    exact own_here (by rw [hj0])
                  · refine own_step (fun t k => XS.ifYes X714.here hx rfl (pc0 := 69) (pc' := 78) rfl (hb hby at_69) rfl ((if0 _ _).trans (feq hc854).2) (by decide) (by decide) k) ?_
                    show own_Run p e below T714 (mkF m 78 #[.val (.int p0), .val (.int p1), .val (.int p2), .val (.ref b434), .val (.int (7 : Int32)), .val (.int (p1 &&& (3 : Int32))), .unset, .unset] []) _
                    refine own_step (fun t k => XS.iload X714.here hx rfl (hb hby at_78) rfl  k) ?_
                    show own_Run p e below T714 (mkF m 80 #[.val (.int p0), .val (.int p1), .val (.int p2), .val (.ref b434), .val (.int (7 : Int32)), .val (.int (p1 &&& (3 : Int32))), .unset, .unset] [(.int (p1 &&& (3 : Int32)))]) _
                    refine own_step (fun t k => XS.iconst X714.here hx rfl (hb hby at_80) k) ?_
                    show own_Run p e below T714 (mkF m 81 #[.val (.int p0), .val (.int p1), .val (.int p2), .val (.ref b434), .val (.int (7 : Int32)), .val (.int (p1 &&& (3 : Int32))), .unset, .unset] [(.int (1 : Int32)), (.int (p1 &&& (3 : Int32)))]) _
                    by_cases hc855 : (p1 &&& (3 : Int32)) = (1 : Int32)
                    · refine own_step (fun t k => XS.icmpNo X714.here hx rfl (hb hby at_81) rfl (teq hc855).2 k) ?_
                      show own_Run p e below T714 (mkF m 84 #[.val (.int p0), .val (.int p1), .val (.int p2), .val (.ref b434), .val (.int (7 : Int32)), .val (.int (p1 &&& (3 : Int32))), .unset, .unset] []) _
                      refine own_step (fun t k => XS.iloadN X714.here hx rfl (hb hby at_84) rfl  k) ?_
                      show own_Run p e below T714 (mkF m 85 #[.val (.int p0), .val (.int p1), .val (.int p2), .val (.ref b434), .val (.int (7 : Int32)), .val (.int (p1 &&& (3 : Int32))), .unset, .unset] [(.int p2)]) _
                      refine own_step (fun t k => XS.bipush X714.here hx rfl (hb hby at_85) k) ?_
                      show own_Run p e below T714 (mkF m 87 #[.val (.int p0), .val (.int p1), .val (.int p2), .val (.ref b434), .val (.int (7 : Int32)), .val (.int (p1 &&& (3 : Int32))), .unset, .unset] [(.int (127 : Int32)), (.int p2)]) _
                      refine own_step (fun t k => XS.iand X714.here hx rfl (hb hby at_87) rfl k) ?_
                      show own_Run p e below T714 (mkF m 88 #[.val (.int p0), .val (.int p1), .val (.int p2), .val (.ref b434), .val (.int (7 : Int32)), .val (.int (p1 &&& (3 : Int32))), .unset, .unset] [(.int (p2 &&& (127 : Int32)))]) _
                      refine own_step (fun t k => XS.istore X714.here hx rfl (hb hby at_88) rfl (l' := #[.val (.int p0), .val (.int p1), .val (.int p2), .val (.ref b434), .val (.int (7 : Int32)), .val (.int (p1 &&& (3 : Int32))), .val (.int (p2 &&& (127 : Int32))), .unset]) rfl k) ?_
                      show own_Run p e below T714 (mkF m 90 #[.val (.int p0), .val (.int p1), .val (.int p2), .val (.ref b434), .val (.int (7 : Int32)), .val (.int (p1 &&& (3 : Int32))), .val (.int (p2 &&& (127 : Int32))), .unset] []) _
                      refine own_step (fun t k => XS.goto X714.here hx rfl (pc0 := 90) (pc' := 115) rfl (hb hby at_90) (by decide) (by decide) k) ?_
                      show own_Run p e below T714 (mkF m 115 #[.val (.int p0), .val (.int p1), .val (.int p2), .val (.ref b434), .val (.int (7 : Int32)), .val (.int (p1 &&& (3 : Int32))), .val (.int (p2 &&& (127 : Int32))), .unset] []) _
                      have hj0 : (own_f0_j115_L6 p1 p2) = (p2 &&& (127 : Int32)) := ((if_neg hc854).trans (if_pos hc855))
                      exact own_here (by rw [hj0])
                    · refine own_step (fun t k => XS.icmpYes X714.here hx rfl (pc0 := 81) (pc' := 93) rfl (hb hby at_81) rfl (feq hc855).2 (by decide) (by decide) k) ?_
                      show own_Run p e below T714 (mkF m 93 #[.val (.int p0), .val (.int p1), .val (.int p2), .val (.ref b434), .val (.int (7 : Int32)), .val (.int (p1 &&& (3 : Int32))), .unset, .unset] []) _
                      refine own_step (fun t k => XS.iload X714.here hx rfl (hb hby at_93) rfl  k) ?_
                      show own_Run p e below T714 (mkF m 95 #[.val (.int p0), .val (.int p1), .val (.int p2), .val (.ref b434), .val (.int (7 : Int32)), .val (.int (p1 &&& (3 : Int32))), .unset, .unset] [(.int (p1 &&& (3 : Int32)))]) _
                      refine own_step (fun t k => XS.iconst X714.here hx rfl (hb hby at_95) k) ?_
                      show own_Run p e below T714 (mkF m 96 #[.val (.int p0), .val (.int p1), .val (.int p2), .val (.ref b434), .val (.int (7 : Int32)), .val (.int (p1 &&& (3 : Int32))), .unset, .unset] [(.int (2 : Int32)), (.int (p1 &&& (3 : Int32)))]) _
                      by_cases hc856 : (p1 &&& (3 : Int32)) = (2 : Int32)
                      · refine own_step (fun t k => XS.icmpNo X714.here hx rfl (hb hby at_96) rfl (teq hc856).2 k) ?_
                        show own_Run p e below T714 (mkF m 99 #[.val (.int p0), .val (.int p1), .val (.int p2), .val (.ref b434), .val (.int (7 : Int32)), .val (.int (p1 &&& (3 : Int32))), .unset, .unset] []) _
                        refine own_step (fun t k => XS.iloadN X714.here hx rfl (hb hby at_99) rfl  k) ?_
                        show own_Run p e below T714 (mkF m 100 #[.val (.int p0), .val (.int p1), .val (.int p2), .val (.ref b434), .val (.int (7 : Int32)), .val (.int (p1 &&& (3 : Int32))), .unset, .unset] [(.int p2)]) _
                        refine own_step (fun t k => X714.ldcInt hx hown (mvT hZ (hw _ (List.mem_of_getElem? (i := 34) rfl))) (g := (mkF m 100 #[.val (.int p0), .val (.int p1), .val (.int p2), .val (.ref b434), .val (.int (7 : Int32)), .val (.int (p1 &&& (3 : Int32))), .unset, .unset] [(.int p2)])) rfl (hb hby at_100) t k) ?_
                        show own_Run p e below T714 (mkF m 102 #[.val (.int p0), .val (.int p1), .val (.int p2), .val (.ref b434), .val (.int (7 : Int32)), .val (.int (p1 &&& (3 : Int32))), .unset, .unset] [(.int (131071 : Int32)), (.int p2)]) _
                        refine own_step (fun t k => XS.iand X714.here hx rfl (hb hby at_102) rfl k) ?_
                        show own_Run p e below T714 (mkF m 103 #[.val (.int p0), .val (.int p1), .val (.int p2), .val (.ref b434), .val (.int (7 : Int32)), .val (.int (p1 &&& (3 : Int32))), .unset, .unset] [(.int (p2 &&& (131071 : Int32)))]) _
                        refine own_step (fun t k => XS.istore X714.here hx rfl (hb hby at_103) rfl (l' := #[.val (.int p0), .val (.int p1), .val (.int p2), .val (.ref b434), .val (.int (7 : Int32)), .val (.int (p1 &&& (3 : Int32))), .val (.int (own_f0_103 p2)), .unset]) rfl k) ?_
                        show own_Run p e below T714 (mkF m 105 #[.val (.int p0), .val (.int p1), .val (.int p2), .val (.ref b434), .val (.int (7 : Int32)), .val (.int (p1 &&& (3 : Int32))), .val (.int (own_f0_103 p2)), .unset] []) _
                        refine own_step (fun t k => XS.goto X714.here hx rfl (pc0 := 105) (pc' := 115) rfl (hb hby at_105) (by decide) (by decide) k) ?_
                        show own_Run p e below T714 (mkF m 115 #[.val (.int p0), .val (.int p1), .val (.int p2), .val (.ref b434), .val (.int (7 : Int32)), .val (.int (p1 &&& (3 : Int32))), .val (.int (own_f0_103 p2)), .unset] []) _
                        have hj0 : (own_f0_j115_L6 p1 p2) = (own_f0_103 p2) := ((if_neg hc854).trans ((if_neg hc855).trans (if_pos hc856)))
                        exact own_here (by rw [hj0])
                      · refine own_step (fun t k => XS.icmpYes X714.here hx rfl (pc0 := 96) (pc' := 108) rfl (hb hby at_96) rfl (feq hc856).2 (by decide) (by decide) k) ?_
                        show own_Run p e below T714 (mkF m 108 #[.val (.int p0), .val (.int p1), .val (.int p2), .val (.ref b434), .val (.int (7 : Int32)), .val (.int (p1 &&& (3 : Int32))), .unset, .unset] []) _
                        refine own_step (fun t k => XS.iloadN X714.here hx rfl (hb hby at_108) rfl  k) ?_
                        show own_Run p e below T714 (mkF m 109 #[.val (.int p0), .val (.int p1), .val (.int p2), .val (.ref b434), .val (.int (7 : Int32)), .val (.int (p1 &&& (3 : Int32))), .unset, .unset] [(.int p2)]) _
                        refine own_step (fun t k => XS.sipush X714.here hx rfl (hb hby at_109) k) ?_
                        show own_Run p e below T714 (mkF m 112 #[.val (.int p0), .val (.int p1), .val (.int p2), .val (.ref b434), .val (.int (7 : Int32)), .val (.int (p1 &&& (3 : Int32))), .unset, .unset] [(.int (255 : Int32)), (.int p2)]) _
                        refine own_step (fun t k => XS.iand X714.here hx rfl (hb hby at_112) rfl k) ?_
                        show own_Run p e below T714 (mkF m 113 #[.val (.int p0), .val (.int p1), .val (.int p2), .val (.ref b434), .val (.int (7 : Int32)), .val (.int (p1 &&& (3 : Int32))), .unset, .unset] [(.int (p2 &&& (255 : Int32)))]) _
                        refine own_step (fun t k => XS.istore X714.here hx rfl (hb hby at_113) rfl (l' := #[.val (.int p0), .val (.int p1), .val (.int p2), .val (.ref b434), .val (.int (7 : Int32)), .val (.int (p1 &&& (3 : Int32))), .val (.int (p2 &&& (255 : Int32))), .unset]) rfl k) ?_
                        show own_Run p e below T714 (mkF m 115 #[.val (.int p0), .val (.int p1), .val (.int p2), .val (.ref b434), .val (.int (7 : Int32)), .val (.int (p1 &&& (3 : Int32))), .val (.int (p2 &&& (255 : Int32))), .unset] []) _
                        have hj0 : (own_f0_j115_L6 p1 p2) = (p2 &&& (255 : Int32)) := ((if_neg hc854).trans ((if_neg hc855).trans (if_neg hc856)))
                        exact own_here (by rw [hj0])
                refine own_tr st853 ?_
                show own_Run p e below T714 (mkF m 115 #[.val (.int p0), .val (.int p1), .val (.int p2), .val (.ref b434), .val (.int (7 : Int32)), .val (.int (p1 &&& (3 : Int32))), .val (.int (own_f0_j115_L6 p1 p2)), .unset] []) _
                refine own_step (fun t k => XS.iload X714.here hx rfl (hb hby at_115) rfl  k) ?_
                show own_Run p e below T714 (mkF m 117 #[.val (.int p0), .val (.int p1), .val (.int p2), .val (.ref b434), .val (.int (7 : Int32)), .val (.int (p1 &&& (3 : Int32))), .val (.int (own_f0_j115_L6 p1 p2)), .unset] [(.int (own_f0_j115_L6 p1 p2))]) _
                obtain ⟨_, st857, T857, L857, rfl, X857, e857, N857⟩ : own_Run p e below T714 (mkF m 117 #[.val (.int p0), .val (.int p1), .val (.int p2), .val (.ref b434), .val (.int (7 : Int32)), .val (.int (p1 &&& (3 : Int32))), .val (.int (own_f0_j115_L6 p1 p2)), .unset] [(.int (own_f0_j115_L6 p1 p2))]) (fun t => ∃ (T' : State) (L' : List Loc) , t = T'.setTop (mkF m 151 #[.val (.int p0), .val (.int p1), .val (.int p2), .val (.ref b434), .val (.int (7 : Int32)), .val (.int (p1 &&& (3 : Int32))), .val (.int (own_f0_j115_L6 p1 p2)), .unset] [(.int (own_f0_j151_S0''''''' p1 p2))]) ∧ Stand p l e room_1 s m #[(.int p0), (.int p1), (.int p2)] below meth c T' L' 1 8 ∧ T'.heap = h714 ∧ Fr n0 L') := by
                  by_cases hc858 : (own_f0_j115_L6 p1 p2) < (0 : Int32)
                  · refine own_step (fun t k => XS.ifYes X714.here hx rfl (pc0 := 117) (pc' := 150) rfl (hb hby at_117) rfl ((if0 _ _).trans (tlt hc858).1) (by decide) (by decide) k) ?_
                    show own_Run p e below T714 (mkF m 150 #[.val (.int p0), .val (.int p1), .val (.int p2), .val (.ref b434), .val (.int (7 : Int32)), .val (.int (p1 &&& (3 : Int32))), .val (.int (own_f0_j115_L6 p1 p2)), .unset] []) _
                    refine own_step (fun t k => XS.iconst X714.here hx rfl (hb hby at_150) k) ?_
                    show own_Run p e below T714 (mkF m 151 #[.val (.int p0), .val (.int p1), .val (.int p2), .val (.ref b434), .val (.int (7 : Int32)), .val (.int (p1 &&& (3 : Int32))), .val (.int (own_f0_j115_L6 p1 p2)), .unset] [(.int (0 : Int32))]) _
                    have hj0 : (own_f0_j151_S0''''''' p1 p2) = (0 : Int32) := (if_pos hc858)
                    exact own_here ⟨T714, _, (by rw [hj0]), X714, e714, N714⟩
                  · refine own_step (fun t k => XS.ifNo X714.here hx rfl (hb hby at_117) rfl ((if0 _ _).trans (flt hc858).1) k) ?_
                    show own_Run p e below T714 (mkF m 120 #[.val (.int p0), .val (.int p1), .val (.int p2), .val (.ref b434), .val (.int (7 : Int32)), .val (.int (p1 &&& (3 : Int32))), .val (.int (own_f0_j115_L6 p1 p2)), .unset] []) _
                    refine own_step (fun t k => XS.iload X714.here hx rfl (hb hby at_120) rfl  k) ?_
                    show own_Run p e below T714 (mkF m 122 #[.val (.int p0), .val (.int p1), .val (.int p2), .val (.ref b434), .val (.int (7 : Int32)), .val (.int (p1 &&& (3 : Int32))), .val (.int (own_f0_j115_L6 p1 p2)), .unset] [(.int (own_f0_j115_L6 p1 p2))]) _
                    refine own_step (fun t k => XS.sipush X714.here hx rfl (hb hby at_122) k) ?_
                    show own_Run p e below T714 (mkF m 125 #[.val (.int p0), .val (.int p1), .val (.int p2), .val (.ref b434), .val (.int (7 : Int32)), .val (.int (p1 &&& (3 : Int32))), .val (.int (own_f0_j115_L6 p1 p2)), .unset] [(.int (128 : Int32)), (.int (own_f0_j115_L6 p1 p2))]) _
                    by_cases hc859 : (own_f0_j115_L6 p1 p2) < (128 : Int32)
                    · refine own_step (fun t k => XS.icmpNo X714.here hx rfl (hb hby at_125) rfl (tlt hc859).2.1 k) ?_
                      show own_Run p e below T714 (mkF m 128 #[.val (.int p0), .val (.int p1), .val (.int p2), .val (.ref b434), .val (.int (7 : Int32)), .val (.int (p1 &&& (3 : Int32))), .val (.int (own_f0_j115_L6 p1 p2)), .unset] []) _
                      refine own_step (fun t k => XS.iload X714.here hx rfl (hb hby at_128) rfl  k) ?_
                      show own_Run p e below T714 (mkF m 130 #[.val (.int p0), .val (.int p1), .val (.int p2), .val (.ref b434), .val (.int (7 : Int32)), .val (.int (p1 &&& (3 : Int32))), .val (.int (own_f0_j115_L6 p1 p2)), .unset] [(.int (own_f0_j115_L6 p1 p2))]) _
                      obtain ⟨_, _, ⟨T860, L860, kq860, nq860⟩, -, X860, ⟨Lc860, hQ860, lq860, yq860, zq860⟩, st860⟩ := Jvm.LawKit.callS X714 hx (y := (⟨"com/example/fuxi/fuxi/model/PartKeepsPinLaw", "alnum", "(I)Z"⟩ : MethodName)) hown (mvT hZ (hw _ (List.mem_of_getElem? (i := 20) rfl))) (mvT hZ (hw _ (List.mem_of_getElem? (i := 21) rfl))) (mvT hZ (hw _ (List.mem_of_getElem? (i := 22) rfl))) (mvT hZ (hw _ (List.mem_of_getElem? (i := 23) rfl))) (by decide) (backOf (W := 0) (rm1 l Z av0 hw [] (own_f0_j115_L6 p1 p2) h714 n0 Zn714 ) hZ (hw _ (List.mem_of_getElem? (i := 23) rfl)) (hw _ (List.mem_of_getElem? (i := 22) rfl)) (by decide) (by decide)) (g := (mkF m 130 #[.val (.int p0), .val (.int p1), .val (.int p2), .val (.ref b434), .val (.int (7 : Int32)), .val (.int (p1 &&& (3 : Int32))), .val (.int (own_f0_j115_L6 p1 p2)), .unset] [(.int (own_f0_j115_L6 p1 p2))])) rfl (by rw [hml]; rfl) (argsL := [(.int (own_f0_j115_L6 p1 p2))]) (rest := []) (lenOf own_pd170 rfl) rfl (by show 2 * 0 + _ ≤ _; exact Nat.le_of_eq rfl) (hb hby at_130) (fun _ _ => ⟨rfl, e714, (by decide : 1 + 0 ≤ _), (by decide : 8 + 0 ≤ _)⟩)
                      dsimp only [Pt.U, Pt.locs, Pt.cells, Pt.slots] at X860 lq860 yq860 zq860 st860 hQ860
                      subst lq860 yq860 zq860
                      obtain ⟨rfl, N860q, e860⟩ := hQ860
                      have N860 := Fr.app N714 N860q
                      refine own_step st860 ?_
                      show own_Run p e below T860 (mkF m 133 #[.val (.int p0), .val (.int p1), .val (.int p2), .val (.ref b434), .val (.int (7 : Int32)), .val (.int (p1 &&& (3 : Int32))), .val (.int (own_f0_j115_L6 p1 p2)), .unset] [(.int (own_r1 (own_f0_j115_L6 p1 p2)))]) _
                      by_cases hc861 : (own_r1 (own_f0_j115_L6 p1 p2)) = (0 : Int32)
                      · refine own_step (fun t k => XS.ifNo X860.here hx rfl (hb hby at_133) rfl ((if0 _ _).trans (teq hc861).2) k) ?_
                        show own_Run p e below T860 (mkF m 136 #[.val (.int p0), .val (.int p1), .val (.int p2), .val (.ref b434), .val (.int (7 : Int32)), .val (.int (p1 &&& (3 : Int32))), .val (.int (own_f0_j115_L6 p1 p2)), .unset] []) _
                        refine own_step (fun t k => XS.iload X860.here hx rfl (hb hby at_136) rfl  k) ?_
                        show own_Run p e below T860 (mkF m 138 #[.val (.int p0), .val (.int p1), .val (.int p2), .val (.ref b434), .val (.int (7 : Int32)), .val (.int (p1 &&& (3 : Int32))), .val (.int (own_f0_j115_L6 p1 p2)), .unset] [(.int (7 : Int32))]) _
                        refine own_step (fun t k => XS.iload X860.here hx rfl (hb hby at_138) rfl  k) ?_
                        show own_Run p e below T860 (mkF m 140 #[.val (.int p0), .val (.int p1), .val (.int p2), .val (.ref b434), .val (.int (7 : Int32)), .val (.int (p1 &&& (3 : Int32))), .val (.int (own_f0_j115_L6 p1 p2)), .unset] [(.int (own_f0_j115_L6 p1 p2)), (.int (7 : Int32))]) _
                        obtain ⟨_, _, ⟨T862, L862, kq862, nq862⟩, -, X862, ⟨Lc862, hQ862, lq862, yq862, zq862⟩, st862⟩ := Jvm.LawKit.callS X860 hx (y := (⟨"com/example/fuxi/fuxi/model/PartKeepsPinLaw", "punct", "(II)Z"⟩ : MethodName)) hown (mvT hZ (hw _ (List.mem_of_getElem? (i := 24) rfl))) (mvT hZ (hw _ (List.mem_of_getElem? (i := 25) rfl))) (mvT hZ (hw _ (List.mem_of_getElem? (i := 22) rfl))) (mvT hZ (hw _ (List.mem_of_getElem? (i := 26) rfl))) (by decide) (backOf (W := 0) (rm2 l Z av0 hw [] (7 : Int32) (own_f0_j115_L6 p1 p2) h714 n0 Zn714 ) hZ (hw _ (List.mem_of_getElem? (i := 26) rfl)) (hw _ (List.mem_of_getElem? (i := 22) rfl)) (by decide) (by decide)) (g := (mkF m 140 #[.val (.int p0), .val (.int p1), .val (.int p2), .val (.ref b434), .val (.int (7 : Int32)), .val (.int (p1 &&& (3 : Int32))), .val (.int (own_f0_j115_L6 p1 p2)), .unset] [(.int (own_f0_j115_L6 p1 p2)), (.int (7 : Int32))])) rfl (by rw [hml]; rfl) (argsL := [(.int (7 : Int32)), (.int (own_f0_j115_L6 p1 p2))]) (rest := []) (lenOf own_pd171 rfl) rfl (by show 2 * 0 + _ ≤ _; exact Nat.le_of_eq rfl) (hb hby at_140) (fun _ _ => ⟨rfl, e860, (by decide : 1 + 0 ≤ _), (by decide : 8 + 0 ≤ _)⟩)
                        dsimp only [Pt.U, Pt.locs, Pt.cells, Pt.slots] at X862 lq862 yq862 zq862 st862 hQ862
                        subst lq862 yq862 zq862
                        obtain ⟨rfl, N862q, e862⟩ := hQ862
                        have N862 := Fr.app N860 N862q
                        refine own_step st862 ?_
                        show own_Run p e below T862 (mkF m 143 #[.val (.int p0), .val (.int p1), .val (.int p2), .val (.ref b434), .val (.int (7 : Int32)), .val (.int (p1 &&& (3 : Int32))), .val (.int (own_f0_j115_L6 p1 p2)), .unset] [(.int (own_r2 (7 : Int32) (own_f0_j115_L6 p1 p2)))]) _
                        by_cases hc863 : (own_r2 (7 : Int32) (own_f0_j115_L6 p1 p2)) = (0 : Int32)
                        · refine own_step (fun t k => XS.ifYes X862.here hx rfl (pc0 := 143) (pc' := 150) rfl (hb hby at_143) rfl ((if0 _ _).trans (teq hc863).1) (by decide) (by decide) k) ?_
                          show own_Run p e below T862 (mkF m 150 #[.val (.int p0), .val (.int p1), .val (.int p2), .val (.ref b434), .val (.int (7 : Int32)), .val (.int (p1 &&& (3 : Int32))), .val (.int (own_f0_j115_L6 p1 p2)), .unset] []) _
                          refine own_step (fun t k => XS.iconst X862.here hx rfl (hb hby at_150) k) ?_
                          show own_Run p e below T862 (mkF m 151 #[.val (.int p0), .val (.int p1), .val (.int p2), .val (.ref b434), .val (.int (7 : Int32)), .val (.int (p1 &&& (3 : Int32))), .val (.int (own_f0_j115_L6 p1 p2)), .unset] [(.int (0 : Int32))]) _
                          have hj0 : (own_f0_j151_S0''''''' p1 p2) = (0 : Int32) := ((if_neg hc858).trans ((if_pos hc859).trans ((if_pos hc861).trans (if_pos hc863))))
                          exact own_here ⟨T862, _, (by rw [hj0]), X862, e862, N862⟩
                        · refine own_step (fun t k => XS.ifNo X862.here hx rfl (hb hby at_143) rfl ((if0 _ _).trans (feq hc863).1) k) ?_
                          show own_Run p e below T862 (mkF m 146 #[.val (.int p0), .val (.int p1), .val (.int p2), .val (.ref b434), .val (.int (7 : Int32)), .val (.int (p1 &&& (3 : Int32))), .val (.int (own_f0_j115_L6 p1 p2)), .unset] []) _
                          refine own_step (fun t k => XS.iconst X862.here hx rfl (hb hby at_146) k) ?_
                          show own_Run p e below T862 (mkF m 147 #[.val (.int p0), .val (.int p1), .val (.int p2), .val (.ref b434), .val (.int (7 : Int32)), .val (.int (p1 &&& (3 : Int32))), .val (.int (own_f0_j115_L6 p1 p2)), .unset] [(.int (1 : Int32))]) _
                          refine own_step (fun t k => XS.goto X862.here hx rfl (pc0 := 147) (pc' := 151) rfl (hb hby at_147) (by decide) (by decide) k) ?_
                          show own_Run p e below T862 (mkF m 151 #[.val (.int p0), .val (.int p1), .val (.int p2), .val (.ref b434), .val (.int (7 : Int32)), .val (.int (p1 &&& (3 : Int32))), .val (.int (own_f0_j115_L6 p1 p2)), .unset] [(.int (1 : Int32))]) _
                          have hj0 : (own_f0_j151_S0''''''' p1 p2) = (1 : Int32) := ((if_neg hc858).trans ((if_pos hc859).trans ((if_pos hc861).trans (if_neg hc863))))
                          exact own_here ⟨T862, _, (by rw [hj0]), X862, e862, N862⟩
                      · refine own_step (fun t k => XS.ifYes X860.here hx rfl (pc0 := 133) (pc' := 146) rfl (hb hby at_133) rfl ((if0 _ _).trans (feq hc861).2) (by decide) (by decide) k) ?_
                        show own_Run p e below T860 (mkF m 146 #[.val (.int p0), .val (.int p1), .val (.int p2), .val (.ref b434), .val (.int (7 : Int32)), .val (.int (p1 &&& (3 : Int32))), .val (.int (own_f0_j115_L6 p1 p2)), .unset] []) _
                        refine own_step (fun t k => XS.iconst X860.here hx rfl (hb hby at_146) k) ?_
                        show own_Run p e below T860 (mkF m 147 #[.val (.int p0), .val (.int p1), .val (.int p2), .val (.ref b434), .val (.int (7 : Int32)), .val (.int (p1 &&& (3 : Int32))), .val (.int (own_f0_j115_L6 p1 p2)), .unset] [(.int (1 : Int32))]) _
                        refine own_step (fun t k => XS.goto X860.here hx rfl (pc0 := 147) (pc' := 151) rfl (hb hby at_147) (by decide) (by decide) k) ?_
                        show own_Run p e below T860 (mkF m 151 #[.val (.int p0), .val (.int p1), .val (.int p2), .val (.ref b434), .val (.int (7 : Int32)), .val (.int (p1 &&& (3 : Int32))), .val (.int (own_f0_j115_L6 p1 p2)), .unset] [(.int (1 : Int32))]) _
                        have hj0 : (own_f0_j151_S0''''''' p1 p2) = (1 : Int32) := ((if_neg hc858).trans ((if_pos hc859).trans (if_neg hc861)))
                        exact own_here ⟨T860, _, (by rw [hj0]), X860, e860, N860⟩
                    · refine own_step (fun t k => XS.icmpYes X714.here hx rfl (pc0 := 125) (pc' := 150) rfl (hb hby at_125) rfl (flt hc859).2.1 (by decide) (by decide) k) ?_
                      show own_Run p e below T714 (mkF m 150 #[.val (.int p0), .val (.int p1), .val (.int p2), .val (.ref b434), .val (.int (7 : Int32)), .val (.int (p1 &&& (3 : Int32))), .val (.int (own_f0_j115_L6 p1 p2)), .unset] []) _
                      refine own_step (fun t k => XS.iconst X714.here hx rfl (hb hby at_150) k) ?_
                      show own_Run p e below T714 (mkF m 151 #[.val (.int p0), .val (.int p1), .val (.int p2), .val (.ref b434), .val (.int (7 : Int32)), .val (.int (p1 &&& (3 : Int32))), .val (.int (own_f0_j115_L6 p1 p2)), .unset] [(.int (0 : Int32))]) _
                      have hj0 : (own_f0_j151_S0''''''' p1 p2) = (0 : Int32) := ((if_neg hc858).trans (if_neg hc859))
                      exact own_here ⟨T714, _, (by rw [hj0]), X714, e714, N714⟩
                refine own_tr st857 ?_
                show own_Run p e below T857 (mkF m 151 #[.val (.int p0), .val (.int p1), .val (.int p2), .val (.ref b434), .val (.int (7 : Int32)), .val (.int (p1 &&& (3 : Int32))), .val (.int (own_f0_j115_L6 p1 p2)), .unset] [(.int (own_f0_j151_S0''''''' p1 p2))]) _
                refine own_step (fun t k => XS.istore X857.here hx rfl (hb hby at_151) rfl (l' := #[.val (.int p0), .val (.int p1), .val (.int p2), .val (.ref b434), .val (.int (7 : Int32)), .val (.int (p1 &&& (3 : Int32))), .val (.int (own_f0_j115_L6 p1 p2)), .val (.int (own_f0_151''''' p1 p2))]) rfl k) ?_
                show own_Run p e below T857 (mkF m 153 #[.val (.int p0), .val (.int p1), .val (.int p2), .val (.ref b434), .val (.int (7 : Int32)), .val (.int (p1 &&& (3 : Int32))), .val (.int (own_f0_j115_L6 p1 p2)), .val (.int (own_f0_151''''' p1 p2))] []) _
                refine own_step (fun t k => XS.aloadN X857.here hx rfl (hb hby at_153) rfl rfl k) ?_
                show own_Run p e below T857 (mkF m 154 #[.val (.int p0), .val (.int p1), .val (.int p2), .val (.ref b434), .val (.int (7 : Int32)), .val (.int (p1 &&& (3 : Int32))), .val (.int (own_f0_j115_L6 p1 p2)), .val (.int (own_f0_151''''' p1 p2))] [(.ref b434)]) _
                refine own_step (fun t k => XS.iload X857.here hx rfl (hb hby at_154) rfl  k) ?_
                show own_Run p e below T857 (mkF m 156 #[.val (.int p0), .val (.int p1), .val (.int p2), .val (.ref b434), .val (.int (7 : Int32)), .val (.int (p1 &&& (3 : Int32))), .val (.int (own_f0_j115_L6 p1 p2)), .val (.int (own_f0_151''''' p1 p2))] [(.int (7 : Int32)), (.ref b434)]) _
                refine own_step (own_ldR X857 hx hZ e857 V714x (j := (7 : Int32)) (v := (.ref w7)) ⟨by decide, by decide⟩ rfl (g := (mkF m 156 #[.val (.int p0), .val (.int p1), .val (.int p2), .val (.ref b434), .val (.int (7 : Int32)), .val (.int (p1 &&& (3 : Int32))), .val (.int (own_f0_j115_L6 p1 p2)), .val (.int (own_f0_151''''' p1 p2))] [(.int (7 : Int32)), (.ref b434)])) rfl rfl (hb hby at_156)) ?_
                show own_Run p e below T857 (mkF m 157 #[.val (.int p0), .val (.int p1), .val (.int p2), .val (.ref b434), .val (.int (7 : Int32)), .val (.int (p1 &&& (3 : Int32))), .val (.int (own_f0_j115_L6 p1 p2)), .val (.int (own_f0_151''''' p1 p2))] [(.ref w7)]) _
                refine own_step (fun t k => XS.iload X857.here hx rfl (hb hby at_157) rfl  k) ?_
                show own_Run p e below T857 (mkF m 159 #[.val (.int p0), .val (.int p1), .val (.int p2), .val (.ref b434), .val (.int (7 : Int32)), .val (.int (p1 &&& (3 : Int32))), .val (.int (own_f0_j115_L6 p1 p2)), .val (.int (own_f0_151''''' p1 p2))] [(.int (own_f0_j115_L6 p1 p2)), (.ref w7)]) _
                obtain ⟨cq864, kq864, q864a, q864b, q864c⟩ := isOf hZ e857 f744
                obtain ⟨_, _, ⟨T864, L864, kq864, nq864⟩, -, X864, ⟨Lc864, hQ864, lq864, yq864, zq864⟩, st864⟩ := X857.virtualBack hx (y := (⟨"com/example/fuxi/fuxi/model/Part", "keeps", "(I)Z"⟩ : MethodName)) (z := (⟨"com/example/fuxi/fuxi/model/Part", "keeps", "(I)Z"⟩ : MethodName)) hown (mvT hZ (hw _ (List.mem_of_getElem? (i := 27) rfl))) (mvT hZ (hw _ (List.mem_of_getElem? (i := 28) rfl))) (notFace_of_selects (args := #[]) (mvT hZ (hw _ (List.mem_of_getElem? (i := 30) rfl)))) (mvT hZ (hw _ (List.mem_of_getElem? (i := 30) rfl))) (mvT hZ (hw _ (List.mem_of_getElem? (i := 29) rfl))) (by decide) (backOf (W := 0) (rm3 l Z av0 hw [] w7 (own_f0_j115_L6 p1 p2) (288058852337778688 : Int64) (576460745995190270 : Int64) h714 n0 Zn714 f745 f746) hZ (hw _ (List.mem_of_getElem? (i := 31) rfl)) (hw _ (List.mem_of_getElem? (i := 3) rfl)) (by decide) (by decide)) q864a q864c (g := (mkF m 159 #[.val (.int p0), .val (.int p1), .val (.int p2), .val (.ref b434), .val (.int (7 : Int32)), .val (.int (p1 &&& (3 : Int32))), .val (.int (own_f0_j115_L6 p1 p2)), .val (.int (own_f0_151''''' p1 p2))] [(.int (own_f0_j115_L6 p1 p2)), (.ref w7)])) rfl (by rw [hml]; rfl) (Steps.refl _) (argsL := [(.int (own_f0_j115_L6 p1 p2))]) (rest := []) (lenOf own_pd170 rfl) rfl (by show 2 * 0 + _ ≤ _; exact Nat.le_of_eq rfl) (hb hby at_159) (fun _ _ => ⟨rfl, e857, (by decide : 1 + 0 ≤ _), (by decide : 8 + 0 ≤ _)⟩)
                dsimp only [Pt.U, Pt.locs, Pt.cells, Pt.slots] at X864 lq864 yq864 zq864 st864 hQ864
                subst lq864 yq864 zq864
                obtain ⟨rfl, N864q, e864⟩ := hQ864
                have N864 := Fr.app N857 N864q
                refine own_tr st864 ?_
                show own_Run p e below T864 (mkF m 162 #[.val (.int p0), .val (.int p1), .val (.int p2), .val (.ref b434), .val (.int (7 : Int32)), .val (.int (p1 &&& (3 : Int32))), .val (.int (own_f0_j115_L6 p1 p2)), .val (.int (own_f0_151''''' p1 p2))] [(.int (own_r3 (own_f0_j115_L6 p1 p2) (288058852337778688 : Int64) (576460745995190270 : Int64)))]) _
                refine own_step (fun t k => XS.iload X864.here hx rfl (hb hby at_162) rfl  k) ?_
                show own_Run p e below T864 (mkF m 164 #[.val (.int p0), .val (.int p1), .val (.int p2), .val (.ref b434), .val (.int (7 : Int32)), .val (.int (p1 &&& (3 : Int32))), .val (.int (own_f0_j115_L6 p1 p2)), .val (.int (own_f0_151''''' p1 p2))] [(.int (own_f0_151''''' p1 p2)), (.int (own_r3 (own_f0_j115_L6 p1 p2) (288058852337778688 : Int64) (576460745995190270 : Int64)))]) _
                obtain ⟨_, st865, rfl⟩ : own_Run p e below T864 (mkF m 164 #[.val (.int p0), .val (.int p1), .val (.int p2), .val (.ref b434), .val (.int (7 : Int32)), .val (.int (p1 &&& (3 : Int32))), .val (.int (own_f0_j115_L6 p1 p2)), .val (.int (own_f0_151''''' p1 p2))] [(.int (own_f0_151''''' p1 p2)), (.int (own_r3 (own_f0_j115_L6 p1 p2) (288058852337778688 : Int64) (576460745995190270 : Int64)))]) (fun t => t = T864.setTop (mkF m 172 #[.val (.int p0), .val (.int p1), .val (.int p2), .val (.ref b434), .val (.int (7 : Int32)), .val (.int (p1 &&& (3 : Int32))), .val (.int (own_f0_j115_L6 p1 p2)), .val (.int (own_f0_151''''' p1 p2))] [(.int (own_f0_j172_S0''''''' p1 p2))])) := by
                  by_cases hc866 : (own_r3 (own_f0_j115_L6 p1 p2) (288058852337778688 : Int64) (576460745995190270 : Int64)) = (own_f0_151''''' p1 p2)
                  · refine own_step (fun t k => XS.icmpNo X864.here hx rfl (hb hby at_164) rfl (teq hc866).2 k) ?_
                    show own_Run p e below T864 (mkF m 167 #[.val (.int p0), .val (.int p1), .val (.int p2), .val (.ref b434), .val (.int (7 : Int32)), .val (.int (p1 &&& (3 : Int32))), .val (.int (own_f0_j115_L6 p1 p2)), .val (.int (own_f0_151''''' p1 p2))] []) _
                    refine own_step (fun t k => XS.iconst X864.here hx rfl (hb hby at_167) k) ?_
                    show own_Run p e below T864 (mkF m 168 #[.val (.int p0), .val (.int p1), .val (.int p2), .val (.ref b434), .val (.int (7 : Int32)), .val (.int (p1 &&& (3 : Int32))), .val (.int (own_f0_j115_L6 p1 p2)), .val (.int (own_f0_151''''' p1 p2))] [(.int (1 : Int32))]) _
                    refine own_step (fun t k => XS.goto X864.here hx rfl (pc0 := 168) (pc' := 172) rfl (hb hby at_168) (by decide) (by decide) k) ?_
                    show own_Run p e below T864 (mkF m 172 #[.val (.int p0), .val (.int p1), .val (.int p2), .val (.ref b434), .val (.int (7 : Int32)), .val (.int (p1 &&& (3 : Int32))), .val (.int (own_f0_j115_L6 p1 p2)), .val (.int (own_f0_151''''' p1 p2))] [(.int (1 : Int32))]) _
                    have hj0 : (own_f0_j172_S0''''''' p1 p2) = (1 : Int32) := (if_pos hc866)
                    exact own_here (by rw [hj0])
                  · refine own_step (fun t k => XS.icmpYes X864.here hx rfl (pc0 := 164) (pc' := 171) rfl (hb hby at_164) rfl (feq hc866).2 (by decide) (by decide) k) ?_
                    show own_Run p e below T864 (mkF m 171 #[.val (.int p0), .val (.int p1), .val (.int p2), .val (.ref b434), .val (.int (7 : Int32)), .val (.int (p1 &&& (3 : Int32))), .val (.int (own_f0_j115_L6 p1 p2)), .val (.int (own_f0_151''''' p1 p2))] []) _
                    refine own_step (fun t k => XS.iconst X864.here hx rfl (hb hby at_171) k) ?_
                    show own_Run p e below T864 (mkF m 172 #[.val (.int p0), .val (.int p1), .val (.int p2), .val (.ref b434), .val (.int (7 : Int32)), .val (.int (p1 &&& (3 : Int32))), .val (.int (own_f0_j115_L6 p1 p2)), .val (.int (own_f0_151''''' p1 p2))] [(.int (0 : Int32))]) _
                    have hj0 : (own_f0_j172_S0''''''' p1 p2) = (0 : Int32) := (if_neg hc866)
                    exact own_here (by rw [hj0])
                refine own_tr st865 ?_
                show own_Run p e below T864 (mkF m 172 #[.val (.int p0), .val (.int p1), .val (.int p2), .val (.ref b434), .val (.int (7 : Int32)), .val (.int (p1 &&& (3 : Int32))), .val (.int (own_f0_j115_L6 p1 p2)), .val (.int (own_f0_151''''' p1 p2))] [(.int (own_f0_j172_S0''''''' p1 p2))]) _
                exact own_retZ X864 hx hlk hret (hb hby at_172) (by decide) (by decide) N864 trivial
def own_E (k c : Int32) : Int32 := (if c < (0 : Int32) then (0 : Int32) else (if c < (128 : Int32) then (if (own_r1 c) = (0 : Int32) then (if (own_r2 k c) = (0 : Int32) then (0 : Int32) else (1 : Int32)) else (1 : Int32)) else (0 : Int32)))
theorem own_nat (c : Int32) (h : 0 ≤ c.toInt ∧ c.toInt < 128) : c.toBitVec.toNat < 128 := by
  have e : c.toInt = c.toBitVec.toInt := rfl
  rw [e, BitVec.toInt_eq_toNat_cond] at h
  have := c.toBitVec.isLt
  split at h <;> omega
theorem own_nat' (c : Int32) (h : c.toBitVec.toNat < 128) : 0 ≤ c.toInt ∧ c.toInt < 128 := by
  have e : c.toInt = c.toBitVec.toInt := rfl
  rw [e, BitVec.toInt_eq_toNat_cond, if_pos (by omega)]; omega
theorem own_fin128 (c : Int32) (h : 0 ≤ c.toInt ∧ c.toInt < 128) : ∃ n : Fin 128, c = Int32.ofNat n.val := by
  refine ⟨⟨c.toBitVec.toNat, own_nat c h⟩, ?_⟩
  apply Int32.toBitVec_inj.mp
  show c.toBitVec = BitVec.ofNat 32 c.toBitVec.toNat
  simp
theorem own_u7 (c : Int32) (h : (own_ushr c (7 : Int32)) = (0 : Int32)) : 0 ≤ c.toInt ∧ c.toInt < 128 := by
  apply own_nat'
  have q : (own_ushr c (7 : Int32)).toBitVec = c.toBitVec >>> 7 := by
    show c.toBitVec >>> (((7 : Int32) &&& 31).toUInt32.toBitVec % 32#32) = _
    rw [BitVec.ushiftRight_eq']; rfl
  rw [h] at q
  have q2 := congrArg BitVec.toNat q
  rw [BitVec.toNat_ushiftRight] at q2
  have z : (0 : Int32).toBitVec.toNat = 0 := rfl
  rw [z, Nat.shiftRight_eq_div_pow] at q2
  omega
theorem own_all {lo hi : Int64} {k : Int32} (tab : ∀ n : Fin 128, own_r3 (Int32.ofNat n.val) lo hi = own_E k (Int32.ofNat n.val)) (c : Int32) : own_r3 c lo hi = own_E k c := by
  by_cases h : 0 ≤ c.toInt ∧ c.toInt < 128
  · obtain ⟨n, rfl⟩ := own_fin128 c h; exact tab n
  · have z : own_r3 c lo hi = 0 := by unfold own_r3 own_f3_j40_S0; rw [if_neg (fun q => h (own_u7 c q))]; rfl
    rw [z]; unfold own_E
    have e0 : (0 : Int32).toInt = 0 := by decide
    have e1 : (128 : Int32).toInt = 128 := by decide
    by_cases h1 : c < (0 : Int32)
    · rw [if_pos h1]
    · rw [if_neg h1, if_neg]
      rw [Int32.lt_iff_toInt_lt] at h1 ⊢; omega
set_option maxRecDepth 65536 in
theorem own_tab0 : ∀ n : Fin 128, own_r3 (Int32.ofNat n.val) (288054454291267584 : Int64) (5188146764422578174 : Int64) = own_E (0 : Int32) (Int32.ofNat n.val) := by decide +kernel
set_option maxRecDepth 65536 in
theorem own_tab1 : ∀ n : Fin 128, own_r3 (Int32.ofNat n.val) (3458623578763689984 : Int64) (5188146764422578175 : Int64) = own_E (1 : Int32) (Int32.ofNat n.val) := by decide +kernel
set_option maxRecDepth 65536 in
theorem own_tab2 : ∀ n : Fin 128, own_r3 (Int32.ofNat n.val) (3458764316252045312 : Int64) (5188146764422578175 : Int64) = own_E (2 : Int32) (Int32.ofNat n.val) := by decide +kernel
set_option maxRecDepth 65536 in
theorem own_tab3 : ∀ n : Fin 128, own_r3 (Int32.ofNat n.val) (-5764607720602730496 : Int64) (5188146764422578175 : Int64) = own_E (3 : Int32) (Int32.ofNat n.val) := by decide +kernel
set_option maxRecDepth 65536 in
theorem own_tab4 : ∀ n : Fin 128, own_r3 (Int32.ofNat n.val) (-8646920553090777088 : Int64) (5188146764422578175 : Int64) = own_E (4 : Int32) (Int32.ofNat n.val) := by decide +kernel
set_option maxRecDepth 65536 in
theorem own_tab5 : ∀ n : Fin 128, own_r3 (Int32.ofNat n.val) (-5764607720602730496 : Int64) (5188146764422578175 : Int64) = own_E (5 : Int32) (Int32.ofNat n.val) := by decide +kernel
set_option maxRecDepth 65536 in
theorem own_tab6 : ∀ n : Fin 128, own_r3 (Int32.ofNat n.val) (3170393202611978240 : Int64) (5188146764422578174 : Int64) = own_E (6 : Int32) (Int32.ofNat n.val) := by decide +kernel
set_option maxRecDepth 65536 in
theorem own_tab7 : ∀ n : Fin 128, own_r3 (Int32.ofNat n.val) (288058852337778688 : Int64) (576460745995190270 : Int64) = own_E (7 : Int32) (Int32.ofNat n.val) := by decide +kernel
theorem own_plain (p0 p1 p2 : Int32) : own_r0 p0 p1 p2 = 1 := by
  unfold own_r0
  have t0 : nar .boolean (own_f0_j172_S0 p1 p2) = 1 := by
    unfold own_f0_j172_S0; rw [if_pos]
    · rfl
    · exact own_all own_tab0 _
  have t1 : nar .boolean (own_f0_j172_S0' p1 p2) = 1 := by
    unfold own_f0_j172_S0'; rw [if_pos]
    · rfl
    · exact own_all own_tab1 _
  have t2 : nar .boolean (own_f0_j172_S0'' p1 p2) = 1 := by
    unfold own_f0_j172_S0''; rw [if_pos]
    · rfl
    · exact own_all own_tab2 _
  have t3 : nar .boolean (own_f0_j172_S0''' p1 p2) = 1 := by
    unfold own_f0_j172_S0'''; rw [if_pos]
    · rfl
    · exact own_all own_tab3 _
  have t4 : nar .boolean (own_f0_j172_S0'''' p1 p2) = 1 := by
    unfold own_f0_j172_S0''''; rw [if_pos]
    · rfl
    · exact own_all own_tab4 _
  have t5 : nar .boolean (own_f0_j172_S0''''' p1 p2) = 1 := by
    unfold own_f0_j172_S0'''''; rw [if_pos]
    · rfl
    · exact own_all own_tab5 _
  have t6 : nar .boolean (own_f0_j172_S0'''''' p1 p2) = 1 := by
    unfold own_f0_j172_S0''''''; rw [if_pos]
    · rfl
    · exact own_all own_tab6 _
  have t7 : nar .boolean (own_f0_j172_S0''''''' p1 p2) = 1 := by
    unfold own_f0_j172_S0'''''''; rw [if_pos]
    · rfl
    · exact own_all own_tab7 _
  rw [t0, t1, t2, t3, t4, t5, t6, t7]
  simp only [ite_self]

set_option maxRecDepth 65536 in
set_option maxHeartbeats 40000000 in
theorem own_comes {Post : Tables → Env → Array Value → State → Outcome → State → Prop} (hpost : ∀ tb e args s v u, (limb_1_1.after args s (.returned v) u = true ∧ limb_1_2.after args s (.returned v) u = true ∧ True) → FrameEnd s (.returned v) u (Jvm.fieldLocs frame_1_writes args s ++ Jvm.arrayLocs frame_1_arrays args s ++ Jvm.staticLocs frame_1_statics s) 16 128 → Post tb e args s (.returned v) u) :
    ArmFor flags0 classFile x code maxLocals ret World_1 tables_1 room_1 Calls_1 rest_1 Pre_1 Post := by
  intro l hfl _ _ p e ha hc hk s m args below hf hA hF happ hP
  obtain ⟨hcalls, hrest, hpre⟩ := hP
  obtain ⟨-, -, -, hnamed, -, -, -, hat⟩ := (Spec.applies_iff hf).mp happ
  obtain ⟨hg, hn⟩ := and_e (Cond.before_iff.mp (show (Jvm.Cond.and given_1 narrow_1).before args s = true from hpre))
  obtain ⟨gc, g0⟩ := and_e hg
  obtain ⟨v0, g1⟩ := and_e g0
  obtain ⟨v1, g2⟩ := and_e g1
  obtain ⟨w0, w1, w2, rfl⟩ : ∃ w0 w1 w2 : Value, args = #[w0, w1, w2] := by
    have hs : args.size = 3 := by simpa [Cond.value, given_1] using gc
    obtain ⟨L⟩ := args
    match L, hs with
    | [w0, w1, w2], _ => exact ⟨w0, w1, w2, rfl⟩
  have hw := fun d (hd : d ∈ tables_1) => atoms_spec (ws := Jvm.Cond.code x code maxLocals ret :: tables_1) hat d (List.mem_cons_of_mem _ hd)
  obtain ⟨i0, ei0⟩ := is_v v0
  obtain rfl : w0 = (.int i0) := Option.some.inj ei0
  obtain ⟨i1, ei1⟩ := is_v v1
  obtain rfl : w1 = (.int i1) := Option.some.inj ei1
  obtain ⟨i2, ei2⟩ := is_v g2
  obtain rfl : w2 = (.int i2) := Option.some.inj ei2
  have nn0 := hn
  obtain ⟨nv0, nn1⟩ := and_e nn0
  obtain ⟨nv1, nn2⟩ := and_e nn1
  obtain ⟨nv2, nn3⟩ := and_e nn2
  obtain ⟨nv3, nn4⟩ := and_e nn3
  obtain ⟨nv4, nn5⟩ := and_e nn4
  obtain ⟨nv5, nn6⟩ := and_e nn5
  obtain ⟨nv6, nn7⟩ := and_e nn6
  obtain ⟨nv7, nn8⟩ := and_e nn7
  obtain ⟨nv8, nn9⟩ := and_e nn8
  obtain ⟨nv9, nn10⟩ := and_e nn9
  obtain ⟨nv10, nn11⟩ := and_e nn10
  obtain ⟨nv11, nn12⟩ := and_e nn11
  obtain ⟨nv12, nn13⟩ := and_e nn12
  obtain ⟨nv13, nn14⟩ := and_e nn13
  obtain ⟨nv14, nn15⟩ := and_e nn14
  obtain ⟨nv15, nn16⟩ := and_e nn15
  obtain ⟨nv16, nn17⟩ := and_e nn16
  obtain ⟨nv17, nn18⟩ := and_e nn17
  obtain ⟨nv18, nn19⟩ := and_e nn18
  obtain ⟨nv19, nn20⟩ := and_e nn19
  obtain ⟨nv20, nn21⟩ := and_e nn20
  obtain ⟨nv21, nn22⟩ := and_e nn21
  obtain ⟨nv22, nn23⟩ := and_e nn22
  obtain ⟨w100, ev0⟩ := exa_v nv0
  have Ex0 := Exa.start ev0 nv0
  have S0 := Sta.start ev0 (Or.inr ⟨(hw _ (List.mem_of_getElem? (i := 3) rfl)), (hw _ (List.mem_of_getElem? (i := 4) rfl))⟩)
  have Lo0 := own_fieldJ ev0 nv8
  have Hi0 := own_fieldJ ev0 nv12
  obtain ⟨w101, ev1⟩ := exa_v nv1
  have Ex1 := Exa.start ev1 nv1
  have S1 := Sta.start ev1 (Or.inr ⟨(hw _ (List.mem_of_getElem? (i := 3) rfl)), (hw _ (List.mem_of_getElem? (i := 7) rfl))⟩)
  have Lo1 := own_fieldJ ev1 nv9
  have Hi1 := own_fieldJ ev1 nv18
  obtain ⟨w102, ev2⟩ := exa_v nv2
  have Ex2 := Exa.start ev2 nv2
  have S2 := Sta.start ev2 (Or.inr ⟨(hw _ (List.mem_of_getElem? (i := 3) rfl)), (hw _ (List.mem_of_getElem? (i := 9) rfl))⟩)
  have Lo2 := own_fieldJ ev2 nv15
  have Hi2 := own_fieldJ ev2 nv13
  obtain ⟨w103, ev3⟩ := exa_v nv3
  have Ex3 := Exa.start ev3 nv3
  have S3 := Sta.start ev3 (Or.inr ⟨(hw _ (List.mem_of_getElem? (i := 3) rfl)), (hw _ (List.mem_of_getElem? (i := 11) rfl))⟩)
  have Lo3 := own_fieldJ ev3 nv17
  have Hi3 := own_fieldJ ev3 nv14
  obtain ⟨w104, ev4⟩ := exa_v nv4
  have Ex4 := Exa.start ev4 nv4
  have S4 := Sta.start ev4 (Or.inr ⟨(hw _ (List.mem_of_getElem? (i := 3) rfl)), (hw _ (List.mem_of_getElem? (i := 13) rfl))⟩)
  have Lo4 := own_fieldJ ev4 nv22
  have Hi4 := own_fieldJ ev4 nv10
  obtain ⟨w105, ev5⟩ := exa_v nv5
  have Ex5 := Exa.start ev5 nv5
  have S5 := Sta.start ev5 (Or.inr ⟨(hw _ (List.mem_of_getElem? (i := 3) rfl)), (hw _ (List.mem_of_getElem? (i := 15) rfl))⟩)
  have Lo5 := own_fieldJ ev5 nv19
  have Hi5 := own_fieldJ ev5 nv16
  obtain ⟨w106, ev6⟩ := exa_v nv6
  have Ex6 := Exa.start ev6 nv6
  have S6 := Sta.start ev6 (Or.inr ⟨(hw _ (List.mem_of_getElem? (i := 3) rfl)), (hw _ (List.mem_of_getElem? (i := 17) rfl))⟩)
  have Lo6 := own_fieldJ ev6 nv20
  have Hi6 := own_fieldJ ev6 nn23
  obtain ⟨w107, ev7⟩ := exa_v nv7
  have Ex7 := Exa.start ev7 nv7
  have S7 := Sta.start ev7 (Or.inr ⟨(hw _ (List.mem_of_getElem? (i := 3) rfl)), (hw _ (List.mem_of_getElem? (i := 19) rfl))⟩)
  have Lo7 := own_fieldJ ev7 nv21
  have Hi7 := own_fieldJ ev7 nv11
  obtain ⟨n, o, h1, h2, h3, _, L, rfl, ⟨rfl, N, -⟩, hq⟩ := rm0 l s _ hw tables_1 i0 i1 i2 w100 w101 w102 w103 w104 w105 w106 w107 s.heap s.heap.size (Nat.le_refl _) S0 Ex0 Lo0 Hi0 S1 Ex1 Lo1 Hi1 S2 Ex2 Lo2 Hi2 S3 Ex3 Lo3 Hi3 S4 Ex4 Lo4 Hi4 S5 Ex5 Lo5 Hi5 S6 Ex6 Lo6 Hi6 S7 Ex7 Lo7 Hi7 p e ha hc hk s m _ below hf ((Spec.applies_iff_loose hf).mp happ).1 ⟨rfl, State.Warmed39.refl s, rfl⟩ trivial
  have hv : own_r0 i0 i1 i2 = 1 := own_plain i0 i1 i2
  refine ⟨n, _, h1, h2, h3, hpost _ _ _ _ _ _ ⟨Cond.after_iff.mpr rfl, Cond.after_iff.mpr (eq_i res_at (Term.int_eval (1)) (congrArg Value.int hv)), trivial⟩ ⟨hq.1, hq.2.1, (hq.2.2.sift fun y hy => Or.inr (N y hy)).mono (by decide) (by decide)⟩⟩
theorem main_1_1 : Claimed_1_1 := own_comes fun _ _ _ _ _ _ h hF => ⟨h.1, hF⟩
theorem main_1_2 : Claimed_1_2 := own_comes fun _ _ _ _ _ _ h hF => ⟨h.2.1, hF⟩
end Jvm.Pilot.@@N@@
namespace Jvm.Pilot.@@N@@
open Jvm Jvm.ClassFile Sem Op Lib Jvm.Free Jvm.Stand Jvm.Pilot.@@N@@.Jvm.D
/-! MADE BY PROGRAM (witnessworld.py) out of the Statement's table words and the real class files: 13 classes; the members and pool entries that the words name. The judged class is class 1, her method 3. -/
namespace start1
open Jvm.ClassFile
def u (s : String) : CpInfo := .utf8 (stringToUtf16 s)
/-- a pool by its gaps: so many unusable entries, then the entry; so many at the end -/
def gap : Nat → List CpInfo → List CpInfo
  | 0, r => r
  | n + 1, r => .unusable :: gap n r
def poolList (es : List (Nat × CpInfo)) (last : Nat) : List CpInfo := es.foldr (fun e r => gap e.1 (e.2 :: r)) (gap last [])
def pool (es : List (Nat × CpInfo)) (last : Nat) : Array CpInfo := ⟨poolList es last⟩
def fileOf (pool : Array CpInfo) (this : Nat) (attrs : Array Attribute := #[]) (ms : Array MethodInfo := #[]) (fl : Nat := 33) (sup : Nat := 0) (ifs : Array Nat := #[]) (fds : Array FieldInfo := #[]) : ClassFile where
  minorVersion := 0
  majorVersion := 65
  constantPool := pool
  accessFlags := fl
  thisClass := this
  superClass := sup
  interfaces := ifs
  fields := fds
  methods := ms
  attributes := attrs
def plain (name : String) (sup : Option ClassId) : Class where
  name := name
  kind := .ordinary
  loader := none
  accessFlags := 33
  super := sup
  interfaces := #[]
  cf := none
  fields := #[]
  methods := #[]
  instanceTypes := #[]
  staticTypes := #[]
  resolved := #[]
  callSites := []
  init := .initialized
  statics := none
  mirror := none

def pool0 : Array CpInfo := pool [(5, u "<init>"), (0, u "()V"), (1, .class_ 10), (1, u "java/lang/Object")] 113

def k0m0 : Method := { name := "<init>", desc := "()V", sig := { parameters := [], returnType := none }, accessFlags := 1, code := none }
/-- java/lang/Object -/
def k0 : Class := { plain "java/lang/Object" none with
  accessFlags := 33
  interfaces := #[]
  cf := some (fileOf pool0 8 #[] #[{ accessFlags := 1, nameIndex := 5, descriptorIndex := 6, attributes := #[] }] 33 0 #[] #[])
  fields := #[]
  methods := #[k0m0]
  instanceTypes := #[]
  staticTypes := #[]
  resolved := Array.replicate 124 none
  statics := none }

def pool1 : Array CpInfo := pool [(2, .class_ 4), (1, u "java/lang/Object"), (0, u "<init>"), (0, u "()V"), (0, .class_ 8), (0, u "com/example/fuxi/fuxi/model/Part"), (0, .fieldref 7 10), (0, .nameAndType 11 12), (0, u "COMPONENT"), (0, u "Lcom/example/fuxi/fuxi/model/Part;"), (0, .fieldref 7 14), (0, .nameAndType 15 12), (0, u "PATH_SEGMENT"), (0, .fieldref 7 17), (0, .nameAndType 18 12), (0, u "PATH"), (0, .fieldref 7 20), (0, .nameAndType 21 12), (0, u "QUERY"), (0, .fieldref 7 23), (0, .nameAndType 24 12), (0, u "QUERY_PARAM"), (0, .fieldref 7 26), (0, .nameAndType 27 12), (0, u "FRAGMENT"), (0, .fieldref 7 29), (0, .nameAndType 30 12), (0, u "USERINFO"), (0, .fieldref 7 32), (0, .nameAndType 33 12), (0, u "FORM"), (0, .integer 131071), (0, .methodref 36 37), (0, .class_ 38), (0, .nameAndType 39 40), (0, u "com/example/fuxi/fuxi/model/PartKeepsPinLaw"), (0, u "alnum"), (0, u "(I)Z"), (0, .methodref 36 42), (0, .nameAndType 43 44), (0, u "punct"), (0, u "(II)Z"), (0, .methodref 7 46), (0, .nameAndType 47 40), (0, u "keeps"), (3, u "law"), (0, u "(III)Z")] 4

def k1m0 : Method := { name := "<init>", desc := "()V", sig := { parameters := [], returnType := none }, accessFlags := 2, code := none }
def k1c1 : Code := { maxStack := 2, maxLocals := 1, code := method_2_code, exceptionTable := #[], attributes := #[] }
def k1m1 : Method := { name := "alnum", desc := "(I)Z", sig := { parameters := [.int], returnType := some .boolean }, accessFlags := 10, code := some k1c1 }
def k1c2 : Code := { maxStack := 2, maxLocals := 2, code := method_3_code, exceptionTable := #[], attributes := #[] }
def k1m2 : Method := { name := "punct", desc := "(II)Z", sig := { parameters := [.int, .int], returnType := some .boolean }, accessFlags := 10, code := some k1c2 }
def k1c3 : Code := { maxStack := 4, maxLocals := 8, code := code, exceptionTable := #[], attributes := #[] }
def k1m3 : Method := { name := "law", desc := "(III)Z", sig := { parameters := [.int, .int, .int], returnType := some .boolean }, accessFlags := 9, code := some k1c3 }
/-- com/example/fuxi/fuxi/model/PartKeepsPinLaw -/
def k1 : Class := { plain "com/example/fuxi/fuxi/model/PartKeepsPinLaw" (some 0) with
  accessFlags := 49
  interfaces := #[]
  cf := some (fileOf pool1 36 #[] #[{ accessFlags := 2, nameIndex := 5, descriptorIndex := 6, attributes := #[] }, { accessFlags := 10, nameIndex := 39, descriptorIndex := 40, attributes := #[] }, { accessFlags := 10, nameIndex := 43, descriptorIndex := 44, attributes := #[] }, { accessFlags := 9, nameIndex := 51, descriptorIndex := 52, attributes := #[] }] 49 2 #[] #[])
  fields := #[]
  methods := #[k1m0, k1m1, k1m2, k1m3]
  instanceTypes := #[]
  staticTypes := #[]
  resolved := Array.replicate 57 none
  statics := none }

def pool2 : Array CpInfo := pool [(1, .class_ 2), (0, u "java/lang/constant/Constable"), (0, .class_ 4), (0, u "java/lang/Object")] 6

/-- java/lang/constant/Constable -/
def k2 : Class := { plain "java/lang/constant/Constable" (some 0) with
  accessFlags := 1537
  interfaces := #[]
  cf := some (fileOf pool2 1 #[] #[] 1537 3 #[] #[])
  fields := #[]
  methods := #[]
  instanceTypes := #[]
  staticTypes := #[]
  resolved := Array.replicate 11 none
  statics := none }

def pool3 : Array CpInfo := pool [(1, .class_ 2), (0, u "java/lang/Comparable"), (0, .class_ 4), (0, u "java/lang/Object")] 7

/-- java/lang/Comparable -/
def k3 : Class := { plain "java/lang/Comparable" (some 0) with
  accessFlags := 1537
  interfaces := #[]
  cf := some (fileOf pool3 1 #[] #[] 1537 3 #[] #[])
  fields := #[]
  methods := #[]
  instanceTypes := #[]
  staticTypes := #[]
  resolved := Array.replicate 12 none
  statics := none }

def pool4 : Array CpInfo := pool [(1, .class_ 2), (0, u "java/io/Serializable"), (0, .class_ 4), (0, u "java/lang/Object")] 2

/-- java/io/Serializable -/
def k4 : Class := { plain "java/io/Serializable" (some 0) with
  accessFlags := 1537
  interfaces := #[]
  cf := some (fileOf pool4 1 #[] #[] 1537 3 #[] #[])
  fields := #[]
  methods := #[]
  instanceTypes := #[]
  staticTypes := #[]
  resolved := Array.replicate 7 none
  statics := none }

def pool5 : Array CpInfo := pool [(2, .class_ 4), (1, u "java/lang/Enum"), (0, u "name"), (0, u "Ljava/lang/String;"), (2, u "ordinal"), (0, u "I"), (1, .class_ 14), (1, u "java/lang/Object"), (4, u "hash"), (86, .class_ 108), (1, u "java/lang/Enum$EnumDesc"), (2, .class_ 112), (0, u "java/lang/constant/Constable"), (0, .class_ 114), (0, u "java/lang/Comparable"), (0, .class_ 116), (0, u "java/io/Serializable")] 87

/-- java/lang/Enum -/
def k5 : Class := { plain "java/lang/Enum" (some 0) with
  accessFlags := 1057
  interfaces := #[2, 3, 4]
  cf := some (fileOf pool5 2 #[.nestMembers #[106]] #[] 1057 12 #[111, 113, 115] #[{ accessFlags := 18, nameIndex := 5, descriptorIndex := 6, attributes := #[] }, { accessFlags := 18, nameIndex := 9, descriptorIndex := 10, attributes := #[] }, { accessFlags := 2, nameIndex := 19, descriptorIndex := 10, attributes := #[] }])
  fields := #[{ name := "name", type := (.object "java/lang/String"), accessFlags := 18, slot := 0, constantValue := 0 }, { name := "ordinal", type := .int, accessFlags := 18, slot := 1, constantValue := 0 }, { name := "hash", type := .int, accessFlags := 2, slot := 2, constantValue := 0 }]
  methods := #[]
  instanceTypes := #[(.object "java/lang/String"), .int, .int]
  staticTypes := #[]
  resolved := Array.replicate 204 none
  statics := none }

def pool6 : Array CpInfo := pool [(1, .class_ 2), (0, u "com/example/fuxi/fuxi/model/Part"), (2, u "COMPONENT"), (0, u "Lcom/example/fuxi/fuxi/model/Part;"), (2, u "PATH_SEGMENT"), (2, u "PATH"), (2, u "QUERY"), (2, u "QUERY_PARAM"), (2, u "FRAGMENT"), (2, u "USERINFO"), (2, u "FORM"), (2, u "$VALUES"), (0, u "[Lcom/example/fuxi/fuxi/model/Part;"), (6, .class_ 40), (1, u "java/lang/Enum"), (20, .fieldref 1 62), (0, .nameAndType 63 64), (0, u "low"), (0, u "J"), (0, .fieldref 1 66), (0, .nameAndType 67 64), (0, u "high"), (2, u "spaceAsPlus"), (0, u "Z"), (29, u "LETTERS_AND_DIGITS"), (0, u "Ljava/lang/String;"), (11, u "keeps"), (0, u "(I)Z")] 22

def k6c0 : Code := { maxStack := 5, maxLocals := 4, code := prog_21_method_4_code, exceptionTable := #[], attributes := #[] }
def k6m0 : Method := { name := "keeps", desc := "(I)Z", sig := { parameters := [.int], returnType := some .boolean }, accessFlags := 1, code := some k6c0 }
/-- com/example/fuxi/fuxi/model/Part -/
def k6 : Class := { plain "com/example/fuxi/fuxi/model/Part" (some 5) with
  accessFlags := 16433
  interfaces := #[]
  cf := some (fileOf pool6 1 #[] #[{ accessFlags := 1, nameIndex := 114, descriptorIndex := 115, attributes := #[] }] 16433 38 #[] #[{ accessFlags := 16409, nameIndex := 5, descriptorIndex := 6, attributes := #[] }, { accessFlags := 16409, nameIndex := 9, descriptorIndex := 6, attributes := #[] }, { accessFlags := 16409, nameIndex := 12, descriptorIndex := 6, attributes := #[] }, { accessFlags := 16409, nameIndex := 15, descriptorIndex := 6, attributes := #[] }, { accessFlags := 16409, nameIndex := 18, descriptorIndex := 6, attributes := #[] }, { accessFlags := 16409, nameIndex := 21, descriptorIndex := 6, attributes := #[] }, { accessFlags := 16409, nameIndex := 24, descriptorIndex := 6, attributes := #[] }, { accessFlags := 16409, nameIndex := 27, descriptorIndex := 6, attributes := #[] }, { accessFlags := 26, nameIndex := 101, descriptorIndex := 102, attributes := #[] }, { accessFlags := 18, nameIndex := 63, descriptorIndex := 64, attributes := #[] }, { accessFlags := 18, nameIndex := 67, descriptorIndex := 64, attributes := #[] }, { accessFlags := 18, nameIndex := 70, descriptorIndex := 71, attributes := #[] }, { accessFlags := 4122, nameIndex := 30, descriptorIndex := 31, attributes := #[] }])
  fields := #[{ name := "COMPONENT", type := (.object "com/example/fuxi/fuxi/model/Part"), accessFlags := 16409, slot := 0, constantValue := 0 }, { name := "PATH_SEGMENT", type := (.object "com/example/fuxi/fuxi/model/Part"), accessFlags := 16409, slot := 1, constantValue := 0 }, { name := "PATH", type := (.object "com/example/fuxi/fuxi/model/Part"), accessFlags := 16409, slot := 2, constantValue := 0 }, { name := "QUERY", type := (.object "com/example/fuxi/fuxi/model/Part"), accessFlags := 16409, slot := 3, constantValue := 0 }, { name := "QUERY_PARAM", type := (.object "com/example/fuxi/fuxi/model/Part"), accessFlags := 16409, slot := 4, constantValue := 0 }, { name := "FRAGMENT", type := (.object "com/example/fuxi/fuxi/model/Part"), accessFlags := 16409, slot := 5, constantValue := 0 }, { name := "USERINFO", type := (.object "com/example/fuxi/fuxi/model/Part"), accessFlags := 16409, slot := 6, constantValue := 0 }, { name := "FORM", type := (.object "com/example/fuxi/fuxi/model/Part"), accessFlags := 16409, slot := 7, constantValue := 0 }, { name := "LETTERS_AND_DIGITS", type := (.object "java/lang/String"), accessFlags := 26, slot := 8, constantValue := 0 }, { name := "low", type := .long, accessFlags := 18, slot := 3, constantValue := 0 }, { name := "high", type := .long, accessFlags := 18, slot := 4, constantValue := 0 }, { name := "spaceAsPlus", type := .boolean, accessFlags := 18, slot := 5, constantValue := 0 }, { name := "$VALUES", type := (.array (.object "com/example/fuxi/fuxi/model/Part")), accessFlags := 4122, slot := 9, constantValue := 0 }]
  methods := #[k6m0]
  instanceTypes := #[(.object "java/lang/String"), .int, .int, .long, .long, .boolean]
  staticTypes := #[(.object "com/example/fuxi/fuxi/model/Part"), (.object "com/example/fuxi/fuxi/model/Part"), (.object "com/example/fuxi/fuxi/model/Part"), (.object "com/example/fuxi/fuxi/model/Part"), (.object "com/example/fuxi/fuxi/model/Part"), (.object "com/example/fuxi/fuxi/model/Part"), (.object "com/example/fuxi/fuxi/model/Part"), (.object "com/example/fuxi/fuxi/model/Part"), (.object "java/lang/String"), (.array (.object "com/example/fuxi/fuxi/model/Part"))]
  resolved := Array.replicate 138 none
  statics := some 0 }

def pool7 : Array CpInfo := pool [(1, u "java/lang/Cloneable"), (0, .class_ 1), (0, u "java/lang/Object"), (0, .class_ 3)] 3

/-- java/lang/Cloneable -/
def k7 : Class := { plain "java/lang/Cloneable" (some 0) with
  accessFlags := 1537
  interfaces := #[]
  cf := some (fileOf pool7 2 #[] #[] 1537 4 #[] #[])
  fields := #[]
  methods := #[]
  instanceTypes := #[]
  staticTypes := #[]
  resolved := Array.replicate 8 none
  statics := none }

/-- the primitive byte -/
def k8 : Class := { plain "byte" none with kind := .primitive 'B', accessFlags := 0x411 }
/-- [B -/
def k9 : Class := { plain "[B" (some 0) with kind := .array 8 .byte, interfaces := #[7, 4], accessFlags := 1041 }

/-- the primitive int -/
def k10 : Class := { plain "int" none with kind := .primitive 'I', accessFlags := 0x411 }
/-- [I -/
def k11 : Class := { plain "[I" (some 0) with kind := .array 10 .int, interfaces := #[7, 4], accessFlags := 1041 }

/-- [Lcom/example/fuxi/fuxi/model/Part; -/
def k12 : Class := { plain "[Lcom/example/fuxi/fuxi/model/Part;" (some 0) with kind := .array 6 (.object "com/example/fuxi/fuxi/model/Part"), interfaces := #[7, 4], accessFlags := 1041 }

def heap : Heap := #[{ cls := 6, slots := #[.ref 1, .ref 2, .ref 3, .ref 4, .ref 5, .ref 6, .ref 7, .ref 8, .null, .null], vm := .statics 6 },
  { cls := 6, slots := #[.null, .int 0, .int 0, .long (288054454291267584), .long (5188146764422578174), .int 0], vm := .none },
  { cls := 6, slots := #[.null, .int 0, .int 0, .long (3458623578763689984), .long (5188146764422578175), .int 0], vm := .none },
  { cls := 6, slots := #[.null, .int 0, .int 0, .long (3458764316252045312), .long (5188146764422578175), .int 0], vm := .none },
  { cls := 6, slots := #[.null, .int 0, .int 0, .long (-5764607720602730496), .long (5188146764422578175), .int 0], vm := .none },
  { cls := 6, slots := #[.null, .int 0, .int 0, .long (-8646920553090777088), .long (5188146764422578175), .int 0], vm := .none },
  { cls := 6, slots := #[.null, .int 0, .int 0, .long (-5764607720602730496), .long (5188146764422578175), .int 0], vm := .none },
  { cls := 6, slots := #[.null, .int 0, .int 0, .long (3170393202611978240), .long (5188146764422578174), .int 0], vm := .none },
  { cls := 6, slots := #[.null, .int 0, .int 0, .long (288058852337778688), .long (576460745995190270), .int 0], vm := .none }]
def classes : Array Class := #[k0, k1, k2, k3, k4, k5, k6, k7, k8, k9, k10, k11, k12]
def interned : List (Array UInt16 × Addr) := []
def slotsUsed : Nat := 58
def theMethod : MethodId := ⟨1, 3⟩
def args0 : Array Value := #[.int 3, .int 1, .int 65]
def aboutOver (below : List Frame) : State where
  vm := { classes := classes, interned := interned.toArray }
  heap := heap
  slotsUsed := slotsUsed
  threads := #[{ frames := .invoking theMethod args0 :: below }]
def below0 : List Frame := [.native { method := ⟨0, 0⟩, args := #[] }]
def about1 : State := aboutOver below0
def p0 : Program := .bare "" "" ""
def e0 : Env := launch0.env 0 0 0
theorem w_frames : about1.frames = Frame.invoking theMethod args0 :: below0 := rfl
set_option maxRecDepth 65536 in
theorem w_args : argsFit about1.vm theMethod args0 = true := by decide +kernel
set_option maxRecDepth 65536 in
theorem w_heap : heapFits about1 = true := by decide +kernel
set_option maxRecDepth 65536 in
theorem w_runnable : about1.curStatus? = some .runnable := by decide +kernel
set_option maxRecDepth 65536 in
theorem w_alone : about1.alone = true := by decide +kernel
set_option maxRecDepth 65536 in
theorem w_named : about1.methodNamed? x = some theMethod := by decide +kernel
set_option maxRecDepth 65536 in
theorem w_hears : about1.hears theMethod below0 = true := by decide +kernel
set_option maxRecDepth 65536 in
theorem w_ripe : about1.ripe theMethod args0 below0 = true := by decide +kernel
theorem w_running : about1.status = .running := rfl
set_option maxRecDepth 65536 in
theorem w_room : about1.hasRoom e0.platform room_1 = true :=
  launch0.hasRoom_least _ room_1 (by decide +kernel) (by decide +kernel) (by decide +kernel) (by decide +kernel) (by decide +kernel) (by decide +kernel)
theorem allAtoms_all (ts : List Jvm.Cond) (a : Array Jvm.Value) (st : Jvm.State) : (allAtoms ts).before a st = ts.all (fun c => c.before a st) := by
  induction ts with
  | nil => rfl
  | cons c t ih =>
    show (Jvm.Cond.and c (allAtoms t)).before a st = _
    rw [Jvm.Cond.before_and, ih, List.all_cons]
def words1 : List Jvm.Cond := Jvm.Cond.code x code maxLocals ret :: tables_1
/-- a 'code' word, met by the world's own term for the bytes: nothing is compared byte by byte -/
theorem code_word {y : MethodName} {bytes : ByteArray} {mx : Nat} {rt : Option FieldType} {a : Array Value} {s : State} {m : MethodId} {meth : Method} {c : Code} (h1 : s.methodNamed? y = some m) (h2 : s.vm.method? m = some meth) (h3 : meth.code = some c) (h4 : c.code = bytes)
    (h5 : (c.maxLocals == mx && c.exceptionTable.isEmpty && decide (c.maxStack ≤ mostOperands) && decide (meth.sig.returnType = rt) && !meth.locks && decide (parseMethodDescriptor y.desc = some meth.sig)) = true) : (Jvm.Cond.code y bytes mx rt).before a s = true := by
  simp only [Bool.and_eq_true, beq_iff_eq, Bool.not_eq_true', decide_eq_true_eq] at h5
  obtain ⟨⟨⟨⟨⟨g1, g2⟩, g3⟩, g4⟩, g5⟩, g6⟩ := h5
  simp [Cond.before, Cond.holds, Cond.value, h1, h2, h3, h4, g1, g2, g3, g4, g5, g6]
def isCode : Jvm.Cond → Bool
  | .code _ _ _ _ => true
  | _ => false
theorem all_split {L : List Jvm.Cond} {P : Jvm.Cond → Bool} (h1 : L.all (fun c => isCode c || P c) = true) (h2 : ∀ c ∈ L.filter isCode, P c = true) : L.all P = true := by
  refine List.all_eq_true.mpr fun c hc => ?_
  have h := List.all_eq_true.mp h1 c hc
  rcases Bool.eq_false_or_eq_true (isCode c) with hi | hi
  · exact h2 c (List.mem_filter.mpr ⟨hc, hi⟩)
  · simpa [hi] using h
set_option maxRecDepth 65536 in
theorem w_c0 : (Jvm.Cond.code x code maxLocals ret).before args0 about1 = true := code_word (m := ⟨1, 3⟩) (meth := k1m3) (c := k1c3) (by decide +kernel) rfl rfl rfl (by decide +kernel)
set_option maxRecDepth 65536 in
theorem w_c1 : (Jvm.Cond.code ({ cls := "com/example/fuxi/fuxi/model/PartKeepsPinLaw", name := "alnum", desc := "(I)Z" } : Jvm.MethodName) method_2_code (1 : Nat) (Option.some Jvm.ClassFile.FieldType.boolean)).before args0 about1 = true := code_word (m := ⟨1, 1⟩) (meth := k1m1) (c := k1c1) (by decide +kernel) rfl rfl rfl (by decide +kernel)
set_option maxRecDepth 65536 in
theorem w_c2 : (Jvm.Cond.code ({ cls := "com/example/fuxi/fuxi/model/PartKeepsPinLaw", name := "punct", desc := "(II)Z" } : Jvm.MethodName) method_3_code (2 : Nat) (Option.some Jvm.ClassFile.FieldType.boolean)).before args0 about1 = true := code_word (m := ⟨1, 2⟩) (meth := k1m2) (c := k1c2) (by decide +kernel) rfl rfl rfl (by decide +kernel)
set_option maxRecDepth 65536 in
theorem w_c3 : (Jvm.Cond.code ({ cls := "com/example/fuxi/fuxi/model/Part", name := "keeps", desc := "(I)Z" } : Jvm.MethodName) prog_21_method_4_code (4 : Nat) (Option.some Jvm.ClassFile.FieldType.boolean)).before args0 about1 = true := code_word (m := ⟨6, 0⟩) (meth := k6m0) (c := k6c0) (by decide +kernel) rfl rfl rfl (by decide +kernel)
def codes1 : List Jvm.Cond := [Jvm.Cond.code x code maxLocals ret, Jvm.Cond.code ({ cls := "com/example/fuxi/fuxi/model/PartKeepsPinLaw", name := "alnum", desc := "(I)Z" } : Jvm.MethodName) method_2_code (1 : Nat) (Option.some Jvm.ClassFile.FieldType.boolean), Jvm.Cond.code ({ cls := "com/example/fuxi/fuxi/model/PartKeepsPinLaw", name := "punct", desc := "(II)Z" } : Jvm.MethodName) method_3_code (2 : Nat) (Option.some Jvm.ClassFile.FieldType.boolean), Jvm.Cond.code ({ cls := "com/example/fuxi/fuxi/model/Part", name := "keeps", desc := "(I)Z" } : Jvm.MethodName) prog_21_method_4_code (4 : Nat) (Option.some Jvm.ClassFile.FieldType.boolean)]
set_option maxRecDepth 65536 in
theorem codes_eq : words1.filter isCode = codes1 := rfl
theorem w_codes : ∀ c ∈ words1.filter isCode, c.before args0 about1 = true := by
  rw [codes_eq]
  intro c hc
  simp only [codes1, List.mem_cons, List.not_mem_nil, or_false] at hc
  rcases hc with rfl | rfl | rfl | rfl
  · exact w_c0
  · exact w_c1
  · exact w_c2
  · exact w_c3
set_option maxRecDepth 65536 in
theorem w_t1 : (words1.take 24).all (fun c => isCode c || c.before args0 about1) = true := by decide +kernel
set_option maxRecDepth 65536 in
theorem w_t2 : (words1.drop 24).all (fun c => isCode c || c.before args0 about1) = true := by decide +kernel
theorem w_tables : (allAtoms (Jvm.Cond.code x code maxLocals ret :: tables_1)).before args0 about1 = true := by
  rw [allAtoms_all]
  show words1.all (fun c => c.before args0 about1) = true
  refine all_split ?_ w_codes
  rw [← List.take_append_drop 24 words1, List.all_append, w_t1, w_t2]
  rfl
set_option maxRecDepth 65536 in
theorem w_case : (Jvm.Cond.and given_1 narrow_1).before args0 about1 = true := by decide +kernel
theorem w_applies : (headSpec (Jvm.Cond.code x code maxLocals ret :: tables_1) room_1).applies x e0.platform about1 = true :=
  (Spec.applies_iff w_frames).mpr ⟨w_running, w_runnable, w_alone, w_named, w_hears, w_ripe, w_room, w_tables⟩
theorem atStart : AtStart classFile x code maxLocals ret World_1 tables_1 room_1 Calls_1 rest_1 Pre_1 launch0 p0 e0 about1 theMethod args0 below0 :=
  ⟨lists_1, trivial, launch0.admits_env _ _ _, launch0.least_env, fairChoices_fair.cas, fairChoices_fair.clock, w_frames, w_args, w_heap, w_applies, trivial, trivial, w_case⟩
end start1
theorem witness_1 : WitnessClaimed_1 := ⟨start1.p0, start1.e0, start1.about1, start1.theMethod, start1.args0, start1.below0, start1.atStart⟩
end Jvm.Pilot.@@N@@
