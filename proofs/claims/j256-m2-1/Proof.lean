import JvmDerived
import JvmDerived.Pilot.@@N@@Statement
import JvmDerived.Pilot.@@N@@Code
set_option linter.unusedVariables false
set_option linter.unusedSimpArgs false
@@BLOCK:NumsL.lean.txt@@
namespace Jvm.RoadKit
open Sem ClassFile Op Lib Jvm.Stand Jvm.Free Jvm.LawKit
section New
variable {p : Program} {l : Launch} {e : Env} {R : Room} {s : State} {m : MethodId} {args : Array Value} {below : List Frame} {meth : Method} {c : Code} {T : State} {locs : List Loc} {cells slots : Nat}
theorem retI (X : Stand p l e R s m args below meth c T locs cells slots) (hx : p.tables.exec = Jvm.exec) {pc : Nat} {Ls : Array Slot} {z : Int32} {rest : List Value} (hret : meth.sig.returnType = some .int) (hd : decode c.code pc = .ok (.ireturn, 1)) {fs : List Frame}
    (hl : ∀ (f : JFrame) (acts : List Action), f.method = m → f.locked = none → f.entered = [] → (doReturn e (T.setTop f) acts (some (.int z))).1 = T.setFrames fs) : Steps p.tables e below (T.setTop (mkF m pc Ls (.int z :: rest))) (T.setFrames fs) := by
  have hm' : T.vm.method? m = some meth := X.method'
  have hn : narrow .int (.int z) = .int z := rfl
  show Steps p.tables e below (T.setTop { method := m, pc := pc, locals := Ls, stack := _ :: rest, locked := none }) _
  jvm_step X.here [X.here.top, hx, hd, hm', hret, hn]
  first | (intro acts; rw [hl _ acts rfl rfl rfl]) | rw [hl _ _ rfl rfl rfl]
  exact Steps.refl _
end New
end Jvm.RoadKit
namespace Jvm.Pilot.@@N@@
open Jvm Jvm.ClassFile Sem Op Lib Jvm.Free Jvm.Stand Jvm.LawKit Jvm.RoadKit Bundle Jvm.Pilot.@@N@@.Jvm.D
/-! own: Java's shifts and remainders, written short -/
def own_shl (x y : Int32) : Int32 := x <<< (y &&& 31)
def own_shr (x y : Int32) : Int32 := x >>> (y &&& 31)
def own_ushr (x y : Int32) : Int32 := (x.toUInt32 >>> (y &&& 31).toUInt32).toInt32
def own_shlL (x : Int64) (y : Int32) : Int64 := x <<< (y &&& 0x3f).toInt64
def own_shrL (x : Int64) (y : Int32) : Int64 := x >>> (y &&& 0x3f).toInt64
def own_ushrL (x : Int64) (y : Int32) : Int64 := (x.toUInt64 >>> (y &&& 0x3f).toInt64.toUInt64).toInt64
def own_rem (x y : Int32) : Int32 := x - (x / y) * y
def own_remL (x y : Int64) : Int64 := x - (x / y) * y
theorem own_rem_nn {x y : Int32} (hx : 0 ≤ x.toInt) (hy : 0 < y.toInt) : (own_rem x y).toInt = x.toInt % y.toInt := by
  have hd : (x / y).toInt = x.toInt / y.toInt := by
    rw [Jvm.Kit.i32_div (by omega), Int.tdiv_eq_ediv_of_nonneg hx]
  have b1 := Int.emod_add_mul_ediv x.toInt y.toInt
  have b2 := Int.emod_nonneg x.toInt (by omega : y.toInt ≠ 0)
  have b3 := Int.emod_lt_of_pos x.toInt hy
  have b4 : 0 ≤ x.toInt / y.toInt := Int.ediv_nonneg hx (by omega)
  have hX := Int32.toInt_lt x
  have b5 : 0 ≤ y.toInt * (x.toInt / y.toInt) := Int.mul_nonneg (by omega) b4
  have hm : ((x / y) * y).toInt = y.toInt * (x.toInt / y.toInt) := by
    rw [Jvm.Kit.i32_mul (by rw [hd, Int.mul_comm]; omega) (by rw [hd, Int.mul_comm]; omega), hd, Int.mul_comm]
  unfold own_rem
  rw [Jvm.Kit.i32_sub (by rw [hm]; omega) (by rw [hm]; omega), hm]; omega
/-! own: a run from a frame to what 'Post' says -/
section OwnRun
variable {p : Program} {l : Launch} {e : Env} {R : Room} {s : State} {m : MethodId} {args : Array Value} {below : List Frame} {meth : Method} {c : Code} {T T' : State} {locs : List Loc} {cells slots : Nat} {g g' : JFrame} {Post : State → Prop} {n0 : Nat} {P : Heap → Prop} {C S : Nat} {Z : State} {h : Heap} {a : Addr} {k : ClassId} {n j : Int32} {vs : List Value} {d v : Value} {E : State → Outcome → State → List Loc → Nat → Nat → Prop}
def own_Run (p : Program) (e : Env) (below : List Frame) (T : State) (g : JFrame) (Post : State → Prop) : Prop := ∃ t, Steps p.tables e below (T.setTop g) t ∧ Post t
theorem own_step (st : ∀ t, Steps p.tables e below (T'.setTop g') t → Steps p.tables e below (T.setTop g) t) (h : own_Run p e below T' g' Post) : own_Run p e below T g Post := h.imp fun t k => ⟨st t k.1, k.2⟩
theorem own_tr (st : Steps p.tables e below (T.setTop g) (T'.setTop g')) (h : own_Run p e below T' g' Post) : own_Run p e below T g Post := h.imp fun t k => ⟨st.trans k.1, k.2⟩
theorem own_here (h : Post (T.setTop g)) : own_Run p e below T g Post := ⟨_, Steps.refl _, h⟩
theorem own_entry {Q : State → Prop} (q : g = g') (h : own_Run p e below T g' Q) : own_Run p e below T g Q := q ▸ h
def own_Q (n0 : Nat) (P : Heap → Prop) (w : Option Value) : Option Value → Heap → List Loc → Prop := fun v h L => v = w ∧ Fr n0 L ∧ P h
def own_Ret (E : State → Outcome → State → List Loc → Nat → Nat → Prop) (U : State) (below : List Frame) (C S : Nat) (Q : Option Value → Heap → List Loc → Prop) : State → Prop := fun t => t.status = .running ∧ ∃ o, Ended t below o ∧ ∃ v L, o = .returned v ∧ Q v t.heap L ∧ E U o t L C S
theorem own_fin {Q : Option Value → Heap → List Loc → Prop} (h : own_Run p e below T g (own_Ret E s below C S Q)) : ∃ s₂ o, Steps p.tables e below (T.setTop g) s₂ ∧ s₂.status = .running ∧ Ended s₂ below o ∧ ∃ v L, o = .returned v ∧ Q v s₂.heap L ∧ E s o s₂ L C S := by
  obtain ⟨t, st, hr, o, he, r⟩ := h; exact ⟨t, o, st, hr, he, r⟩
theorem own_vi {x y : Int32} (q : x = y) (h : own_Run p e below T g (own_Ret E s below C S (own_Q n0 P (some (.int y))))) : own_Run p e below T g (own_Ret E s below C S (own_Q n0 P (some (.int x)))) := q ▸ h
theorem own_vj {x y : Int64} (q : x = y) (h : own_Run p e below T g (own_Ret E s below C S (own_Q n0 P (some (.long y))))) : own_Run p e below T g (own_Ret E s below C S (own_Q n0 P (some (.long x)))) := q ▸ h
theorem own_leave {w : Option Value} (X : Stand p l e R s m args below meth c T locs cells slots) (hv : meth.sig.returnType = none → w = none) (hlk : meth.locks = false) (hC : cells ≤ C) (hS : slots ≤ S) (N : Fr n0 locs) (hP : P T.heap)
    (st : ∀ fs, (∀ (f : JFrame) (acts : List Action), f.method = m → f.locked = none → f.entered = [] → (doReturn e (T.setTop f) acts w).1 = T.setFrames fs) → Steps p.tables e below (T.setTop g) (T.setFrames fs)) : own_Run p e below T g (own_Ret FrameEnd s below C S (own_Q n0 P w)) := by
  obtain ⟨fs, hr, hrun, hended, hW, hsame⟩ := X.leave (v := w) hv hlk
  exact ⟨_, st fs hr, hrun, _, hended, _, _, rfl, ⟨rfl, N, hP⟩, ⟨_, rfl⟩, hW, hsame.mono hC hS⟩
theorem own_retZ (X : Stand p l e R s m args below meth c T locs cells slots) (hx : p.tables.exec = Jvm.exec) (hlk : meth.locks = false) {pc : Nat} {Ls : Array Slot} {z : Int32} {rest : List Value} (hret : meth.sig.returnType = some .boolean) (hd : decode c.code pc = .ok (.ireturn, 1)) (hC : cells ≤ C) (hS : slots ≤ S) (N : Fr n0 locs) (hP : P T.heap) :
    own_Run p e below T (mkF m pc Ls (.int z :: rest)) (own_Ret FrameEnd s below C S (own_Q n0 P (some (.int (nar .boolean z))))) :=
  own_leave X (fun q => by rw [hret] at q; cases q) hlk hC hS N hP fun fs hr => retN X hx (t := .boolean) hret (by simp) hd hr
theorem own_retI (X : Stand p l e R s m args below meth c T locs cells slots) (hx : p.tables.exec = Jvm.exec) (hlk : meth.locks = false) {pc : Nat} {Ls : Array Slot} {z : Int32} {rest : List Value} (hret : meth.sig.returnType = some .int) (hd : decode c.code pc = .ok (.ireturn, 1)) (hC : cells ≤ C) (hS : slots ≤ S) (N : Fr n0 locs) (hP : P T.heap) :
    own_Run p e below T (mkF m pc Ls (.int z :: rest)) (own_Ret FrameEnd s below C S (own_Q n0 P (some (.int z)))) :=
  own_leave X (fun q => by rw [hret] at q; cases q) hlk hC hS N hP fun fs hr => retI X hx hret hd hr
theorem own_retJ (X : Stand p l e R s m args below meth c T locs cells slots) (hx : p.tables.exec = Jvm.exec) (hlk : meth.locks = false) {pc : Nat} {Ls : Array Slot} {z : Int64} (hret : meth.sig.returnType = some .long) (hd : decode c.code pc = .ok (.lreturn, 1)) (hC : cells ≤ C) (hS : slots ≤ S) (N : Fr n0 locs) (hP : P T.heap) :
    own_Run p e below T (mkF m pc Ls [.long z]) (own_Ret FrameEnd s below C S (own_Q n0 P (some (.long z)))) :=
  own_leave X (fun q => by rw [hret] at q; cases q) hlk hC hS N hP fun fs hr => X.lreturnOut hx hret hd hr
theorem own_retD (X : Stand p l e R s m args below meth c T locs cells slots) (hx : p.tables.exec = Jvm.exec) (hlk : meth.locks = false) {pc : Nat} {Ls : Array Slot} {z : UInt64} {rest : List Value} (hret : meth.sig.returnType = some .double) (hd : decode c.code pc = .ok (.dreturn, 1)) (hC : cells ≤ C) (hS : slots ≤ S) (N : Fr n0 locs) (hP : P T.heap) :
    own_Run p e below T (mkF m pc Ls (.double z :: rest)) (own_Ret FrameEnd s below C S (own_Q n0 P (some (.double z)))) :=
  own_leave X (fun q => by rw [hret] at q; cases q) hlk hC hS N hP fun fs hr => retOut X hx (i := .dreturn) hret rfl (Or.inr (Or.inr (Or.inl ⟨rfl, rfl, z, rfl⟩))) hd hr
theorem own_retV (X : Stand p l e R s m args below meth c T locs cells slots) (hx : p.tables.exec = Jvm.exec) (hlk : meth.locks = false) {pc : Nat} {Ls : Array Slot} (hret : meth.sig.returnType = none) (hd : decode c.code pc = .ok (.return_, 1)) (hC : cells ≤ C) (hS : slots ≤ S) (N : Fr n0 locs) (hP : P T.heap) :
    own_Run p e below T (mkF m pc Ls []) (own_Ret FrameEnd s below C S (own_Q n0 P none)) :=
  own_leave X (fun _ => rfl) hlk hC hS N hP fun fs hr => X.returnOut hx hret hd hr
theorem own_retA (X : Stand p l e R s m args below meth c T locs cells slots) (hx : p.tables.exec = Jvm.exec) (hlk : meth.locks = false) {pc : Nat} {Ls : Array Slot} {w : Value} {t : FieldType} (hret : meth.sig.returnType = some t) (ht : t.isReference = true) (hw : w.isRef = true) (hd : decode c.code pc = .ok (.areturn, 1)) (hC : cells ≤ C) (hS : slots ≤ S) (N : Fr n0 locs) (hP : P T.heap) :
    own_Run p e below T (mkF m pc Ls [w]) (own_Ret FrameEnd s below C S (own_Q n0 P (some w))) :=
  own_leave X (fun q => by rw [hret] at q; cases q) hlk hC hS N hP fun fs hr => X.areturnOut hx hw hret ht hd hr
/-! own: the same where the walk may have loaded a String constant (the tables may hold a new pair) -/
theorem own_mixW {U t : State} {o : Outcome} {L : List Loc} {k n k' n' : Nat} (h : ReturnedEndW U o t L k n) (hk : k ≤ k') (hn : n ≤ n') : ReturnedEndW U o t L k' n' := ⟨h.1, h.2.1, h.2.2.1, h.2.2.2.mono hk hn⟩
theorem own_leaveW {vm₁ : Vm} {n : Nat} {w : Option Value} (X : Stand p l e R (s.setVm vm₁) m args below meth c T locs cells slots) (hS : s.Since vm₁ n) (hn : n ≤ T.heap.size) (hv : meth.sig.returnType = none → w = none) (hlk : meth.locks = false) (hC : cells ≤ C) (hSl : slots ≤ S) (N : Fr n0 locs) (hP : P T.heap)
    (st : ∀ fs, (∀ (f : JFrame) (acts : List Action), f.method = m → f.locked = none → f.entered = [] → (doReturn e (T.setTop f) acts w).1 = T.setFrames fs) → Steps p.tables e below (T.setTop g) (T.setFrames fs)) : own_Run p e below T g (own_Ret ReturnedEndW s below C S (own_Q n0 P w)) := by
  obtain ⟨fs, hr, hrun, hended, hW⟩ := X.leaveW hS hn (v := w) hv hlk
  exact ⟨_, st fs hr, hrun, _, hended, _, _, rfl, ⟨rfl, N, hP⟩, own_mixW hW hC hSl⟩
theorem own_retZW {vm₁ : Vm} {n : Nat} (X : Stand p l e R (s.setVm vm₁) m args below meth c T locs cells slots) (hx : p.tables.exec = Jvm.exec) (hlk : meth.locks = false) {pc : Nat} {Ls : Array Slot} {z : Int32} {rest : List Value} (hret : meth.sig.returnType = some .boolean) (hd : decode c.code pc = .ok (.ireturn, 1)) (hC : cells ≤ C) (hSl : slots ≤ S) (N : Fr n0 locs) (hP : P T.heap) (hS : s.Since vm₁ n) (hn : n ≤ T.heap.size) :
    own_Run p e below T (mkF m pc Ls (.int z :: rest)) (own_Ret ReturnedEndW s below C S (own_Q n0 P (some (.int (nar .boolean z))))) :=
  own_leaveW X hS hn (fun q => by rw [hret] at q; cases q) hlk hC hSl N hP fun fs hr => retN X hx (t := .boolean) hret (by simp) hd hr
theorem own_retVW {vm₁ : Vm} {n : Nat} (X : Stand p l e R (s.setVm vm₁) m args below meth c T locs cells slots) (hx : p.tables.exec = Jvm.exec) (hlk : meth.locks = false) {pc : Nat} {Ls : Array Slot} (hret : meth.sig.returnType = none) (hd : decode c.code pc = .ok (.return_, 1)) (hC : cells ≤ C) (hSl : slots ≤ S) (N : Fr n0 locs) (hP : P T.heap) (hS : s.Since vm₁ n) (hn : n ≤ T.heap.size) :
    own_Run p e below T (mkF m pc Ls []) (own_Ret ReturnedEndW s below C S (own_Q n0 P none)) :=
  own_leaveW X hS hn (fun _ => rfl) hlk hC hSl N hP fun fs hr => X.returnOut hx hret hd hr
/-- no static's home -/
def own_Pl (h : Heap) (a : Addr) : Prop := ∃ c : Cell, h[a]? = some c ∧ c.vm.isStatics = false
theorem own_plV {ty : FieldType} (F : Arv Z h a k ty n vs d) : own_Pl h a := by obtain ⟨c, A, -⟩ := F; exact ⟨c, A.1, A.plain⟩
theorem own_plE {Cn : String} (F : Exa Z h a Cn) : own_Pl h a := by obtain ⟨c, kk, h1, -, -, h4, -⟩ := F; exact ⟨c, h1, h4⟩
theorem own_keepS {h' : Heap} {ws : List Addr} {Cn fn dn : String} (F : Sta Z h Cn fn dn v) (K : Keep h h' ws) (A : ∀ a ∈ ws, own_Pl h a) : Sta Z h' Cn fn dn v := by
  obtain ⟨cf, i, kk, f, st, cell, h1, h2, h3, h4, h5, h6, h7⟩ := F
  refine ⟨cf, i, kk, f, st, cell, h1, h2, h3, h4, K.2.1 st cell h5 (fun hm => ?_), h6, h7⟩
  obtain ⟨c, q1, q2⟩ := A st hm
  cases h5.symm.trans q1; rw [q2] at h6; cases h6
/-! own: an array's component, by its Arv -/
theorem own_ldI (X : Stand p l e R s m args below meth c T locs cells slots) (hx : p.tables.exec = Jvm.exec) (hZ : Z.Warmed39 s.vm) (eT : T.heap = h) (F : Arv Z h a k .int n vs d) (q : ¬ j < 0 ∧ j < n) (u : vs.getD j.toNatClampNeg d = v) (hg : g.method = m) {rest : List Value} (hs : g.stack = .int j :: .ref a :: rest) (hd : decode c.code g.pc = .ok (.iaload, 1)) :
    ∀ t, Steps p.tables e below (T.setTop { g with pc := g.pc + 1, stack := v :: rest }) t → Steps p.tables e below (T.setTop g) t := by
  obtain ⟨cl, Ar, -, Sz, -, Hs, -⟩ := F
  exact fun t kt => X.iaload hx (by rw [eT]; exact Ar.1) (State.isArrayOf_alike hZ.alike Ar.2.1) Ar.2.2 (inb_of Sz q) (Hs.at (inb_of Sz q) u) hg hs hd t kt
theorem own_ldJ (X : Stand p l e R s m args below meth c T locs cells slots) (hx : p.tables.exec = Jvm.exec) (hZ : Z.Warmed39 s.vm) (eT : T.heap = h) (F : Arv Z h a k .long n vs d) (q : ¬ j < 0 ∧ j < n) (u : vs.getD j.toNatClampNeg d = v) (hg : g.method = m) {rest : List Value} (hs : g.stack = .int j :: .ref a :: rest) (hd : decode c.code g.pc = .ok (.laload, 1)) :
    ∀ t, Steps p.tables e below (T.setTop { g with pc := g.pc + 1, stack := v :: rest }) t → Steps p.tables e below (T.setTop g) t := by
  obtain ⟨cl, Ar, -, Sz, -, Hs, -⟩ := F
  exact fun t kt => X.laload hx (by rw [eT]; exact Ar.1) (State.isArrayOf_alike hZ.alike Ar.2.1) Ar.2.2 (inb_of Sz q) (Hs.at (inb_of Sz q) u) hg hs hd t kt
theorem own_ldB (X : Stand p l e R s m args below meth c T locs cells slots) (hx : p.tables.exec = Jvm.exec) (hZ : Z.Warmed39 s.vm) (eT : T.heap = h) (F : Arv Z h a k .byte n vs d) (q : ¬ j < 0 ∧ j < n) (u : vs.getD j.toNatClampNeg d = v) (hg : g.method = m) {rest : List Value} (hs : g.stack = .int j :: .ref a :: rest) (hd : decode c.code g.pc = .ok (.baload, 1)) :
    ∀ t, Steps p.tables e below (T.setTop { g with pc := g.pc + 1, stack := v :: rest }) t → Steps p.tables e below (T.setTop g) t := by
  obtain ⟨cl, Ar, -, Sz, -, Hs, -⟩ := F
  exact fun t kt => X.baloadBytes hx (by rw [eT]; exact Ar.1) (State.isArrayOf_alike hZ.alike Ar.2.1) Ar.2.2 (inb_of Sz q) (Hs.at (inb_of Sz q) u) hg hs hd t kt
theorem own_len (X : Stand p l e R s m args below meth c T locs cells slots) (hx : p.tables.exec = Jvm.exec) (hZ : Z.Warmed39 s.vm) (eT : T.heap = h) {ty : FieldType} (F : Arv Z h a k ty n vs d) (hg : g.method = m) {rest : List Value} (hs : g.stack = .ref a :: rest) (hd : decode c.code g.pc = .ok (.arraylength, 1)) :
    ∀ t, Steps p.tables e below (T.setTop { g with pc := g.pc + 1, stack := .int n :: rest }) t → Steps p.tables e below (T.setTop g) t := by
  obtain ⟨cl, Ar, -, Sz, Ng, -, -⟩ := F
  intro t kt
  refine X.arraylength hx (by rw [eT]; exact Ar.1) (State.isArrayOf_alike hZ.alike Ar.2.1) hg hs hd t ?_
  rw [len_of Sz Ng]; exact kt
theorem own_stI (X : Stand p l e R s m args below meth c T locs cells slots) (hx : p.tables.exec = Jvm.exec) (hZ : Z.Warmed39 s.vm) (eT : T.heap = h) (F : Arv Z h a k .int n vs d) (N : Fr n0 locs) (ge : n0 ≤ a) {x : Int32} (q : ¬ j < 0 ∧ j < n) (i : Nat) (hi : j.toNatClampNeg = i) (hl : i < vs.length) (hg : g.method = m) {rest : List Value} (hs : g.stack = .int x :: .int j :: .ref a :: rest) (hd : decode c.code g.pc = .ok (.iastore, 1)) :
    ∃ T' h' L, Stand p l e R s m args below meth c T' L cells slots ∧ T'.heap = h' ∧ Fr n0 L ∧ Wr h h' a j.toNatClampNeg (.int x) ∧ Arv Z h' a k .int n (vs.set i (.int x)) d ∧ ∀ t, Steps p.tables e below (T'.setTop { g with pc := g.pc + 1, stack := rest }) t → Steps p.tables e below (T.setTop g) t := by
  obtain ⟨cl, Ar, q1, Sz, Ng, Hs, Gs⟩ := F
  obtain ⟨T', h', X', e', W, st⟩ := stI X hx hZ eT Ar (j := j) (x := x) (inb_of Sz q) hg hs hd
  exact ⟨T', h', _, X', e', Fr.snoc X' N ge, W, Arv.set Ar q1 Sz Ng Hs Gs rfl W i hi hl, st⟩
theorem own_stJ (X : Stand p l e R s m args below meth c T locs cells slots) (hx : p.tables.exec = Jvm.exec) (hZ : Z.Warmed39 s.vm) (eT : T.heap = h) (F : Arv Z h a k .long n vs d) (N : Fr n0 locs) (ge : n0 ≤ a) {x : Int64} (q : ¬ j < 0 ∧ j < n) (i : Nat) (hi : j.toNatClampNeg = i) (hl : i < vs.length) (hg : g.method = m) {rest : List Value} (hs : g.stack = .long x :: .int j :: .ref a :: rest) (hd : decode c.code g.pc = .ok (.lastore, 1)) :
    ∃ T' h' L, Stand p l e R s m args below meth c T' L cells slots ∧ T'.heap = h' ∧ Fr n0 L ∧ Wr h h' a j.toNatClampNeg (.long x) ∧ Arv Z h' a k .long n (vs.set i (.long x)) d ∧ ∀ t, Steps p.tables e below (T'.setTop { g with pc := g.pc + 1, stack := rest }) t → Steps p.tables e below (T.setTop g) t := by
  obtain ⟨cl, Ar, q1, Sz, Ng, Hs, Gs⟩ := F
  obtain ⟨T', h', X', e', W, st⟩ := stJ X hx hZ eT Ar (j := j) (x := x) (inb_of Sz q) hg hs hd
  exact ⟨T', h', _, X', e', Fr.snoc X' N ge, W, Arv.set Ar q1 Sz Ng Hs Gs rfl W i hi hl, st⟩
theorem own_stB (X : Stand p l e R s m args below meth c T locs cells slots) (hx : p.tables.exec = Jvm.exec) (hZ : Z.Warmed39 s.vm) (eT : T.heap = h) (F : Arv Z h a k .byte n vs d) (N : Fr n0 locs) (ge : n0 ≤ a) {x : Int32} (q : ¬ j < 0 ∧ j < n) (i : Nat) (hi : j.toNatClampNeg = i) (hl : i < vs.length) (hg : g.method = m) {rest : List Value} (hs : g.stack = .int x :: .int j :: .ref a :: rest) (hd : decode c.code g.pc = .ok (.bastore, 1)) :
    ∃ T' h' L, Stand p l e R s m args below meth c T' L cells slots ∧ T'.heap = h' ∧ Fr n0 L ∧ Wr h h' a j.toNatClampNeg (.int (nar .byte x)) ∧ Arv Z h' a k .byte n (vs.set i (.int (nar .byte x))) d ∧ ∀ t, Steps p.tables e below (T'.setTop { g with pc := g.pc + 1, stack := rest }) t → Steps p.tables e below (T.setTop g) t := by
  obtain ⟨cl, Ar, q1, Sz, Ng, Hs, Gs⟩ := F
  obtain ⟨T', h', X', e', W, st⟩ := stB X hx hZ eT Ar (j := j) (x := x) (inb_of Sz q) hg hs hd
  exact ⟨T', h', _, X', e', Fr.snoc X' N ge, W, Arv.set Ar q1 Sz Ng Hs Gs (fits_nar_byte _) W i hi hl, st⟩
theorem own_ldR {Cn : String} (X : Stand p l e R s m args below meth c T locs cells slots) (hx : p.tables.exec = Jvm.exec) (hZ : Z.Warmed39 s.vm) (eT : T.heap = h) (F : Arv Z h a k (.object Cn) n vs d) (q : ¬ j < 0 ∧ j < n) (u : vs.getD j.toNatClampNeg d = v) (hg : g.method = m) {rest : List Value} (hs : g.stack = .int j :: .ref a :: rest) (hd : decode c.code g.pc = .ok (.aaload, 1)) :
    ∀ t, Steps p.tables e below (T.setTop { g with pc := g.pc + 1, stack := v :: rest }) t → Steps p.tables e below (T.setTop g) t := by
  obtain ⟨cl, Ar, -, Sz, -, Hs, -⟩ := F
  exact fun t kt => X.aaload hx (by rw [eT]; exact Ar.1) (State.isArrayOf_alike hZ.alike Ar.2.1) rfl Ar.2.2 (inb_of Sz q) (Hs.at (inb_of Sz q) u) hg hs hd t kt
theorem own_stR {Cn : String} {y : Addr} (X : Stand p l e R s m args below meth c T locs cells slots) (hx : p.tables.exec = Jvm.exec) (hZ : Z.Warmed39 s.vm) (eT : T.heap = h) (F : Arv Z h a k (.object Cn) n vs d) (O : Ovr Z k Cn) (I : Ins Z h y Cn true) (N : Fr n0 locs) (ge : n0 ≤ a) (q : ¬ j < 0 ∧ j < n) (i : Nat) (hi : j.toNatClampNeg = i) (hl : i < vs.length) (hg : g.method = m) {rest : List Value} (hs : g.stack = .ref y :: .int j :: .ref a :: rest) (hd : decode c.code g.pc = .ok (.aastore, 1)) :
    ∃ T' h' L, Stand p l e R s m args below meth c T' L cells slots ∧ T'.heap = h' ∧ Fr n0 L ∧ Wr h h' a j.toNatClampNeg (.ref y) ∧ Arv Z h' a k (.object Cn) n (vs.set i (.ref y)) d ∧ ∀ t, Steps p.tables e below (T'.setTop { g with pc := g.pc + 1, stack := rest }) t → Steps p.tables e below (T.setTop g) t := by
  obtain ⟨cl, Ar, q1, Sz, Ng, Hs, Gs⟩ := F
  obtain ⟨T', h', X', e', W, st⟩ := stR X hx hZ eT Ar (j := j) (v := .ref y) (inb_of Sz q) rfl (Sto.ofV Ar q1 O I) hg hs hd
  exact ⟨T', h', _, X', e', Fr.snoc X' N ge, W, Arv.set Ar q1 Sz Ng Hs Gs rfl W i hi hl, st⟩
end OwnRun
def own_bounds : List Int32 := [128, 2048, 65536, 1114112]
theorem own_elem (i : Nat) : ([(.int (128 : Int32)), (.int (2048 : Int32)), (.int (65536 : Int32)), (.int (1114112 : Int32))] : List Value).getD i (.int (0 : Int32)) = .int (own_bounds.getD i 0) := by
  show (own_bounds.map Value.int).getD i (Value.int 0) = _
  simp only [List.getD_eq_getElem?_getD, List.getElem?_map]
  cases own_bounds[i]? <;> rfl
theorem own_idx (y : Int32) : ¬ ((own_shr y (1 : Int32)) &&& (3 : Int32)) < 0 ∧ ((own_shr y (1 : Int32)) &&& (3 : Int32)) < (4 : Int32) := by
  have h : ((own_shr y 1) &&& 3).toInt = (own_shr y 1).toInt % 2 ^ 2 := Jvm.Kit.i32_mask _ 3 (k := 2) (by decide) (by decide)
  have e0 : (0 : Int32).toInt = 0 := by decide
  have e4 : (4 : Int32).toInt = 4 := by decide
  rw [Int32.lt_iff_toInt_lt, Int32.lt_iff_toInt_lt, h, e0, e4]; omega

theorem own_d1_0 : decode jdk_29_method_69_code 0 = .ok (.iload_n 0, 1) := by decide +kernel
theorem own_d1_1 : decode jdk_29_method_69_code 1 = .ok (.iload_n 1, 1) := by decide +kernel
theorem own_d1_2 : decode jdk_29_method_69_code 2 = .ok (.if_icmp .gt 7, 3) := by decide +kernel
theorem own_d1_5 : decode jdk_29_method_69_code 5 = .ok (.iload_n 0, 1) := by decide +kernel
theorem own_d1_6 : decode jdk_29_method_69_code 6 = .ok (.goto 4, 3) := by decide +kernel
theorem own_d1_9 : decode jdk_29_method_69_code 9 = .ok (.iload_n 1, 1) := by decide +kernel
theorem own_d1_10 : decode jdk_29_method_69_code 10 = .ok (.ireturn, 1) := by decide +kernel
def own_f1_j10_S0 (p1 : Int32) (p0 : Int32) : Int32 := (if p1 < p0 then p1 else p0)
def own_r1 (p0 : Int32) (p1 : Int32) : Int32 := (own_f1_j10_S0 p1 p0)
theorem own_ef1 (m : MethodId) (p0 : Int32) (p1 : Int32) : entryFrame m #[(.int p0), (.int p1)] 2 = (mkF m 0 #[.val (.int p0), .val (.int p1)] []) := by first | (simp [entryFrame, mkF, argsToLocals, Value.category]; done) | rfl
set_option maxRecDepth 65536 in
set_option maxHeartbeats 40000000 in
theorem rm1 (l : Launch) (Z : State) (a0 : Array Value) (hw : ∀ d ∈ tables_1, d.before a0 Z = true) (ws : List Jvm.Cond) (p0 : Int32) (p1 : Int32) (h0 : Heap) (n0 : Nat) (Z0 : n0 ≤ h0.size) :
    MetFree l (⟨"java/lang/Math", "min", "(II)I"⟩ : MethodName) (head1 (Jvm.Cond.code (⟨"java/lang/Math", "min", "(II)I"⟩ : MethodName) jdk_29_method_69_code 2 (some .int) :: ws) ({ frames := 0, cells := 0, slots := 0, locals := 0 } : Room)) (fun a U => a = #[(.int p0), (.int p1)] ∧ Z.Warmed39 U.vm ∧ U.heap = h0) (fun _ _ _ _ _ => True) (fun _ U o U' => ∃ v L, o = .returned v ∧ own_Q n0 (fun h => h = h0) (some (.int (own_r1 p0 p1))) v U'.heap L ∧ FrameEnd U o U' L ({ frames := 0, cells := 0, slots := 0, locals := 0 } : Room).cells ({ frames := 0, cells := 0, slots := 0, locals := 0 } : Room).slots) := by
  refine MetFree.of_bodySF (Jvm.Free.JP.mathPlain rfl (by decide +kernel)) hisR ?_
  intro p e s m args below meth c s₁ Bd hml0 hP hK
  obtain ⟨rfl, hZ, hh⟩ := hP
  have hx := Bd.exec
  have hby := Bd.bytes
  have hml : c.maxLocals = 2 := hml0
  have hown : s.vm.findClass "java/lang/Math" = some m.cls := findClass_of_methodNamed Bd.named
  have hnm := (name_of_methodNamed Bd.named Bd.method).1
  have hret := Bd.returns
  have hlk : meth.locks = false := BodyLoose.notSynchronized Bd
  have X0 : Stand p l e ({ frames := 0, cells := 0, slots := 0, locals := 0 } : Room) s m #[(.int p0), (.int p1)] below meth c s₁ [] 0 0 := Stand.of_body Bd
  have e0 : s₁.heap = h0 := by rw [← hh, Bd.state]; rfl
  have N0 := Fr.nil n0
  clear Bd hh hK
  refine own_fin ?_
  refine own_entry (own_ef1 m p0 p1) ?_
  show own_Run p e below s₁ _ (own_Ret _ s below _ _ (own_Q n0 _ (some (.int (own_f1_j10_S0 p1 p0)))))
  show own_Run p e below s₁ (mkF m 0 #[.val (.int p0), .val (.int p1)] []) _
  refine own_step (fun t k => XS.iloadN X0.here hx rfl (hb hby own_d1_0) rfl  k) ?_
  show own_Run p e below s₁ (mkF m 1 #[.val (.int p0), .val (.int p1)] [(.int p0)]) _
  refine own_step (fun t k => XS.iloadN X0.here hx rfl (hb hby own_d1_1) rfl  k) ?_
  show own_Run p e below s₁ (mkF m 2 #[.val (.int p0), .val (.int p1)] [(.int p1), (.int p0)]) _
  obtain ⟨_, st3, rfl⟩ : own_Run p e below s₁ (mkF m 2 #[.val (.int p0), .val (.int p1)] [(.int p1), (.int p0)]) (fun t => t = s₁.setTop (mkF m 10 #[.val (.int p0), .val (.int p1)] [(.int (own_f1_j10_S0 p1 p0))])) := by
    by_cases hc4 : p1 < p0
    · refine own_step (fun t k => XS.icmpYes X0.here hx rfl (pc0 := 2) (pc' := 9) rfl (hb hby own_d1_2) rfl (tlt hc4).2.2.1 (by decide) (by decide) k) ?_
      show own_Run p e below s₁ (mkF m 9 #[.val (.int p0), .val (.int p1)] []) _
      refine own_step (fun t k => XS.iloadN X0.here hx rfl (hb hby own_d1_9) rfl  k) ?_
      show own_Run p e below s₁ (mkF m 10 #[.val (.int p0), .val (.int p1)] [(.int p1)]) _
      have hj0 : (own_f1_j10_S0 p1 p0) = p1 := (if_pos hc4)
      exact own_here (by rw [hj0])
    · refine own_step (fun t k => XS.icmpNo X0.here hx rfl (hb hby own_d1_2) rfl (flt hc4).2.2.1 k) ?_
      show own_Run p e below s₁ (mkF m 5 #[.val (.int p0), .val (.int p1)] []) _
      refine own_step (fun t k => XS.iloadN X0.here hx rfl (hb hby own_d1_5) rfl  k) ?_
      show own_Run p e below s₁ (mkF m 6 #[.val (.int p0), .val (.int p1)] [(.int p0)]) _
      refine own_step (fun t k => XS.goto X0.here hx rfl (pc0 := 6) (pc' := 10) rfl (hb hby own_d1_6) (by decide) (by decide) k) ?_
      show own_Run p e below s₁ (mkF m 10 #[.val (.int p0), .val (.int p1)] [(.int p0)]) _
      have hj0 : (own_f1_j10_S0 p1 p0) = p0 := (if_neg hc4)
      exact own_here (by rw [hj0])
  refine own_tr st3 ?_
  show own_Run p e below s₁ (mkF m 10 #[.val (.int p0), .val (.int p1)] [(.int (own_f1_j10_S0 p1 p0))]) _
  exact own_retI X0 hx hlk hret (hb hby own_d1_10) (by decide) (by decide) N0 e0
theorem own_d2_0 : decode jdk_29_method_65_code 0 = .ok (.iload_n 0, 1) := by decide +kernel
theorem own_d2_1 : decode jdk_29_method_65_code 1 = .ok (.iload_n 1, 1) := by decide +kernel
theorem own_d2_2 : decode jdk_29_method_65_code 2 = .ok (.if_icmp .lt 7, 3) := by decide +kernel
theorem own_d2_5 : decode jdk_29_method_65_code 5 = .ok (.iload_n 0, 1) := by decide +kernel
theorem own_d2_6 : decode jdk_29_method_65_code 6 = .ok (.goto 4, 3) := by decide +kernel
theorem own_d2_9 : decode jdk_29_method_65_code 9 = .ok (.iload_n 1, 1) := by decide +kernel
theorem own_d2_10 : decode jdk_29_method_65_code 10 = .ok (.ireturn, 1) := by decide +kernel
def own_f2_j10_S0 (p0 : Int32) (p1 : Int32) : Int32 := (if p0 < p1 then p1 else p0)
def own_r2 (p0 : Int32) (p1 : Int32) : Int32 := (own_f2_j10_S0 p0 p1)
theorem own_ef2 (m : MethodId) (p0 : Int32) (p1 : Int32) : entryFrame m #[(.int p0), (.int p1)] 2 = (mkF m 0 #[.val (.int p0), .val (.int p1)] []) := by first | (simp [entryFrame, mkF, argsToLocals, Value.category]; done) | rfl
set_option maxRecDepth 65536 in
set_option maxHeartbeats 40000000 in
theorem rm2 (l : Launch) (Z : State) (a0 : Array Value) (hw : ∀ d ∈ tables_1, d.before a0 Z = true) (ws : List Jvm.Cond) (p0 : Int32) (p1 : Int32) (h0 : Heap) (n0 : Nat) (Z0 : n0 ≤ h0.size) :
    MetFree l (⟨"java/lang/Math", "max", "(II)I"⟩ : MethodName) (head1 (Jvm.Cond.code (⟨"java/lang/Math", "max", "(II)I"⟩ : MethodName) jdk_29_method_65_code 2 (some .int) :: ws) ({ frames := 0, cells := 0, slots := 0, locals := 0 } : Room)) (fun a U => a = #[(.int p0), (.int p1)] ∧ Z.Warmed39 U.vm ∧ U.heap = h0) (fun _ _ _ _ _ => True) (fun _ U o U' => ∃ v L, o = .returned v ∧ own_Q n0 (fun h => h = h0) (some (.int (own_r2 p0 p1))) v U'.heap L ∧ FrameEnd U o U' L ({ frames := 0, cells := 0, slots := 0, locals := 0 } : Room).cells ({ frames := 0, cells := 0, slots := 0, locals := 0 } : Room).slots) := by
  refine MetFree.of_bodySF (Jvm.Free.JP.mathPlain rfl (by decide +kernel)) hisR ?_
  intro p e s m args below meth c s₁ Bd hml0 hP hK
  obtain ⟨rfl, hZ, hh⟩ := hP
  have hx := Bd.exec
  have hby := Bd.bytes
  have hml : c.maxLocals = 2 := hml0
  have hown : s.vm.findClass "java/lang/Math" = some m.cls := findClass_of_methodNamed Bd.named
  have hnm := (name_of_methodNamed Bd.named Bd.method).1
  have hret := Bd.returns
  have hlk : meth.locks = false := BodyLoose.notSynchronized Bd
  have X0 : Stand p l e ({ frames := 0, cells := 0, slots := 0, locals := 0 } : Room) s m #[(.int p0), (.int p1)] below meth c s₁ [] 0 0 := Stand.of_body Bd
  have e0 : s₁.heap = h0 := by rw [← hh, Bd.state]; rfl
  have N0 := Fr.nil n0
  clear Bd hh hK
  refine own_fin ?_
  refine own_entry (own_ef2 m p0 p1) ?_
  show own_Run p e below s₁ _ (own_Ret _ s below _ _ (own_Q n0 _ (some (.int (own_f2_j10_S0 p0 p1)))))
  show own_Run p e below s₁ (mkF m 0 #[.val (.int p0), .val (.int p1)] []) _
  refine own_step (fun t k => XS.iloadN X0.here hx rfl (hb hby own_d2_0) rfl  k) ?_
  show own_Run p e below s₁ (mkF m 1 #[.val (.int p0), .val (.int p1)] [(.int p0)]) _
  refine own_step (fun t k => XS.iloadN X0.here hx rfl (hb hby own_d2_1) rfl  k) ?_
  show own_Run p e below s₁ (mkF m 2 #[.val (.int p0), .val (.int p1)] [(.int p1), (.int p0)]) _
  obtain ⟨_, st3, rfl⟩ : own_Run p e below s₁ (mkF m 2 #[.val (.int p0), .val (.int p1)] [(.int p1), (.int p0)]) (fun t => t = s₁.setTop (mkF m 10 #[.val (.int p0), .val (.int p1)] [(.int (own_f2_j10_S0 p0 p1))])) := by
    by_cases hc4 : p0 < p1
    · refine own_step (fun t k => XS.icmpYes X0.here hx rfl (pc0 := 2) (pc' := 9) rfl (hb hby own_d2_2) rfl (tlt hc4).1 (by decide) (by decide) k) ?_
      show own_Run p e below s₁ (mkF m 9 #[.val (.int p0), .val (.int p1)] []) _
      refine own_step (fun t k => XS.iloadN X0.here hx rfl (hb hby own_d2_9) rfl  k) ?_
      show own_Run p e below s₁ (mkF m 10 #[.val (.int p0), .val (.int p1)] [(.int p1)]) _
      have hj0 : (own_f2_j10_S0 p0 p1) = p1 := (if_pos hc4)
      exact own_here (by rw [hj0])
    · refine own_step (fun t k => XS.icmpNo X0.here hx rfl (hb hby own_d2_2) rfl (flt hc4).1 k) ?_
      show own_Run p e below s₁ (mkF m 5 #[.val (.int p0), .val (.int p1)] []) _
      refine own_step (fun t k => XS.iloadN X0.here hx rfl (hb hby own_d2_5) rfl  k) ?_
      show own_Run p e below s₁ (mkF m 6 #[.val (.int p0), .val (.int p1)] [(.int p0)]) _
      refine own_step (fun t k => XS.goto X0.here hx rfl (pc0 := 6) (pc' := 10) rfl (hb hby own_d2_6) (by decide) (by decide) k) ?_
      show own_Run p e below s₁ (mkF m 10 #[.val (.int p0), .val (.int p1)] [(.int p0)]) _
      have hj0 : (own_f2_j10_S0 p0 p1) = p0 := (if_neg hc4)
      exact own_here (by rw [hj0])
  refine own_tr st3 ?_
  show own_Run p e below s₁ (mkF m 10 #[.val (.int p0), .val (.int p1)] [(.int (own_f2_j10_S0 p0 p1))]) _
  exact own_retI X0 hx hlk hret (hb hby own_d2_10) (by decide) (by decide) N0 e0
theorem own_pn0 : plainName "com/example/fuxi/fuxi/codec/Utf8" = true := by first | (simp [plainName, overriddenIn]; done) | decide +kernel
theorem own_d3_0 : decode prog_15_method_15_code 0 = .ok (.iload_n 0, 1) := by decide +kernel
theorem own_d3_1 : decode prog_15_method_15_code 1 = .ok (.sipush 128, 3) := by decide +kernel
theorem own_d3_4 : decode prog_15_method_15_code 4 = .ok (.if_icmp .ge 8, 3) := by decide +kernel
theorem own_d3_7 : decode prog_15_method_15_code 7 = .ok (.iconst 1, 1) := by decide +kernel
theorem own_d3_8 : decode prog_15_method_15_code 8 = .ok (.istore_n 1, 1) := by decide +kernel
theorem own_d3_9 : decode prog_15_method_15_code 9 = .ok (.goto 28, 3) := by decide +kernel
theorem own_d3_12 : decode prog_15_method_15_code 12 = .ok (.iload_n 0, 1) := by decide +kernel
theorem own_d3_13 : decode prog_15_method_15_code 13 = .ok (.sipush 2048, 3) := by decide +kernel
theorem own_d3_16 : decode prog_15_method_15_code 16 = .ok (.if_icmp .ge 8, 3) := by decide +kernel
theorem own_d3_19 : decode prog_15_method_15_code 19 = .ok (.iconst 2, 1) := by decide +kernel
theorem own_d3_20 : decode prog_15_method_15_code 20 = .ok (.istore_n 1, 1) := by decide +kernel
theorem own_d3_21 : decode prog_15_method_15_code 21 = .ok (.goto 16, 3) := by decide +kernel
theorem own_d3_24 : decode prog_15_method_15_code 24 = .ok (.iload_n 0, 1) := by decide +kernel
theorem own_d3_25 : decode prog_15_method_15_code 25 = .ok (.ldc 102, 2) := by decide +kernel
theorem own_d3_27 : decode prog_15_method_15_code 27 = .ok (.if_icmp .ge 8, 3) := by decide +kernel
theorem own_d3_30 : decode prog_15_method_15_code 30 = .ok (.iconst 3, 1) := by decide +kernel
theorem own_d3_31 : decode prog_15_method_15_code 31 = .ok (.istore_n 1, 1) := by decide +kernel
theorem own_d3_32 : decode prog_15_method_15_code 32 = .ok (.goto 5, 3) := by decide +kernel
theorem own_d3_35 : decode prog_15_method_15_code 35 = .ok (.iconst 4, 1) := by decide +kernel
theorem own_d3_36 : decode prog_15_method_15_code 36 = .ok (.istore_n 1, 1) := by decide +kernel
theorem own_d3_37 : decode prog_15_method_15_code 37 = .ok (.iload_n 1, 1) := by decide +kernel
theorem own_d3_38 : decode prog_15_method_15_code 38 = .ok (.ireturn, 1) := by decide +kernel
def own_f3_j37_L1 (p0 : Int32) : Int32 := (if p0 < (128 : Int32) then (1 : Int32) else (if p0 < (2048 : Int32) then (2 : Int32) else (if p0 < (65536 : Int32) then (3 : Int32) else (4 : Int32))))
def own_r3 (p0 : Int32) : Int32 := (own_f3_j37_L1 p0)
theorem own_ef3 (m : MethodId) (p0 : Int32) : entryFrame m #[(.int p0)] 2 = (mkF m 0 #[.val (.int p0), .unset] []) := by first | (simp [entryFrame, mkF, argsToLocals, Value.category]; done) | rfl
set_option maxRecDepth 65536 in
set_option maxHeartbeats 40000000 in
theorem rm3 (l : Launch) (Z : State) (a0 : Array Value) (hw : ∀ d ∈ tables_1, d.before a0 Z = true) (ws : List Jvm.Cond) (p0 : Int32) (h0 : Heap) (n0 : Nat) (Z0 : n0 ≤ h0.size) :
    MetFree l (⟨"com/example/fuxi/fuxi/codec/Utf8", "length", "(I)I"⟩ : MethodName) (head1 (Jvm.Cond.code (⟨"com/example/fuxi/fuxi/codec/Utf8", "length", "(I)I"⟩ : MethodName) prog_15_method_15_code 2 (some .int) :: ws) ({ frames := 0, cells := 0, slots := 0, locals := 0 } : Room)) (fun a U => a = #[(.int p0)] ∧ Z.Warmed39 U.vm ∧ U.heap = h0) (fun _ _ _ _ _ => True) (fun _ U o U' => ∃ v L, o = .returned v ∧ own_Q n0 (fun h => h = h0) (some (.int (own_r3 p0))) v U'.heap L ∧ FrameEnd U o U' L ({ frames := 0, cells := 0, slots := 0, locals := 0 } : Room).cells ({ frames := 0, cells := 0, slots := 0, locals := 0 } : Room).slots) := by
  refine MetFree.of_bodySF (plainFor_of_name own_pn0) hisR ?_
  intro p e s m args below meth c s₁ Bd hml0 hP hK
  obtain ⟨rfl, hZ, hh⟩ := hP
  have hx := Bd.exec
  have hby := Bd.bytes
  have hml : c.maxLocals = 2 := hml0
  have hown : s.vm.findClass "com/example/fuxi/fuxi/codec/Utf8" = some m.cls := findClass_of_methodNamed Bd.named
  have hnm := (name_of_methodNamed Bd.named Bd.method).1
  have hret := Bd.returns
  have hlk : meth.locks = false := BodyLoose.notSynchronized Bd
  have X0 : Stand p l e ({ frames := 0, cells := 0, slots := 0, locals := 0 } : Room) s m #[(.int p0)] below meth c s₁ [] 0 0 := Stand.of_body Bd
  have e0 : s₁.heap = h0 := by rw [← hh, Bd.state]; rfl
  have N0 := Fr.nil n0
  clear Bd hh hK
  refine own_fin ?_
  refine own_entry (own_ef3 m p0) ?_
  show own_Run p e below s₁ _ (own_Ret _ s below _ _ (own_Q n0 _ (some (.int (own_f3_j37_L1 p0)))))
  show own_Run p e below s₁ (mkF m 0 #[.val (.int p0), .unset] []) _
  refine own_step (fun t k => XS.iloadN X0.here hx rfl (hb hby own_d3_0) rfl  k) ?_
  show own_Run p e below s₁ (mkF m 1 #[.val (.int p0), .unset] [(.int p0)]) _
  refine own_step (fun t k => XS.sipush X0.here hx rfl (hb hby own_d3_1) k) ?_
  show own_Run p e below s₁ (mkF m 4 #[.val (.int p0), .unset] [(.int (128 : Int32)), (.int p0)]) _
  obtain ⟨_, st5, rfl⟩ : own_Run p e below s₁ (mkF m 4 #[.val (.int p0), .unset] [(.int (128 : Int32)), (.int p0)]) (fun t => t = s₁.setTop (mkF m 37 #[.val (.int p0), .val (.int (own_f3_j37_L1 p0))] [])) := by
    by_cases hc6 : p0 < (128 : Int32)
    · refine own_step (fun t k => XS.icmpNo X0.here hx rfl (hb hby own_d3_4) rfl (tlt hc6).2.1 k) ?_
      show own_Run p e below s₁ (mkF m 7 #[.val (.int p0), .unset] []) _
      refine own_step (fun t k => XS.iconst X0.here hx rfl (hb hby own_d3_7) k) ?_
      show own_Run p e below s₁ (mkF m 8 #[.val (.int p0), .unset] [(.int (1 : Int32))]) _
      refine own_step (fun t k => XS.istoreN X0.here hx rfl (hb hby own_d3_8) rfl (l' := #[.val (.int p0), .val (.int (1 : Int32))]) rfl k) ?_
      show own_Run p e below s₁ (mkF m 9 #[.val (.int p0), .val (.int (1 : Int32))] []) _
      refine own_step (fun t k => XS.goto X0.here hx rfl (pc0 := 9) (pc' := 37) rfl (hb hby own_d3_9) (by decide) (by decide) k) ?_
      show own_Run p e below s₁ (mkF m 37 #[.val (.int p0), .val (.int (1 : Int32))] []) _
      have hj0 : (own_f3_j37_L1 p0) = (1 : Int32) := (if_pos hc6)
      exact own_here (by rw [hj0])
    · refine own_step (fun t k => XS.icmpYes X0.here hx rfl (pc0 := 4) (pc' := 12) rfl (hb hby own_d3_4) rfl (flt hc6).2.1 (by decide) (by decide) k) ?_
      show own_Run p e below s₁ (mkF m 12 #[.val (.int p0), .unset] []) _
      refine own_step (fun t k => XS.iloadN X0.here hx rfl (hb hby own_d3_12) rfl  k) ?_
      show own_Run p e below s₁ (mkF m 13 #[.val (.int p0), .unset] [(.int p0)]) _
      refine own_step (fun t k => XS.sipush X0.here hx rfl (hb hby own_d3_13) k) ?_
      show own_Run p e below s₁ (mkF m 16 #[.val (.int p0), .unset] [(.int (2048 : Int32)), (.int p0)]) _
      by_cases hc7 : p0 < (2048 : Int32)
      · refine own_step (fun t k => XS.icmpNo X0.here hx rfl (hb hby own_d3_16) rfl (tlt hc7).2.1 k) ?_
        show own_Run p e below s₁ (mkF m 19 #[.val (.int p0), .unset] []) _
        refine own_step (fun t k => XS.iconst X0.here hx rfl (hb hby own_d3_19) k) ?_
        show own_Run p e below s₁ (mkF m 20 #[.val (.int p0), .unset] [(.int (2 : Int32))]) _
        refine own_step (fun t k => XS.istoreN X0.here hx rfl (hb hby own_d3_20) rfl (l' := #[.val (.int p0), .val (.int (2 : Int32))]) rfl k) ?_
        show own_Run p e below s₁ (mkF m 21 #[.val (.int p0), .val (.int (2 : Int32))] []) _
        refine own_step (fun t k => XS.goto X0.here hx rfl (pc0 := 21) (pc' := 37) rfl (hb hby own_d3_21) (by decide) (by decide) k) ?_
        show own_Run p e below s₁ (mkF m 37 #[.val (.int p0), .val (.int (2 : Int32))] []) _
        have hj0 : (own_f3_j37_L1 p0) = (2 : Int32) := ((if_neg hc6).trans (if_pos hc7))
        exact own_here (by rw [hj0])
      · refine own_step (fun t k => XS.icmpYes X0.here hx rfl (pc0 := 16) (pc' := 24) rfl (hb hby own_d3_16) rfl (flt hc7).2.1 (by decide) (by decide) k) ?_
        show own_Run p e below s₁ (mkF m 24 #[.val (.int p0), .unset] []) _
        refine own_step (fun t k => XS.iloadN X0.here hx rfl (hb hby own_d3_24) rfl  k) ?_
        show own_Run p e below s₁ (mkF m 25 #[.val (.int p0), .unset] [(.int p0)]) _
        refine own_step (fun t k => X0.ldcInt hx hown (mvT hZ (hw _ (List.mem_of_getElem? (i := 18) rfl))) (g := (mkF m 25 #[.val (.int p0), .unset] [(.int p0)])) rfl (hb hby own_d3_25) t k) ?_
        show own_Run p e below s₁ (mkF m 27 #[.val (.int p0), .unset] [(.int (65536 : Int32)), (.int p0)]) _
        by_cases hc8 : p0 < (65536 : Int32)
        · refine own_step (fun t k => XS.icmpNo X0.here hx rfl (hb hby own_d3_27) rfl (tlt hc8).2.1 k) ?_
          show own_Run p e below s₁ (mkF m 30 #[.val (.int p0), .unset] []) _
          refine own_step (fun t k => XS.iconst X0.here hx rfl (hb hby own_d3_30) k) ?_
          show own_Run p e below s₁ (mkF m 31 #[.val (.int p0), .unset] [(.int (3 : Int32))]) _
          refine own_step (fun t k => XS.istoreN X0.here hx rfl (hb hby own_d3_31) rfl (l' := #[.val (.int p0), .val (.int (3 : Int32))]) rfl k) ?_
          show own_Run p e below s₁ (mkF m 32 #[.val (.int p0), .val (.int (3 : Int32))] []) _
          refine own_step (fun t k => XS.goto X0.here hx rfl (pc0 := 32) (pc' := 37) rfl (hb hby own_d3_32) (by decide) (by decide) k) ?_
          show own_Run p e below s₁ (mkF m 37 #[.val (.int p0), .val (.int (3 : Int32))] []) _
          have hj0 : (own_f3_j37_L1 p0) = (3 : Int32) := ((if_neg hc6).trans ((if_neg hc7).trans (if_pos hc8)))
          exact own_here (by rw [hj0])
        · refine own_step (fun t k => XS.icmpYes X0.here hx rfl (pc0 := 27) (pc' := 35) rfl (hb hby own_d3_27) rfl (flt hc8).2.1 (by decide) (by decide) k) ?_
          show own_Run p e below s₁ (mkF m 35 #[.val (.int p0), .unset] []) _
          refine own_step (fun t k => XS.iconst X0.here hx rfl (hb hby own_d3_35) k) ?_
          show own_Run p e below s₁ (mkF m 36 #[.val (.int p0), .unset] [(.int (4 : Int32))]) _
          refine own_step (fun t k => XS.istoreN X0.here hx rfl (hb hby own_d3_36) rfl (l' := #[.val (.int p0), .val (.int (4 : Int32))]) rfl k) ?_
          show own_Run p e below s₁ (mkF m 37 #[.val (.int p0), .val (.int (4 : Int32))] []) _
          have hj0 : (own_f3_j37_L1 p0) = (4 : Int32) := ((if_neg hc6).trans ((if_neg hc7).trans (if_neg hc8)))
          exact own_here (by rw [hj0])
  refine own_tr st5 ?_
  show own_Run p e below s₁ (mkF m 37 #[.val (.int p0), .val (.int (own_f3_j37_L1 p0))] []) _
  refine own_step (fun t k => XS.iloadN X0.here hx rfl (hb hby own_d3_37) rfl  k) ?_
  show own_Run p e below s₁ (mkF m 38 #[.val (.int p0), .val (.int (own_f3_j37_L1 p0))] [(.int (own_f3_j37_L1 p0))]) _
  exact own_retI X0 hx hlk hret (hb hby own_d3_38) (by decide) (by decide) N0 e0
theorem own_pd36 : parseMethodDescriptor "(II)I" = some ⟨[.int, .int], some .int⟩ := by decide +kernel
theorem own_pd37 : parseMethodDescriptor "(I)I" = some ⟨[.int], some .int⟩ := by decide +kernel
theorem own_pn1 : plainName "com/example/fuxi/fuxi/codec/Utf8LengthPinLaw" = true := by first | (simp [plainName, overriddenIn]; done) | decide +kernel
def own_f0_7 (p0 : Int32) : Int32 := (own_rem (p0 &&& (2147483647 : Int32)) (1114112 : Int32))
def own_f0_47 (p1 : Int32) : Int32 := (own_bounds.getD (((own_shr p1 (1 : Int32)) &&& (3 : Int32))).toNatClampNeg 0)
def own_f0_56 (p1 : Int32) : Int32 := (((own_shr p1 (3 : Int32)) &&& (3 : Int32)) - (2 : Int32))
def own_f0_72 (p1 : Int32) : Int32 := (own_r2 (0 : Int32) (own_r1 (1114111 : Int32) ((own_f0_47 p1) + (own_f0_56 p1))))
def own_f0_j73_L2 (p1 : Int32) (p0 : Int32) : Int32 := (if (p1 &&& (1 : Int32)) = (0 : Int32) then (own_f0_7 p0) else (own_f0_72 p1))
def own_f0_90 (p1 : Int32) (p0 : Int32) : Int32 := ((own_f0_j73_L2 p1 p0) - (2048 : Int32))
def own_f0_j91_L2 (p1 : Int32) (p0 : Int32) : Int32 := (if (own_f0_j73_L2 p1 p0) < (55296 : Int32) then (own_f0_j73_L2 p1 p0) else (if (57343 : Int32) < (own_f0_j73_L2 p1 p0) then (own_f0_j73_L2 p1 p0) else (own_f0_90 p1 p0)))
def own_f0_j104_S0 (p1 : Int32) (p0 : Int32) : Int32 := (if (own_f0_j91_L2 p1 p0) < (128 : Int32) then (0 : Int32) else (1 : Int32))
def own_f0_j117_S0 (p1 : Int32) (p0 : Int32) : Int32 := (if (own_f0_j91_L2 p1 p0) < (2048 : Int32) then (0 : Int32) else (1 : Int32))
def own_f0_j129_S0 (p1 : Int32) (p0 : Int32) : Int32 := (if (own_f0_j91_L2 p1 p0) < (65536 : Int32) then (0 : Int32) else (1 : Int32))
def own_f0_130 (p1 : Int32) (p0 : Int32) : Int32 := ((((1 : Int32) + (own_f0_j104_S0 p1 p0)) + (own_f0_j117_S0 p1 p0)) + (own_f0_j129_S0 p1 p0))
def own_f0_j144_S0 (p1 : Int32) (p0 : Int32) : Int32 := (if (own_r3 (own_f0_j91_L2 p1 p0)) = (own_f0_130 p1 p0) then (1 : Int32) else (0 : Int32))
def own_r0 (p0 : Int32) (p1 : Int32) : Int32 := (nar .boolean (own_f0_j144_S0 p1 p0))
theorem own_ef0 (m : MethodId) (p0 : Int32) (p1 : Int32) : entryFrame m #[(.int p0), (.int p1)] maxLocals = (mkF m 0 #[.val (.int p0), .val (.int p1), .unset, .unset, .unset, .unset] []) := by first | (simp [entryFrame, mkF, argsToLocals, Value.category, maxLocals]; done) | rfl
set_option maxRecDepth 65536 in
set_option maxHeartbeats 40000000 in
theorem rm0 (l : Launch) (Z : State) (a0 : Array Value) (hw : ∀ d ∈ tables_1, d.before a0 Z = true) (ws : List Jvm.Cond) (p0 : Int32) (p1 : Int32) (h0 : Heap) (n0 : Nat) (Z0 : n0 ≤ h0.size) :
    MetFree l x (head1 (Jvm.Cond.code x code maxLocals ret :: ws) room_1) (fun a U => a = #[(.int p0), (.int p1)] ∧ Z.Warmed39 U.vm ∧ U.heap = h0) (fun _ _ _ _ _ => True) (fun _ U o U' => ∃ v L, o = .returned v ∧ own_Q n0 (fun _ => True) (some (.int (own_r0 p0 p1))) v U'.heap L ∧ FrameEnd U o U' L room_1.cells room_1.slots) := by
  refine MetFree.of_bodySF (plainFor_of_name own_pn1) hisR ?_
  intro p e s m args below meth c s₁ Bd hml0 hP hK
  obtain ⟨rfl, hZ, hh⟩ := hP
  have hx := Bd.exec
  have hby := Bd.bytes
  have hml : c.maxLocals = 6 := hml0
  have hown : s.vm.findClass "com/example/fuxi/fuxi/codec/Utf8LengthPinLaw" = some m.cls := findClass_of_methodNamed Bd.named
  have hnm := (name_of_methodNamed Bd.named Bd.method).1
  have hret := Bd.returns
  have hlk : meth.locks = false := BodyLoose.notSynchronized Bd
  have X0 : Stand p l e room_1 s m #[(.int p0), (.int p1)] below meth c s₁ [] 0 0 := Stand.of_body Bd
  have e0 : s₁.heap = h0 := by rw [← hh, Bd.state]; rfl
  have N0 := Fr.nil n0
  clear Bd hh hK
  refine own_fin ?_
  refine own_entry (own_ef0 m p0 p1) ?_
  show own_Run p e below s₁ _ (own_Ret _ s below _ _ (own_Q n0 _ (some (.int (nar .boolean (own_f0_j144_S0 p1 p0))))))
  show own_Run p e below s₁ (mkF m 0 #[.val (.int p0), .val (.int p1), .unset, .unset, .unset, .unset] []) _
  refine own_step (fun t k => XS.iloadN X0.here hx rfl (hb hby at_0) rfl  k) ?_
  show own_Run p e below s₁ (mkF m 1 #[.val (.int p0), .val (.int p1), .unset, .unset, .unset, .unset] [(.int p0)]) _
  refine own_step (fun t k => X0.ldcInt hx hown (mvT hZ (hw _ (List.mem_of_getElem? (i := 0) rfl))) (g := (mkF m 1 #[.val (.int p0), .val (.int p1), .unset, .unset, .unset, .unset] [(.int p0)])) rfl (hb hby at_1) t k) ?_
  show own_Run p e below s₁ (mkF m 3 #[.val (.int p0), .val (.int p1), .unset, .unset, .unset, .unset] [(.int (2147483647 : Int32)), (.int p0)]) _
  refine own_step (fun t k => XS.iand X0.here hx rfl (hb hby at_3) rfl k) ?_
  show own_Run p e below s₁ (mkF m 4 #[.val (.int p0), .val (.int p1), .unset, .unset, .unset, .unset] [(.int (p0 &&& (2147483647 : Int32)))]) _
  refine own_step (fun t k => X0.ldcInt hx hown (mvT hZ (hw _ (List.mem_of_getElem? (i := 1) rfl))) (g := (mkF m 4 #[.val (.int p0), .val (.int p1), .unset, .unset, .unset, .unset] [(.int (p0 &&& (2147483647 : Int32)))])) rfl (hb hby at_4) t k) ?_
  show own_Run p e below s₁ (mkF m 6 #[.val (.int p0), .val (.int p1), .unset, .unset, .unset, .unset] [(.int (1114112 : Int32)), (.int (p0 &&& (2147483647 : Int32)))]) _
  refine own_step (fun t k => XS.irem X0.here hx rfl (hb hby at_6) rfl (by decide) k) ?_
  show own_Run p e below s₁ (mkF m 7 #[.val (.int p0), .val (.int p1), .unset, .unset, .unset, .unset] [(.int (own_rem (p0 &&& (2147483647 : Int32)) (1114112 : Int32)))]) _
  refine own_step (fun t k => XS.istoreN X0.here hx rfl (hb hby at_7) rfl (l' := #[.val (.int p0), .val (.int p1), .val (.int (own_f0_7 p0)), .unset, .unset, .unset]) rfl k) ?_
  show own_Run p e below s₁ (mkF m 8 #[.val (.int p0), .val (.int p1), .val (.int (own_f0_7 p0)), .unset, .unset, .unset] []) _
  refine own_step (fun t k => XS.iloadN X0.here hx rfl (hb hby at_8) rfl  k) ?_
  show own_Run p e below s₁ (mkF m 9 #[.val (.int p0), .val (.int p1), .val (.int (own_f0_7 p0)), .unset, .unset, .unset] [(.int p1)]) _
  refine own_step (fun t k => XS.iconst X0.here hx rfl (hb hby at_9) k) ?_
  show own_Run p e below s₁ (mkF m 10 #[.val (.int p0), .val (.int p1), .val (.int (own_f0_7 p0)), .unset, .unset, .unset] [(.int (1 : Int32)), (.int p1)]) _
  refine own_step (fun t k => XS.iand X0.here hx rfl (hb hby at_10) rfl k) ?_
  show own_Run p e below s₁ (mkF m 11 #[.val (.int p0), .val (.int p1), .val (.int (own_f0_7 p0)), .unset, .unset, .unset] [(.int (p1 &&& (1 : Int32)))]) _
  obtain ⟨_, st28, T28, L28, sl25, sl26, sl27, h28, rfl, X28, e28, N28, Zn28, hsl25, hsl26, hsl27⟩ : own_Run p e below s₁ (mkF m 11 #[.val (.int p0), .val (.int p1), .val (.int (own_f0_7 p0)), .unset, .unset, .unset] [(.int (p1 &&& (1 : Int32)))]) (fun t => ∃ (T' : State) (L' : List Loc) (sl25 sl26 sl27 : Slot) (h' : Heap), t = T'.setTop (mkF m 73 #[.val (.int p0), .val (.int p1), .val (.int (own_f0_j73_L2 p1 p0)), sl25, sl26, sl27] []) ∧ Stand p l e room_1 s m #[(.int p0), (.int p1)] below meth c T' L' 1 4 ∧ T'.heap = h' ∧ Fr n0 L' ∧ n0 ≤ h'.size ∧ One sl25 ∧ One sl26 ∧ One sl27) := by
    by_cases hc29 : (p1 &&& (1 : Int32)) = (0 : Int32)
    · refine own_step (fun t k => XS.ifYes X0.here hx rfl (pc0 := 11) (pc' := 73) rfl (hb hby at_11) rfl ((if0 _ _).trans (teq hc29).1) (by decide) (by decide) k) ?_
      show own_Run p e below s₁ (mkF m 73 #[.val (.int p0), .val (.int p1), .val (.int (own_f0_7 p0)), .unset, .unset, .unset] []) _
      have hj0 : (own_f0_j73_L2 p1 p0) = (own_f0_7 p0) := (if_pos hc29)
      exact own_here ⟨s₁, _, .unset, .unset, .unset, _, (by rw [hj0]), (X0.more (by decide) (by decide)), e0, N0, Z0, One.u, One.u, One.u⟩
    · refine own_step (fun t k => XS.ifNo X0.here hx rfl (hb hby at_11) rfl ((if0 _ _).trans (feq hc29).1) k) ?_
      show own_Run p e below s₁ (mkF m 14 #[.val (.int p0), .val (.int p1), .val (.int (own_f0_7 p0)), .unset, .unset, .unset] []) _
      refine own_step (fun t k => XS.iconst X0.here hx rfl (hb hby at_14) k) ?_
      show own_Run p e below s₁ (mkF m 15 #[.val (.int p0), .val (.int p1), .val (.int (own_f0_7 p0)), .unset, .unset, .unset] [(.int (4 : Int32))]) _
      obtain ⟨T30, h30, k30, X30, e30, E30, A30, st30⟩ := newP X0 hx hZ (hw _ (List.mem_of_getElem? (i := 2) rfl)) e0 (g := (mkF m 15 #[.val (.int p0), .val (.int p1), .val (.int (own_f0_7 p0)), .unset, .unset, .unset] [(.int (4 : Int32))])) rfl (hb hby at_15) rfl (by decide) (cap := 4) (by decide) (by decide) (by decide) (by decide)
      obtain ⟨b30, g30⟩ : ∃ z, z = h0.size := ⟨_, rfl⟩
      rw [← g30] at A30 st30
      have geb30 : n0 ≤ b30 := Nat.le_trans Z0 (Nat.le_of_eq g30.symm)
      have Zn30 : n0 ≤ h30.size := Nat.le_trans Z0 E30.1
      have V30 : Arv Z h30 b30 k30 .int (4 : Int32) [(.int (0 : Int32)), (.int (0 : Int32)), (.int (0 : Int32)), (.int (0 : Int32))] (.int (0 : Int32)) := (Arv.new A30 (by decide)).pad (pad_rep [] (.int (0 : Int32)) 4)
      refine own_step st30 ?_
      show own_Run p e below T30 (mkF m 17 #[.val (.int p0), .val (.int p1), .val (.int (own_f0_7 p0)), .unset, .unset, .unset] [(.ref b30)]) _
      refine own_step (fun t k => XS.dup X30.here hx rfl (hb hby at_17) rfl rfl k) ?_
      show own_Run p e below T30 (mkF m 18 #[.val (.int p0), .val (.int p1), .val (.int (own_f0_7 p0)), .unset, .unset, .unset] [(.ref b30), (.ref b30)]) _
      refine own_step (fun t k => XS.iconst X30.here hx rfl (hb hby at_18) k) ?_
      show own_Run p e below T30 (mkF m 19 #[.val (.int p0), .val (.int p1), .val (.int (own_f0_7 p0)), .unset, .unset, .unset] [(.int (0 : Int32)), (.ref b30), (.ref b30)]) _
      refine own_step (fun t k => XS.sipush X30.here hx rfl (hb hby at_19) k) ?_
      show own_Run p e below T30 (mkF m 22 #[.val (.int p0), .val (.int p1), .val (.int (own_f0_7 p0)), .unset, .unset, .unset] [(.int (128 : Int32)), (.int (0 : Int32)), (.ref b30), (.ref b30)]) _
      obtain ⟨T31, h31, L31, X31, e31, N31, W31, V31, st31⟩ := own_stI X30 hx hZ e30 V30 N0 geb30 (j := (0 : Int32)) ⟨by decide, by decide⟩ 0 rfl (Nat.le_of_ble_eq_true rfl) (g := (mkF m 22 #[.val (.int p0), .val (.int p1), .val (.int (own_f0_7 p0)), .unset, .unset, .unset] [(.int (128 : Int32)), (.int (0 : Int32)), (.ref b30), (.ref b30)])) rfl rfl (hb hby at_22)
      have V31x : Arv Z h31 b30 k30 .int (4 : Int32) [(.int (128 : Int32)), (.int (0 : Int32)), (.int (0 : Int32)), (.int (0 : Int32))] (.int (0 : Int32)) := V31
      have Zn31 : n0 ≤ h31.size := Nat.le_trans Zn30 (Keep.of_wr W31).1
      refine own_step st31 ?_
      show own_Run p e below T31 (mkF m 23 #[.val (.int p0), .val (.int p1), .val (.int (own_f0_7 p0)), .unset, .unset, .unset] [(.ref b30)]) _
      refine own_step (fun t k => XS.dup X31.here hx rfl (hb hby at_23) rfl rfl k) ?_
      show own_Run p e below T31 (mkF m 24 #[.val (.int p0), .val (.int p1), .val (.int (own_f0_7 p0)), .unset, .unset, .unset] [(.ref b30), (.ref b30)]) _
      refine own_step (fun t k => XS.iconst X31.here hx rfl (hb hby at_24) k) ?_
      show own_Run p e below T31 (mkF m 25 #[.val (.int p0), .val (.int p1), .val (.int (own_f0_7 p0)), .unset, .unset, .unset] [(.int (1 : Int32)), (.ref b30), (.ref b30)]) _
      refine own_step (fun t k => XS.sipush X31.here hx rfl (hb hby at_25) k) ?_
      show own_Run p e below T31 (mkF m 28 #[.val (.int p0), .val (.int p1), .val (.int (own_f0_7 p0)), .unset, .unset, .unset] [(.int (2048 : Int32)), (.int (1 : Int32)), (.ref b30), (.ref b30)]) _
      obtain ⟨T32, h32, L32, X32, e32, N32, W32, V32, st32⟩ := own_stI X31 hx hZ e31 V31x N31 geb30 (j := (1 : Int32)) ⟨by decide, by decide⟩ 1 rfl (Nat.le_of_ble_eq_true rfl) (g := (mkF m 28 #[.val (.int p0), .val (.int p1), .val (.int (own_f0_7 p0)), .unset, .unset, .unset] [(.int (2048 : Int32)), (.int (1 : Int32)), (.ref b30), (.ref b30)])) rfl rfl (hb hby at_28)
      have V32x : Arv Z h32 b30 k30 .int (4 : Int32) [(.int (128 : Int32)), (.int (2048 : Int32)), (.int (0 : Int32)), (.int (0 : Int32))] (.int (0 : Int32)) := V32
      have Zn32 : n0 ≤ h32.size := Nat.le_trans Zn31 (Keep.of_wr W32).1
      refine own_step st32 ?_
      show own_Run p e below T32 (mkF m 29 #[.val (.int p0), .val (.int p1), .val (.int (own_f0_7 p0)), .unset, .unset, .unset] [(.ref b30)]) _
      refine own_step (fun t k => XS.dup X32.here hx rfl (hb hby at_29) rfl rfl k) ?_
      show own_Run p e below T32 (mkF m 30 #[.val (.int p0), .val (.int p1), .val (.int (own_f0_7 p0)), .unset, .unset, .unset] [(.ref b30), (.ref b30)]) _
      refine own_step (fun t k => XS.iconst X32.here hx rfl (hb hby at_30) k) ?_
      show own_Run p e below T32 (mkF m 31 #[.val (.int p0), .val (.int p1), .val (.int (own_f0_7 p0)), .unset, .unset, .unset] [(.int (2 : Int32)), (.ref b30), (.ref b30)]) _
      refine own_step (fun t k => X32.ldcInt hx hown (mvT hZ (hw _ (List.mem_of_getElem? (i := 3) rfl))) (g := (mkF m 31 #[.val (.int p0), .val (.int p1), .val (.int (own_f0_7 p0)), .unset, .unset, .unset] [(.int (2 : Int32)), (.ref b30), (.ref b30)])) rfl (hb hby at_31) t k) ?_
      show own_Run p e below T32 (mkF m 33 #[.val (.int p0), .val (.int p1), .val (.int (own_f0_7 p0)), .unset, .unset, .unset] [(.int (65536 : Int32)), (.int (2 : Int32)), (.ref b30), (.ref b30)]) _
      obtain ⟨T33, h33, L33, X33, e33, N33, W33, V33, st33⟩ := own_stI X32 hx hZ e32 V32x N32 geb30 (j := (2 : Int32)) ⟨by decide, by decide⟩ 2 rfl (Nat.le_of_ble_eq_true rfl) (g := (mkF m 33 #[.val (.int p0), .val (.int p1), .val (.int (own_f0_7 p0)), .unset, .unset, .unset] [(.int (65536 : Int32)), (.int (2 : Int32)), (.ref b30), (.ref b30)])) rfl rfl (hb hby at_33)
      have V33x : Arv Z h33 b30 k30 .int (4 : Int32) [(.int (128 : Int32)), (.int (2048 : Int32)), (.int (65536 : Int32)), (.int (0 : Int32))] (.int (0 : Int32)) := V33
      have Zn33 : n0 ≤ h33.size := Nat.le_trans Zn32 (Keep.of_wr W33).1
      refine own_step st33 ?_
      show own_Run p e below T33 (mkF m 34 #[.val (.int p0), .val (.int p1), .val (.int (own_f0_7 p0)), .unset, .unset, .unset] [(.ref b30)]) _
      refine own_step (fun t k => XS.dup X33.here hx rfl (hb hby at_34) rfl rfl k) ?_
      show own_Run p e below T33 (mkF m 35 #[.val (.int p0), .val (.int p1), .val (.int (own_f0_7 p0)), .unset, .unset, .unset] [(.ref b30), (.ref b30)]) _
      refine own_step (fun t k => XS.iconst X33.here hx rfl (hb hby at_35) k) ?_
      show own_Run p e below T33 (mkF m 36 #[.val (.int p0), .val (.int p1), .val (.int (own_f0_7 p0)), .unset, .unset, .unset] [(.int (3 : Int32)), (.ref b30), (.ref b30)]) _
      refine own_step (fun t k => X33.ldcInt hx hown (mvT hZ (hw _ (List.mem_of_getElem? (i := 1) rfl))) (g := (mkF m 36 #[.val (.int p0), .val (.int p1), .val (.int (own_f0_7 p0)), .unset, .unset, .unset] [(.int (3 : Int32)), (.ref b30), (.ref b30)])) rfl (hb hby at_36) t k) ?_
      show own_Run p e below T33 (mkF m 38 #[.val (.int p0), .val (.int p1), .val (.int (own_f0_7 p0)), .unset, .unset, .unset] [(.int (1114112 : Int32)), (.int (3 : Int32)), (.ref b30), (.ref b30)]) _
      obtain ⟨T34, h34, L34, X34, e34, N34, W34, V34, st34⟩ := own_stI X33 hx hZ e33 V33x N33 geb30 (j := (3 : Int32)) ⟨by decide, by decide⟩ 3 rfl (Nat.le_of_ble_eq_true rfl) (g := (mkF m 38 #[.val (.int p0), .val (.int p1), .val (.int (own_f0_7 p0)), .unset, .unset, .unset] [(.int (1114112 : Int32)), (.int (3 : Int32)), (.ref b30), (.ref b30)])) rfl rfl (hb hby at_38)
      have V34x : Arv Z h34 b30 k30 .int (4 : Int32) [(.int (128 : Int32)), (.int (2048 : Int32)), (.int (65536 : Int32)), (.int (1114112 : Int32))] (.int (0 : Int32)) := V34
      have Zn34 : n0 ≤ h34.size := Nat.le_trans Zn33 (Keep.of_wr W34).1
      refine own_step st34 ?_
      show own_Run p e below T34 (mkF m 39 #[.val (.int p0), .val (.int p1), .val (.int (own_f0_7 p0)), .unset, .unset, .unset] [(.ref b30)]) _
      refine own_step (fun t k => XS.astoreN X34.here hx rfl (hb hby at_39) rfl rfl (l' := #[.val (.int p0), .val (.int p1), .val (.int (own_f0_7 p0)), .val (.ref b30), .unset, .unset]) rfl k) ?_
      show own_Run p e below T34 (mkF m 40 #[.val (.int p0), .val (.int p1), .val (.int (own_f0_7 p0)), .val (.ref b30), .unset, .unset] []) _
      refine own_step (fun t k => XS.aloadN X34.here hx rfl (hb hby at_40) rfl rfl k) ?_
      show own_Run p e below T34 (mkF m 41 #[.val (.int p0), .val (.int p1), .val (.int (own_f0_7 p0)), .val (.ref b30), .unset, .unset] [(.ref b30)]) _
      refine own_step (fun t k => XS.iloadN X34.here hx rfl (hb hby at_41) rfl  k) ?_
      show own_Run p e below T34 (mkF m 42 #[.val (.int p0), .val (.int p1), .val (.int (own_f0_7 p0)), .val (.ref b30), .unset, .unset] [(.int p1), (.ref b30)]) _
      refine own_step (fun t k => XS.iconst X34.here hx rfl (hb hby at_42) k) ?_
      show own_Run p e below T34 (mkF m 43 #[.val (.int p0), .val (.int p1), .val (.int (own_f0_7 p0)), .val (.ref b30), .unset, .unset] [(.int (1 : Int32)), (.int p1), (.ref b30)]) _
      refine own_step (fun t k => XS.ishr X34.here hx rfl (hb hby at_43) rfl k) ?_
      show own_Run p e below T34 (mkF m 44 #[.val (.int p0), .val (.int p1), .val (.int (own_f0_7 p0)), .val (.ref b30), .unset, .unset] [(.int (own_shr p1 (1 : Int32))), (.ref b30)]) _
      refine own_step (fun t k => XS.iconst X34.here hx rfl (hb hby at_44) k) ?_
      show own_Run p e below T34 (mkF m 45 #[.val (.int p0), .val (.int p1), .val (.int (own_f0_7 p0)), .val (.ref b30), .unset, .unset] [(.int (3 : Int32)), (.int (own_shr p1 (1 : Int32))), (.ref b30)]) _
      refine own_step (fun t k => XS.iand X34.here hx rfl (hb hby at_45) rfl k) ?_
      show own_Run p e below T34 (mkF m 46 #[.val (.int p0), .val (.int p1), .val (.int (own_f0_7 p0)), .val (.ref b30), .unset, .unset] [(.int ((own_shr p1 (1 : Int32)) &&& (3 : Int32))), (.ref b30)]) _
      refine own_step (own_ldI X34 hx hZ e34 V34x (j := ((own_shr p1 (1 : Int32)) &&& (3 : Int32))) (v := (.int (own_bounds.getD (((own_shr p1 (1 : Int32)) &&& (3 : Int32))).toNatClampNeg 0))) (own_idx p1) (own_elem _) (g := (mkF m 46 #[.val (.int p0), .val (.int p1), .val (.int (own_f0_7 p0)), .val (.ref b30), .unset, .unset] [(.int ((own_shr p1 (1 : Int32)) &&& (3 : Int32))), (.ref b30)])) rfl rfl (hb hby at_46)) ?_
      show own_Run p e below T34 (mkF m 47 #[.val (.int p0), .val (.int p1), .val (.int (own_f0_7 p0)), .val (.ref b30), .unset, .unset] [(.int (own_bounds.getD (((own_shr p1 (1 : Int32)) &&& (3 : Int32))).toNatClampNeg 0))]) _
      refine own_step (fun t k => XS.istore X34.here hx rfl (hb hby at_47) rfl (l' := #[.val (.int p0), .val (.int p1), .val (.int (own_f0_7 p0)), .val (.ref b30), .val (.int (own_f0_47 p1)), .unset]) rfl k) ?_
      show own_Run p e below T34 (mkF m 49 #[.val (.int p0), .val (.int p1), .val (.int (own_f0_7 p0)), .val (.ref b30), .val (.int (own_f0_47 p1)), .unset] []) _
      refine own_step (fun t k => XS.iloadN X34.here hx rfl (hb hby at_49) rfl  k) ?_
      show own_Run p e below T34 (mkF m 50 #[.val (.int p0), .val (.int p1), .val (.int (own_f0_7 p0)), .val (.ref b30), .val (.int (own_f0_47 p1)), .unset] [(.int p1)]) _
      refine own_step (fun t k => XS.iconst X34.here hx rfl (hb hby at_50) k) ?_
      show own_Run p e below T34 (mkF m 51 #[.val (.int p0), .val (.int p1), .val (.int (own_f0_7 p0)), .val (.ref b30), .val (.int (own_f0_47 p1)), .unset] [(.int (3 : Int32)), (.int p1)]) _
      refine own_step (fun t k => XS.ishr X34.here hx rfl (hb hby at_51) rfl k) ?_
      show own_Run p e below T34 (mkF m 52 #[.val (.int p0), .val (.int p1), .val (.int (own_f0_7 p0)), .val (.ref b30), .val (.int (own_f0_47 p1)), .unset] [(.int (own_shr p1 (3 : Int32)))]) _
      refine own_step (fun t k => XS.iconst X34.here hx rfl (hb hby at_52) k) ?_
      show own_Run p e below T34 (mkF m 53 #[.val (.int p0), .val (.int p1), .val (.int (own_f0_7 p0)), .val (.ref b30), .val (.int (own_f0_47 p1)), .unset] [(.int (3 : Int32)), (.int (own_shr p1 (3 : Int32)))]) _
      refine own_step (fun t k => XS.iand X34.here hx rfl (hb hby at_53) rfl k) ?_
      show own_Run p e below T34 (mkF m 54 #[.val (.int p0), .val (.int p1), .val (.int (own_f0_7 p0)), .val (.ref b30), .val (.int (own_f0_47 p1)), .unset] [(.int ((own_shr p1 (3 : Int32)) &&& (3 : Int32)))]) _
      refine own_step (fun t k => XS.iconst X34.here hx rfl (hb hby at_54) k) ?_
      show own_Run p e below T34 (mkF m 55 #[.val (.int p0), .val (.int p1), .val (.int (own_f0_7 p0)), .val (.ref b30), .val (.int (own_f0_47 p1)), .unset] [(.int (2 : Int32)), (.int ((own_shr p1 (3 : Int32)) &&& (3 : Int32)))]) _
      refine own_step (fun t k => XS.isub X34.here hx rfl (hb hby at_55) rfl k) ?_
      show own_Run p e below T34 (mkF m 56 #[.val (.int p0), .val (.int p1), .val (.int (own_f0_7 p0)), .val (.ref b30), .val (.int (own_f0_47 p1)), .unset] [(.int (((own_shr p1 (3 : Int32)) &&& (3 : Int32)) - (2 : Int32)))]) _
      refine own_step (fun t k => XS.istore X34.here hx rfl (hb hby at_56) rfl (l' := #[.val (.int p0), .val (.int p1), .val (.int (own_f0_7 p0)), .val (.ref b30), .val (.int (own_f0_47 p1)), .val (.int (own_f0_56 p1))]) rfl k) ?_
      show own_Run p e below T34 (mkF m 58 #[.val (.int p0), .val (.int p1), .val (.int (own_f0_7 p0)), .val (.ref b30), .val (.int (own_f0_47 p1)), .val (.int (own_f0_56 p1))] []) _
      refine own_step (fun t k => XS.iconst X34.here hx rfl (hb hby at_58) k) ?_
      show own_Run p e below T34 (mkF m 59 #[.val (.int p0), .val (.int p1), .val (.int (own_f0_7 p0)), .val (.ref b30), .val (.int (own_f0_47 p1)), .val (.int (own_f0_56 p1))] [(.int (0 : Int32))]) _
      refine own_step (fun t k => X34.ldcInt hx hown (mvT hZ (hw _ (List.mem_of_getElem? (i := 4) rfl))) (g := (mkF m 59 #[.val (.int p0), .val (.int p1), .val (.int (own_f0_7 p0)), .val (.ref b30), .val (.int (own_f0_47 p1)), .val (.int (own_f0_56 p1))] [(.int (0 : Int32))])) rfl (hb hby at_59) t k) ?_
      show own_Run p e below T34 (mkF m 61 #[.val (.int p0), .val (.int p1), .val (.int (own_f0_7 p0)), .val (.ref b30), .val (.int (own_f0_47 p1)), .val (.int (own_f0_56 p1))] [(.int (1114111 : Int32)), (.int (0 : Int32))]) _
      refine own_step (fun t k => XS.iload X34.here hx rfl (hb hby at_61) rfl  k) ?_
      show own_Run p e below T34 (mkF m 63 #[.val (.int p0), .val (.int p1), .val (.int (own_f0_7 p0)), .val (.ref b30), .val (.int (own_f0_47 p1)), .val (.int (own_f0_56 p1))] [(.int (own_f0_47 p1)), (.int (1114111 : Int32)), (.int (0 : Int32))]) _
      refine own_step (fun t k => XS.iload X34.here hx rfl (hb hby at_63) rfl  k) ?_
      show own_Run p e below T34 (mkF m 65 #[.val (.int p0), .val (.int p1), .val (.int (own_f0_7 p0)), .val (.ref b30), .val (.int (own_f0_47 p1)), .val (.int (own_f0_56 p1))] [(.int (own_f0_56 p1)), (.int (own_f0_47 p1)), (.int (1114111 : Int32)), (.int (0 : Int32))]) _
      refine own_step (fun t k => XS.iadd X34.here hx rfl (hb hby at_65) rfl k) ?_
      show own_Run p e below T34 (mkF m 66 #[.val (.int p0), .val (.int p1), .val (.int (own_f0_7 p0)), .val (.ref b30), .val (.int (own_f0_47 p1)), .val (.int (own_f0_56 p1))] [(.int ((own_f0_47 p1) + (own_f0_56 p1))), (.int (1114111 : Int32)), (.int (0 : Int32))]) _
      obtain ⟨_, _, ⟨T35, L35, kq35, nq35⟩, -, X35, ⟨Lc35, hQ35, lq35, yq35, zq35⟩, st35⟩ := Jvm.LawKit.callS X34 hx (y := (⟨"java/lang/Math", "min", "(II)I"⟩ : MethodName)) hown (mvT hZ (hw _ (List.mem_of_getElem? (i := 5) rfl))) (mvT hZ (hw _ (List.mem_of_getElem? (i := 6) rfl))) (mvT hZ (hw _ (List.mem_of_getElem? (i := 7) rfl))) (mvT hZ (hw _ (List.mem_of_getElem? (i := 8) rfl))) (by decide) (backOf (W := 1) (rm1 l Z a0 hw [] (1114111 : Int32) ((own_f0_47 p1) + (own_f0_56 p1)) h34 n0 Zn34 ) hZ (hw _ (List.mem_of_getElem? (i := 8) rfl)) (hw _ (List.mem_of_getElem? (i := 7) rfl)) (by decide) (by decide)) (g := (mkF m 66 #[.val (.int p0), .val (.int p1), .val (.int (own_f0_7 p0)), .val (.ref b30), .val (.int (own_f0_47 p1)), .val (.int (own_f0_56 p1))] [(.int ((own_f0_47 p1) + (own_f0_56 p1))), (.int (1114111 : Int32)), (.int (0 : Int32))])) rfl (by rw [hml]; rfl) (argsL := [(.int (1114111 : Int32)), (.int ((own_f0_47 p1) + (own_f0_56 p1)))]) (rest := [(.int (0 : Int32))]) (lenOf own_pd36 rfl) rfl (by show 2 * 0 + _ ≤ _; exact Nat.le_of_eq rfl) (hb hby at_66) (fun _ _ => ⟨rfl, e34, (by decide : 1 + 0 ≤ _), (by decide : 4 + 0 ≤ _)⟩)
      dsimp only [Pt.U, Pt.locs, Pt.cells, Pt.slots] at X35 lq35 yq35 zq35 st35 hQ35
      subst lq35 yq35 zq35
      obtain ⟨rfl, N35q, e35⟩ := hQ35
      have N35 := Fr.app N34 N35q
      refine own_step st35 ?_
      show own_Run p e below T35 (mkF m 69 #[.val (.int p0), .val (.int p1), .val (.int (own_f0_7 p0)), .val (.ref b30), .val (.int (own_f0_47 p1)), .val (.int (own_f0_56 p1))] [(.int (own_r1 (1114111 : Int32) ((own_f0_47 p1) + (own_f0_56 p1)))), (.int (0 : Int32))]) _
      obtain ⟨_, _, ⟨T36, L36, kq36, nq36⟩, -, X36, ⟨Lc36, hQ36, lq36, yq36, zq36⟩, st36⟩ := Jvm.LawKit.callS X35 hx (y := (⟨"java/lang/Math", "max", "(II)I"⟩ : MethodName)) hown (mvT hZ (hw _ (List.mem_of_getElem? (i := 9) rfl))) (mvT hZ (hw _ (List.mem_of_getElem? (i := 10) rfl))) (mvT hZ (hw _ (List.mem_of_getElem? (i := 7) rfl))) (mvT hZ (hw _ (List.mem_of_getElem? (i := 11) rfl))) (by decide) (backOf (W := 0) (rm2 l Z a0 hw [] (0 : Int32) (own_r1 (1114111 : Int32) ((own_f0_47 p1) + (own_f0_56 p1))) h34 n0 Zn34 ) hZ (hw _ (List.mem_of_getElem? (i := 11) rfl)) (hw _ (List.mem_of_getElem? (i := 7) rfl)) (by decide) (by decide)) (g := (mkF m 69 #[.val (.int p0), .val (.int p1), .val (.int (own_f0_7 p0)), .val (.ref b30), .val (.int (own_f0_47 p1)), .val (.int (own_f0_56 p1))] [(.int (own_r1 (1114111 : Int32) ((own_f0_47 p1) + (own_f0_56 p1)))), (.int (0 : Int32))])) rfl (by rw [hml]; rfl) (argsL := [(.int (0 : Int32)), (.int (own_r1 (1114111 : Int32) ((own_f0_47 p1) + (own_f0_56 p1))))]) (rest := []) (lenOf own_pd36 rfl) rfl (by show 2 * 0 + _ ≤ _; exact Nat.le_of_eq rfl) (hb hby at_69) (fun _ _ => ⟨rfl, e35, (by decide : 1 + 0 ≤ _), (by decide : 4 + 0 ≤ _)⟩)
      dsimp only [Pt.U, Pt.locs, Pt.cells, Pt.slots] at X36 lq36 yq36 zq36 st36 hQ36
      subst lq36 yq36 zq36
      obtain ⟨rfl, N36q, e36⟩ := hQ36
      have N36 := Fr.app N35 N36q
      refine own_step st36 ?_
      show own_Run p e below T36 (mkF m 72 #[.val (.int p0), .val (.int p1), .val (.int (own_f0_7 p0)), .val (.ref b30), .val (.int (own_f0_47 p1)), .val (.int (own_f0_56 p1))] [(.int (own_r2 (0 : Int32) (own_r1 (1114111 : Int32) ((own_f0_47 p1) + (own_f0_56 p1)))))]) _
      refine own_step (fun t k => XS.istoreN X36.here hx rfl (hb hby at_72) rfl (l' := #[.val (.int p0), .val (.int p1), .val (.int (own_f0_72 p1)), .val (.ref b30), .val (.int (own_f0_47 p1)), .val (.int (own_f0_56 p1))]) rfl k) ?_
      show own_Run p e below T36 (mkF m 73 #[.val (.int p0), .val (.int p1), .val (.int (own_f0_72 p1)), .val (.ref b30), .val (.int (own_f0_47 p1)), .val (.int (own_f0_56 p1))] []) _
      have hj0 : (own_f0_j73_L2 p1 p0) = (own_f0_72 p1) := (if_neg hc29)
      exact own_here ⟨T36, _, (.val (.ref b30)), (.val (.int (own_f0_47 p1))), (.val (.int (own_f0_56 p1))), _, (by rw [hj0]), X36, e36, N36, Zn34, (One.val rfl), (One.val rfl), (One.val rfl)⟩
  refine own_tr st28 ?_
  show own_Run p e below T28 (mkF m 73 #[.val (.int p0), .val (.int p1), .val (.int (own_f0_j73_L2 p1 p0)), sl25, sl26, sl27] []) _
  refine own_step (fun t k => XS.iloadN X28.here hx rfl (hb hby at_73) rfl  k) ?_
  show own_Run p e below T28 (mkF m 74 #[.val (.int p0), .val (.int p1), .val (.int (own_f0_j73_L2 p1 p0)), sl25, sl26, sl27] [(.int (own_f0_j73_L2 p1 p0))]) _
  refine own_step (fun t k => X28.ldcInt hx hown (mvT hZ (hw _ (List.mem_of_getElem? (i := 12) rfl))) (g := (mkF m 74 #[.val (.int p0), .val (.int p1), .val (.int (own_f0_j73_L2 p1 p0)), sl25, sl26, sl27] [(.int (own_f0_j73_L2 p1 p0))])) rfl (hb hby at_74) t k) ?_
  show own_Run p e below T28 (mkF m 76 #[.val (.int p0), .val (.int p1), .val (.int (own_f0_j73_L2 p1 p0)), sl25, sl26, sl27] [(.int (55296 : Int32)), (.int (own_f0_j73_L2 p1 p0))]) _
  obtain ⟨_, st37, rfl⟩ : own_Run p e below T28 (mkF m 76 #[.val (.int p0), .val (.int p1), .val (.int (own_f0_j73_L2 p1 p0)), sl25, sl26, sl27] [(.int (55296 : Int32)), (.int (own_f0_j73_L2 p1 p0))]) (fun t => t = T28.setTop (mkF m 91 #[.val (.int p0), .val (.int p1), .val (.int (own_f0_j91_L2 p1 p0)), sl25, sl26, sl27] [])) := by
    by_cases hc38 : (own_f0_j73_L2 p1 p0) < (55296 : Int32)
    · refine own_step (fun t k => XS.icmpYes X28.here hx rfl (pc0 := 76) (pc' := 91) rfl (hb hby at_76) rfl (tlt hc38).1 (by decide) (by decide) k) ?_
      show own_Run p e below T28 (mkF m 91 #[.val (.int p0), .val (.int p1), .val (.int (own_f0_j73_L2 p1 p0)), sl25, sl26, sl27] []) _
      have hj0 : (own_f0_j91_L2 p1 p0) = (own_f0_j73_L2 p1 p0) := (if_pos hc38)
      exact own_here (by rw [hj0])
    · refine own_step (fun t k => XS.icmpNo X28.here hx rfl (hb hby at_76) rfl (flt hc38).1 k) ?_
      show own_Run p e below T28 (mkF m 79 #[.val (.int p0), .val (.int p1), .val (.int (own_f0_j73_L2 p1 p0)), sl25, sl26, sl27] []) _
      refine own_step (fun t k => XS.iloadN X28.here hx rfl (hb hby at_79) rfl  k) ?_
      show own_Run p e below T28 (mkF m 80 #[.val (.int p0), .val (.int p1), .val (.int (own_f0_j73_L2 p1 p0)), sl25, sl26, sl27] [(.int (own_f0_j73_L2 p1 p0))]) _
      refine own_step (fun t k => X28.ldcInt hx hown (mvT hZ (hw _ (List.mem_of_getElem? (i := 17) rfl))) (g := (mkF m 80 #[.val (.int p0), .val (.int p1), .val (.int (own_f0_j73_L2 p1 p0)), sl25, sl26, sl27] [(.int (own_f0_j73_L2 p1 p0))])) rfl (hb hby at_80) t k) ?_
      show own_Run p e below T28 (mkF m 82 #[.val (.int p0), .val (.int p1), .val (.int (own_f0_j73_L2 p1 p0)), sl25, sl26, sl27] [(.int (57343 : Int32)), (.int (own_f0_j73_L2 p1 p0))]) _
      by_cases hc39 : (57343 : Int32) < (own_f0_j73_L2 p1 p0)
      · refine own_step (fun t k => XS.icmpYes X28.here hx rfl (pc0 := 82) (pc' := 91) rfl (hb hby at_82) rfl (tlt hc39).2.2.1 (by decide) (by decide) k) ?_
        show own_Run p e below T28 (mkF m 91 #[.val (.int p0), .val (.int p1), .val (.int (own_f0_j73_L2 p1 p0)), sl25, sl26, sl27] []) _
        have hj0 : (own_f0_j91_L2 p1 p0) = (own_f0_j73_L2 p1 p0) := ((if_neg hc38).trans (if_pos hc39))
        exact own_here (by rw [hj0])
      · refine own_step (fun t k => XS.icmpNo X28.here hx rfl (hb hby at_82) rfl (flt hc39).2.2.1 k) ?_
        show own_Run p e below T28 (mkF m 85 #[.val (.int p0), .val (.int p1), .val (.int (own_f0_j73_L2 p1 p0)), sl25, sl26, sl27] []) _
        refine own_step (fun t k => XS.iloadN X28.here hx rfl (hb hby at_85) rfl  k) ?_
        show own_Run p e below T28 (mkF m 86 #[.val (.int p0), .val (.int p1), .val (.int (own_f0_j73_L2 p1 p0)), sl25, sl26, sl27] [(.int (own_f0_j73_L2 p1 p0))]) _
        refine own_step (fun t k => XS.sipush X28.here hx rfl (hb hby at_86) k) ?_
        show own_Run p e below T28 (mkF m 89 #[.val (.int p0), .val (.int p1), .val (.int (own_f0_j73_L2 p1 p0)), sl25, sl26, sl27] [(.int (2048 : Int32)), (.int (own_f0_j73_L2 p1 p0))]) _
        refine own_step (fun t k => XS.isub X28.here hx rfl (hb hby at_89) rfl k) ?_
        show own_Run p e below T28 (mkF m 90 #[.val (.int p0), .val (.int p1), .val (.int (own_f0_j73_L2 p1 p0)), sl25, sl26, sl27] [(.int ((own_f0_j73_L2 p1 p0) - (2048 : Int32)))]) _
        refine own_step (fun t k => XS.istoreN X28.here hx rfl (hb hby at_90) rfl (l' := #[.val (.int p0), .val (.int p1), .val (.int (own_f0_90 p1 p0)), sl25, sl26, sl27]) rfl k) ?_
        show own_Run p e below T28 (mkF m 91 #[.val (.int p0), .val (.int p1), .val (.int (own_f0_90 p1 p0)), sl25, sl26, sl27] []) _
        have hj0 : (own_f0_j91_L2 p1 p0) = (own_f0_90 p1 p0) := ((if_neg hc38).trans (if_neg hc39))
        exact own_here (by rw [hj0])
  refine own_tr st37 ?_
  show own_Run p e below T28 (mkF m 91 #[.val (.int p0), .val (.int p1), .val (.int (own_f0_j91_L2 p1 p0)), sl25, sl26, sl27] []) _
  refine own_step (fun t k => XS.iconst X28.here hx rfl (hb hby at_91) k) ?_
  show own_Run p e below T28 (mkF m 92 #[.val (.int p0), .val (.int p1), .val (.int (own_f0_j91_L2 p1 p0)), sl25, sl26, sl27] [(.int (1 : Int32))]) _
  refine own_step (fun t k => XS.iloadN X28.here hx rfl (hb hby at_92) rfl  k) ?_
  show own_Run p e below T28 (mkF m 93 #[.val (.int p0), .val (.int p1), .val (.int (own_f0_j91_L2 p1 p0)), sl25, sl26, sl27] [(.int (own_f0_j91_L2 p1 p0)), (.int (1 : Int32))]) _
  refine own_step (fun t k => XS.sipush X28.here hx rfl (hb hby at_93) k) ?_
  show own_Run p e below T28 (mkF m 96 #[.val (.int p0), .val (.int p1), .val (.int (own_f0_j91_L2 p1 p0)), sl25, sl26, sl27] [(.int (128 : Int32)), (.int (own_f0_j91_L2 p1 p0)), (.int (1 : Int32))]) _
  obtain ⟨_, st40, rfl⟩ : own_Run p e below T28 (mkF m 96 #[.val (.int p0), .val (.int p1), .val (.int (own_f0_j91_L2 p1 p0)), sl25, sl26, sl27] [(.int (128 : Int32)), (.int (own_f0_j91_L2 p1 p0)), (.int (1 : Int32))]) (fun t => t = T28.setTop (mkF m 104 #[.val (.int p0), .val (.int p1), .val (.int (own_f0_j91_L2 p1 p0)), sl25, sl26, sl27] [(.int (own_f0_j104_S0 p1 p0)), (.int (1 : Int32))])) := by
    by_cases hc41 : (own_f0_j91_L2 p1 p0) < (128 : Int32)
    · refine own_step (fun t k => XS.icmpYes X28.here hx rfl (pc0 := 96) (pc' := 103) rfl (hb hby at_96) rfl (tlt hc41).1 (by decide) (by decide) k) ?_
      show own_Run p e below T28 (mkF m 103 #[.val (.int p0), .val (.int p1), .val (.int (own_f0_j91_L2 p1 p0)), sl25, sl26, sl27] [(.int (1 : Int32))]) _
      refine own_step (fun t k => XS.iconst X28.here hx rfl (hb hby at_103) k) ?_
      show own_Run p e below T28 (mkF m 104 #[.val (.int p0), .val (.int p1), .val (.int (own_f0_j91_L2 p1 p0)), sl25, sl26, sl27] [(.int (0 : Int32)), (.int (1 : Int32))]) _
      have hj0 : (own_f0_j104_S0 p1 p0) = (0 : Int32) := (if_pos hc41)
      exact own_here (by rw [hj0])
    · refine own_step (fun t k => XS.icmpNo X28.here hx rfl (hb hby at_96) rfl (flt hc41).1 k) ?_
      show own_Run p e below T28 (mkF m 99 #[.val (.int p0), .val (.int p1), .val (.int (own_f0_j91_L2 p1 p0)), sl25, sl26, sl27] [(.int (1 : Int32))]) _
      refine own_step (fun t k => XS.iconst X28.here hx rfl (hb hby at_99) k) ?_
      show own_Run p e below T28 (mkF m 100 #[.val (.int p0), .val (.int p1), .val (.int (own_f0_j91_L2 p1 p0)), sl25, sl26, sl27] [(.int (1 : Int32)), (.int (1 : Int32))]) _
      refine own_step (fun t k => XS.goto X28.here hx rfl (pc0 := 100) (pc' := 104) rfl (hb hby at_100) (by decide) (by decide) k) ?_
      show own_Run p e below T28 (mkF m 104 #[.val (.int p0), .val (.int p1), .val (.int (own_f0_j91_L2 p1 p0)), sl25, sl26, sl27] [(.int (1 : Int32)), (.int (1 : Int32))]) _
      have hj0 : (own_f0_j104_S0 p1 p0) = (1 : Int32) := (if_neg hc41)
      exact own_here (by rw [hj0])
  refine own_tr st40 ?_
  show own_Run p e below T28 (mkF m 104 #[.val (.int p0), .val (.int p1), .val (.int (own_f0_j91_L2 p1 p0)), sl25, sl26, sl27] [(.int (own_f0_j104_S0 p1 p0)), (.int (1 : Int32))]) _
  refine own_step (fun t k => XS.iadd X28.here hx rfl (hb hby at_104) rfl k) ?_
  show own_Run p e below T28 (mkF m 105 #[.val (.int p0), .val (.int p1), .val (.int (own_f0_j91_L2 p1 p0)), sl25, sl26, sl27] [(.int ((1 : Int32) + (own_f0_j104_S0 p1 p0)))]) _
  refine own_step (fun t k => XS.iloadN X28.here hx rfl (hb hby at_105) rfl  k) ?_
  show own_Run p e below T28 (mkF m 106 #[.val (.int p0), .val (.int p1), .val (.int (own_f0_j91_L2 p1 p0)), sl25, sl26, sl27] [(.int (own_f0_j91_L2 p1 p0)), (.int ((1 : Int32) + (own_f0_j104_S0 p1 p0)))]) _
  refine own_step (fun t k => XS.sipush X28.here hx rfl (hb hby at_106) k) ?_
  show own_Run p e below T28 (mkF m 109 #[.val (.int p0), .val (.int p1), .val (.int (own_f0_j91_L2 p1 p0)), sl25, sl26, sl27] [(.int (2048 : Int32)), (.int (own_f0_j91_L2 p1 p0)), (.int ((1 : Int32) + (own_f0_j104_S0 p1 p0)))]) _
  obtain ⟨_, st42, rfl⟩ : own_Run p e below T28 (mkF m 109 #[.val (.int p0), .val (.int p1), .val (.int (own_f0_j91_L2 p1 p0)), sl25, sl26, sl27] [(.int (2048 : Int32)), (.int (own_f0_j91_L2 p1 p0)), (.int ((1 : Int32) + (own_f0_j104_S0 p1 p0)))]) (fun t => t = T28.setTop (mkF m 117 #[.val (.int p0), .val (.int p1), .val (.int (own_f0_j91_L2 p1 p0)), sl25, sl26, sl27] [(.int (own_f0_j117_S0 p1 p0)), (.int ((1 : Int32) + (own_f0_j104_S0 p1 p0)))])) := by
    by_cases hc43 : (own_f0_j91_L2 p1 p0) < (2048 : Int32)
    · refine own_step (fun t k => XS.icmpYes X28.here hx rfl (pc0 := 109) (pc' := 116) rfl (hb hby at_109) rfl (tlt hc43).1 (by decide) (by decide) k) ?_
      show own_Run p e below T28 (mkF m 116 #[.val (.int p0), .val (.int p1), .val (.int (own_f0_j91_L2 p1 p0)), sl25, sl26, sl27] [(.int ((1 : Int32) + (own_f0_j104_S0 p1 p0)))]) _
      refine own_step (fun t k => XS.iconst X28.here hx rfl (hb hby at_116) k) ?_
      show own_Run p e below T28 (mkF m 117 #[.val (.int p0), .val (.int p1), .val (.int (own_f0_j91_L2 p1 p0)), sl25, sl26, sl27] [(.int (0 : Int32)), (.int ((1 : Int32) + (own_f0_j104_S0 p1 p0)))]) _
      have hj0 : (own_f0_j117_S0 p1 p0) = (0 : Int32) := (if_pos hc43)
      exact own_here (by rw [hj0])
    · refine own_step (fun t k => XS.icmpNo X28.here hx rfl (hb hby at_109) rfl (flt hc43).1 k) ?_
      show own_Run p e below T28 (mkF m 112 #[.val (.int p0), .val (.int p1), .val (.int (own_f0_j91_L2 p1 p0)), sl25, sl26, sl27] [(.int ((1 : Int32) + (own_f0_j104_S0 p1 p0)))]) _
      refine own_step (fun t k => XS.iconst X28.here hx rfl (hb hby at_112) k) ?_
      show own_Run p e below T28 (mkF m 113 #[.val (.int p0), .val (.int p1), .val (.int (own_f0_j91_L2 p1 p0)), sl25, sl26, sl27] [(.int (1 : Int32)), (.int ((1 : Int32) + (own_f0_j104_S0 p1 p0)))]) _
      refine own_step (fun t k => XS.goto X28.here hx rfl (pc0 := 113) (pc' := 117) rfl (hb hby at_113) (by decide) (by decide) k) ?_
      show own_Run p e below T28 (mkF m 117 #[.val (.int p0), .val (.int p1), .val (.int (own_f0_j91_L2 p1 p0)), sl25, sl26, sl27] [(.int (1 : Int32)), (.int ((1 : Int32) + (own_f0_j104_S0 p1 p0)))]) _
      have hj0 : (own_f0_j117_S0 p1 p0) = (1 : Int32) := (if_neg hc43)
      exact own_here (by rw [hj0])
  refine own_tr st42 ?_
  show own_Run p e below T28 (mkF m 117 #[.val (.int p0), .val (.int p1), .val (.int (own_f0_j91_L2 p1 p0)), sl25, sl26, sl27] [(.int (own_f0_j117_S0 p1 p0)), (.int ((1 : Int32) + (own_f0_j104_S0 p1 p0)))]) _
  refine own_step (fun t k => XS.iadd X28.here hx rfl (hb hby at_117) rfl k) ?_
  show own_Run p e below T28 (mkF m 118 #[.val (.int p0), .val (.int p1), .val (.int (own_f0_j91_L2 p1 p0)), sl25, sl26, sl27] [(.int (((1 : Int32) + (own_f0_j104_S0 p1 p0)) + (own_f0_j117_S0 p1 p0)))]) _
  refine own_step (fun t k => XS.iloadN X28.here hx rfl (hb hby at_118) rfl  k) ?_
  show own_Run p e below T28 (mkF m 119 #[.val (.int p0), .val (.int p1), .val (.int (own_f0_j91_L2 p1 p0)), sl25, sl26, sl27] [(.int (own_f0_j91_L2 p1 p0)), (.int (((1 : Int32) + (own_f0_j104_S0 p1 p0)) + (own_f0_j117_S0 p1 p0)))]) _
  refine own_step (fun t k => X28.ldcInt hx hown (mvT hZ (hw _ (List.mem_of_getElem? (i := 3) rfl))) (g := (mkF m 119 #[.val (.int p0), .val (.int p1), .val (.int (own_f0_j91_L2 p1 p0)), sl25, sl26, sl27] [(.int (own_f0_j91_L2 p1 p0)), (.int (((1 : Int32) + (own_f0_j104_S0 p1 p0)) + (own_f0_j117_S0 p1 p0)))])) rfl (hb hby at_119) t k) ?_
  show own_Run p e below T28 (mkF m 121 #[.val (.int p0), .val (.int p1), .val (.int (own_f0_j91_L2 p1 p0)), sl25, sl26, sl27] [(.int (65536 : Int32)), (.int (own_f0_j91_L2 p1 p0)), (.int (((1 : Int32) + (own_f0_j104_S0 p1 p0)) + (own_f0_j117_S0 p1 p0)))]) _
  obtain ⟨_, st44, rfl⟩ : own_Run p e below T28 (mkF m 121 #[.val (.int p0), .val (.int p1), .val (.int (own_f0_j91_L2 p1 p0)), sl25, sl26, sl27] [(.int (65536 : Int32)), (.int (own_f0_j91_L2 p1 p0)), (.int (((1 : Int32) + (own_f0_j104_S0 p1 p0)) + (own_f0_j117_S0 p1 p0)))]) (fun t => t = T28.setTop (mkF m 129 #[.val (.int p0), .val (.int p1), .val (.int (own_f0_j91_L2 p1 p0)), sl25, sl26, sl27] [(.int (own_f0_j129_S0 p1 p0)), (.int (((1 : Int32) + (own_f0_j104_S0 p1 p0)) + (own_f0_j117_S0 p1 p0)))])) := by
    by_cases hc45 : (own_f0_j91_L2 p1 p0) < (65536 : Int32)
    · refine own_step (fun t k => XS.icmpYes X28.here hx rfl (pc0 := 121) (pc' := 128) rfl (hb hby at_121) rfl (tlt hc45).1 (by decide) (by decide) k) ?_
      show own_Run p e below T28 (mkF m 128 #[.val (.int p0), .val (.int p1), .val (.int (own_f0_j91_L2 p1 p0)), sl25, sl26, sl27] [(.int (((1 : Int32) + (own_f0_j104_S0 p1 p0)) + (own_f0_j117_S0 p1 p0)))]) _
      refine own_step (fun t k => XS.iconst X28.here hx rfl (hb hby at_128) k) ?_
      show own_Run p e below T28 (mkF m 129 #[.val (.int p0), .val (.int p1), .val (.int (own_f0_j91_L2 p1 p0)), sl25, sl26, sl27] [(.int (0 : Int32)), (.int (((1 : Int32) + (own_f0_j104_S0 p1 p0)) + (own_f0_j117_S0 p1 p0)))]) _
      have hj0 : (own_f0_j129_S0 p1 p0) = (0 : Int32) := (if_pos hc45)
      exact own_here (by rw [hj0])
    · refine own_step (fun t k => XS.icmpNo X28.here hx rfl (hb hby at_121) rfl (flt hc45).1 k) ?_
      show own_Run p e below T28 (mkF m 124 #[.val (.int p0), .val (.int p1), .val (.int (own_f0_j91_L2 p1 p0)), sl25, sl26, sl27] [(.int (((1 : Int32) + (own_f0_j104_S0 p1 p0)) + (own_f0_j117_S0 p1 p0)))]) _
      refine own_step (fun t k => XS.iconst X28.here hx rfl (hb hby at_124) k) ?_
      show own_Run p e below T28 (mkF m 125 #[.val (.int p0), .val (.int p1), .val (.int (own_f0_j91_L2 p1 p0)), sl25, sl26, sl27] [(.int (1 : Int32)), (.int (((1 : Int32) + (own_f0_j104_S0 p1 p0)) + (own_f0_j117_S0 p1 p0)))]) _
      refine own_step (fun t k => XS.goto X28.here hx rfl (pc0 := 125) (pc' := 129) rfl (hb hby at_125) (by decide) (by decide) k) ?_
      show own_Run p e below T28 (mkF m 129 #[.val (.int p0), .val (.int p1), .val (.int (own_f0_j91_L2 p1 p0)), sl25, sl26, sl27] [(.int (1 : Int32)), (.int (((1 : Int32) + (own_f0_j104_S0 p1 p0)) + (own_f0_j117_S0 p1 p0)))]) _
      have hj0 : (own_f0_j129_S0 p1 p0) = (1 : Int32) := (if_neg hc45)
      exact own_here (by rw [hj0])
  refine own_tr st44 ?_
  show own_Run p e below T28 (mkF m 129 #[.val (.int p0), .val (.int p1), .val (.int (own_f0_j91_L2 p1 p0)), sl25, sl26, sl27] [(.int (own_f0_j129_S0 p1 p0)), (.int (((1 : Int32) + (own_f0_j104_S0 p1 p0)) + (own_f0_j117_S0 p1 p0)))]) _
  refine own_step (fun t k => XS.iadd X28.here hx rfl (hb hby at_129) rfl k) ?_
  show own_Run p e below T28 (mkF m 130 #[.val (.int p0), .val (.int p1), .val (.int (own_f0_j91_L2 p1 p0)), sl25, sl26, sl27] [(.int ((((1 : Int32) + (own_f0_j104_S0 p1 p0)) + (own_f0_j117_S0 p1 p0)) + (own_f0_j129_S0 p1 p0)))]) _
  refine own_step (fun t k => XS.istoreN X28.here hx rfl (hb hby at_130) rfl (l' := _) (XS.store1 (by rfl) hsl25 rfl) k) ?_
  show own_Run p e below T28 (mkF m 131 #[.val (.int p0), .val (.int p1), .val (.int (own_f0_j91_L2 p1 p0)), .val (.int (own_f0_130 p1 p0)), sl26, sl27] []) _
  refine own_step (fun t k => XS.iloadN X28.here hx rfl (hb hby at_131) rfl  k) ?_
  show own_Run p e below T28 (mkF m 132 #[.val (.int p0), .val (.int p1), .val (.int (own_f0_j91_L2 p1 p0)), .val (.int (own_f0_130 p1 p0)), sl26, sl27] [(.int (own_f0_j91_L2 p1 p0))]) _
  obtain ⟨_, _, ⟨T46, L46, kq46, nq46⟩, -, X46, ⟨Lc46, hQ46, lq46, yq46, zq46⟩, st46⟩ := Jvm.LawKit.callS X28 hx (y := (⟨"com/example/fuxi/fuxi/codec/Utf8", "length", "(I)I"⟩ : MethodName)) hown (mvT hZ (hw _ (List.mem_of_getElem? (i := 13) rfl))) (mvT hZ (hw _ (List.mem_of_getElem? (i := 14) rfl))) (mvT hZ (hw _ (List.mem_of_getElem? (i := 15) rfl))) (mvT hZ (hw _ (List.mem_of_getElem? (i := 16) rfl))) (by decide) (backOf (W := 0) (rm3 l Z a0 hw [] (own_f0_j91_L2 p1 p0) h28 n0 Zn28 ) hZ (hw _ (List.mem_of_getElem? (i := 16) rfl)) (hw _ (List.mem_of_getElem? (i := 15) rfl)) (by decide) (by decide)) (g := (mkF m 132 #[.val (.int p0), .val (.int p1), .val (.int (own_f0_j91_L2 p1 p0)), .val (.int (own_f0_130 p1 p0)), sl26, sl27] [(.int (own_f0_j91_L2 p1 p0))])) rfl (by rw [hml]; rfl) (argsL := [(.int (own_f0_j91_L2 p1 p0))]) (rest := []) (lenOf own_pd37 rfl) rfl (by show 2 * 0 + _ ≤ _; exact Nat.le_of_eq rfl) (hb hby at_132) (fun _ _ => ⟨rfl, e28, (by decide : 1 + 0 ≤ _), (by decide : 4 + 0 ≤ _)⟩)
  dsimp only [Pt.U, Pt.locs, Pt.cells, Pt.slots] at X46 lq46 yq46 zq46 st46 hQ46
  subst lq46 yq46 zq46
  obtain ⟨rfl, N46q, e46⟩ := hQ46
  have N46 := Fr.app N28 N46q
  refine own_step st46 ?_
  show own_Run p e below T46 (mkF m 135 #[.val (.int p0), .val (.int p1), .val (.int (own_f0_j91_L2 p1 p0)), .val (.int (own_f0_130 p1 p0)), sl26, sl27] [(.int (own_r3 (own_f0_j91_L2 p1 p0)))]) _
  refine own_step (fun t k => XS.iloadN X46.here hx rfl (hb hby at_135) rfl  k) ?_
  show own_Run p e below T46 (mkF m 136 #[.val (.int p0), .val (.int p1), .val (.int (own_f0_j91_L2 p1 p0)), .val (.int (own_f0_130 p1 p0)), sl26, sl27] [(.int (own_f0_130 p1 p0)), (.int (own_r3 (own_f0_j91_L2 p1 p0)))]) _
  obtain ⟨_, st47, rfl⟩ : own_Run p e below T46 (mkF m 136 #[.val (.int p0), .val (.int p1), .val (.int (own_f0_j91_L2 p1 p0)), .val (.int (own_f0_130 p1 p0)), sl26, sl27] [(.int (own_f0_130 p1 p0)), (.int (own_r3 (own_f0_j91_L2 p1 p0)))]) (fun t => t = T46.setTop (mkF m 144 #[.val (.int p0), .val (.int p1), .val (.int (own_f0_j91_L2 p1 p0)), .val (.int (own_f0_130 p1 p0)), sl26, sl27] [(.int (own_f0_j144_S0 p1 p0))])) := by
    by_cases hc48 : (own_r3 (own_f0_j91_L2 p1 p0)) = (own_f0_130 p1 p0)
    · refine own_step (fun t k => XS.icmpNo X46.here hx rfl (hb hby at_136) rfl (teq hc48).2 k) ?_
      show own_Run p e below T46 (mkF m 139 #[.val (.int p0), .val (.int p1), .val (.int (own_f0_j91_L2 p1 p0)), .val (.int (own_f0_130 p1 p0)), sl26, sl27] []) _
      refine own_step (fun t k => XS.iconst X46.here hx rfl (hb hby at_139) k) ?_
      show own_Run p e below T46 (mkF m 140 #[.val (.int p0), .val (.int p1), .val (.int (own_f0_j91_L2 p1 p0)), .val (.int (own_f0_130 p1 p0)), sl26, sl27] [(.int (1 : Int32))]) _
      refine own_step (fun t k => XS.goto X46.here hx rfl (pc0 := 140) (pc' := 144) rfl (hb hby at_140) (by decide) (by decide) k) ?_
      show own_Run p e below T46 (mkF m 144 #[.val (.int p0), .val (.int p1), .val (.int (own_f0_j91_L2 p1 p0)), .val (.int (own_f0_130 p1 p0)), sl26, sl27] [(.int (1 : Int32))]) _
      have hj0 : (own_f0_j144_S0 p1 p0) = (1 : Int32) := (if_pos hc48)
      exact own_here (by rw [hj0])
    · refine own_step (fun t k => XS.icmpYes X46.here hx rfl (pc0 := 136) (pc' := 143) rfl (hb hby at_136) rfl (feq hc48).2 (by decide) (by decide) k) ?_
      show own_Run p e below T46 (mkF m 143 #[.val (.int p0), .val (.int p1), .val (.int (own_f0_j91_L2 p1 p0)), .val (.int (own_f0_130 p1 p0)), sl26, sl27] []) _
      refine own_step (fun t k => XS.iconst X46.here hx rfl (hb hby at_143) k) ?_
      show own_Run p e below T46 (mkF m 144 #[.val (.int p0), .val (.int p1), .val (.int (own_f0_j91_L2 p1 p0)), .val (.int (own_f0_130 p1 p0)), sl26, sl27] [(.int (0 : Int32))]) _
      have hj0 : (own_f0_j144_S0 p1 p0) = (0 : Int32) := (if_neg hc48)
      exact own_here (by rw [hj0])
  refine own_tr st47 ?_
  show own_Run p e below T46 (mkF m 144 #[.val (.int p0), .val (.int p1), .val (.int (own_f0_j91_L2 p1 p0)), .val (.int (own_f0_130 p1 p0)), sl26, sl27] [(.int (own_f0_j144_S0 p1 p0))]) _
  exact own_retZ X46 hx hlk hret (hb hby at_144) (by decide) (by decide) N46 trivial
theorem own_len' (s : Int32) : own_r3 s = (((1 : Int32) + (if s < (128 : Int32) then (0 : Int32) else (1 : Int32))) + (if s < (2048 : Int32) then (0 : Int32) else (1 : Int32))) + (if s < (65536 : Int32) then (0 : Int32) else (1 : Int32)) := by
  unfold own_r3 own_f3_j37_L1
  have e1 : (128 : Int32).toInt = 128 := by decide
  have e2 : (2048 : Int32).toInt = 2048 := by decide
  have e3 : (65536 : Int32).toInt = 65536 := by decide
  simp only [Int32.lt_iff_toInt_lt, e1, e2, e3]
  by_cases h1 : s.toInt < 128
  · rw [if_pos h1, if_pos h1, if_pos (by omega), if_pos (by omega)]; rfl
  · rw [if_neg h1, if_neg h1]
    by_cases h2 : s.toInt < 2048
    · rw [if_pos h2, if_pos h2, if_pos (by omega)]; rfl
    · rw [if_neg h2, if_neg h2]
      by_cases h3 : s.toInt < 65536
      · rw [if_pos h3, if_pos h3]; rfl
      · rw [if_neg h3, if_neg h3]; rfl
theorem own_plain (p0 p1 : Int32) : own_r0 p0 p1 = 1 := by
  have a : own_r3 (own_f0_j91_L2 p1 p0) = own_f0_130 p1 p0 := own_len' _
  unfold own_r0 own_f0_j144_S0; rw [if_pos a]; rfl

set_option maxRecDepth 65536 in
set_option maxHeartbeats 40000000 in
theorem own_comes {Post : Tables → Env → Array Value → State → Outcome → State → Prop} (hpost : ∀ tb e args s v u, (limb_1_1.after args s (.returned v) u = true ∧ limb_1_2.after args s (.returned v) u = true ∧ True) → FrameEnd s (.returned v) u (Jvm.fieldLocs frame_1_writes args s ++ Jvm.arrayLocs frame_1_arrays args s ++ Jvm.staticLocs frame_1_statics s) 16 128 → Post tb e args s (.returned v) u) :
    ArmFor flags0 classFile x code maxLocals ret World_1 tables_1 room_1 Calls_1 rest_1 Pre_1 Post := by
  intro l hfl _ _ p e ha hc hk s m args below hf hA hF happ hP
  obtain ⟨hcalls, hrest, hpre⟩ := hP
  obtain ⟨-, -, -, hnamed, -, -, -, hat⟩ := (Spec.applies_iff hf).mp happ
  obtain ⟨hg, hn⟩ := and_e (Cond.before_iff.mp (show (Jvm.Cond.and given_1 narrow_1).before args s = true from hpre))
  obtain ⟨gc, g0⟩ := and_e hg
  obtain ⟨v0, g1⟩ := and_e g0
  obtain ⟨w0, w1, rfl⟩ : ∃ w0 w1 : Value, args = #[w0, w1] := by
    have hs : args.size = 2 := by simpa [Cond.value, given_1] using gc
    obtain ⟨L⟩ := args
    match L, hs with
    | [w0, w1], _ => exact ⟨w0, w1, rfl⟩
  have hw := fun d (hd : d ∈ tables_1) => atoms_spec (ws := Jvm.Cond.code x code maxLocals ret :: tables_1) hat d (List.mem_cons_of_mem _ hd)
  obtain ⟨i0, ei0⟩ := is_v v0
  obtain rfl : w0 = (.int i0) := Option.some.inj ei0
  obtain ⟨i1, ei1⟩ := is_v g1
  obtain rfl : w1 = (.int i1) := Option.some.inj ei1
  obtain ⟨n, o, h1, h2, h3, _, L, rfl, ⟨rfl, N, -⟩, hq⟩ := rm0 l s _ hw tables_1 i0 i1  s.heap s.heap.size (Nat.le_refl _)  p e ha hc hk s m _ below hf ((Spec.applies_iff_loose hf).mp happ).1 ⟨rfl, State.Warmed39.refl s, rfl⟩ trivial
  have hv : own_r0 i0 i1 = 1 := own_plain i0 i1
  refine ⟨n, _, h1, h2, h3, hpost _ _ _ _ _ _ ⟨Cond.after_iff.mpr rfl, Cond.after_iff.mpr (eq_i res_at (Term.int_eval (1)) (congrArg Value.int hv)), trivial⟩ ⟨hq.1, hq.2.1, (hq.2.2.sift fun y hy => Or.inr (N y hy)).mono (by decide) (by decide)⟩⟩
theorem main_1_1 : Claimed_1_1 := own_comes fun _ _ _ _ _ _ h hF => ⟨h.1, hF⟩
theorem main_1_2 : Claimed_1_2 := own_comes fun _ _ _ _ _ _ h hF => ⟨h.2.1, hF⟩
end Jvm.Pilot.@@N@@
namespace Jvm.Pilot.@@N@@
open Jvm Jvm.ClassFile Sem Op Lib Jvm.Free Jvm.Stand Jvm.Pilot.@@N@@.Jvm.D
/-! MADE BY PROGRAM (witnessworld.py) out of the Statement's table words and the real class files: 10 classes; the members and pool entries that the words name. The judged class is class 1, her method 1. -/
namespace start1
open Jvm.ClassFile
def u (s : String) : CpInfo := .utf8 (stringToUtf16 s)
/-- a pool by its gaps: so many unusable entries, then the entry; so many at the end -/
def gap : Nat → List CpInfo → List CpInfo
  | 0, r => r
  | n + 1, r => .unusable :: gap n r
def poolList (es : List (Nat × CpInfo)) (last : Nat) : List CpInfo := es.foldr (fun e r => gap e.1 (e.2 :: r)) (gap last [])
def pool (es : List (Nat × CpInfo)) (last : Nat) : Array CpInfo := ⟨poolList es last⟩
def fileOf (pool : Array CpInfo) (this : Nat) (attrs : Array Attribute := #[]) (ms : Array MethodInfo := #[]) (fl : Nat := 33) (sup : Nat := 0) (ifs : Array Nat := #[]) (fds : Array FieldInfo := #[]) : ClassFile where
  minorVersion := 0
  majorVersion := 65
  constantPool := pool
  accessFlags := fl
  thisClass := this
  superClass := sup
  interfaces := ifs
  fields := fds
  methods := ms
  attributes := attrs
def plain (name : String) (sup : Option ClassId) : Class where
  name := name
  kind := .ordinary
  loader := none
  accessFlags := 33
  super := sup
  interfaces := #[]
  cf := none
  fields := #[]
  methods := #[]
  instanceTypes := #[]
  staticTypes := #[]
  resolved := #[]
  callSites := []
  init := .initialized
  statics := none
  mirror := none

def pool0 : Array CpInfo := pool [(5, u "<init>"), (0, u "()V"), (1, .class_ 10), (1, u "java/lang/Object")] 113

def k0m0 : Method := { name := "<init>", desc := "()V", sig := { parameters := [], returnType := none }, accessFlags := 1, code := none }
/-- java/lang/Object -/
def k0 : Class := { plain "java/lang/Object" none with
  accessFlags := 33
  interfaces := #[]
  cf := some (fileOf pool0 8 #[] #[{ accessFlags := 1, nameIndex := 5, descriptorIndex := 6, attributes := #[] }] 33 0 #[] #[])
  fields := #[]
  methods := #[k0m0]
  instanceTypes := #[]
  staticTypes := #[]
  resolved := Array.replicate 124 none
  statics := none }

def pool1 : Array CpInfo := pool [(2, .class_ 4), (1, u "java/lang/Object"), (0, u "<init>"), (0, u "()V"), (0, .integer 2147483647), (0, .integer 1114112), (0, .integer 65536), (0, .integer 1114111), (0, .methodref 12 13), (0, .class_ 14), (0, .nameAndType 15 16), (0, u "java/lang/Math"), (0, u "min"), (0, u "(II)I"), (0, .methodref 12 18), (0, .nameAndType 19 16), (0, u "max"), (0, .integer 55296), (0, .integer 57343), (0, .methodref 23 24), (0, .class_ 25), (0, .nameAndType 26 27), (0, u "com/example/fuxi/fuxi/codec/Utf8"), (0, u "length"), (0, u "(I)I"), (0, .class_ 29), (0, u "com/example/fuxi/fuxi/codec/Utf8LengthPinLaw"), (2, u "law"), (0, u "(II)Z")] 3

def k1m0 : Method := { name := "<init>", desc := "()V", sig := { parameters := [], returnType := none }, accessFlags := 2, code := none }
def k1c1 : Code := { maxStack := 4, maxLocals := 6, code := code, exceptionTable := #[], attributes := #[] }
def k1m1 : Method := { name := "law", desc := "(II)Z", sig := { parameters := [.int, .int], returnType := some .boolean }, accessFlags := 9, code := some k1c1 }
/-- com/example/fuxi/fuxi/codec/Utf8LengthPinLaw -/
def k1 : Class := { plain "com/example/fuxi/fuxi/codec/Utf8LengthPinLaw" (some 0) with
  accessFlags := 49
  interfaces := #[]
  cf := some (fileOf pool1 28 #[] #[{ accessFlags := 2, nameIndex := 5, descriptorIndex := 6, attributes := #[] }, { accessFlags := 9, nameIndex := 32, descriptorIndex := 33, attributes := #[] }] 49 2 #[] #[])
  fields := #[]
  methods := #[k1m0, k1m1]
  instanceTypes := #[]
  staticTypes := #[]
  resolved := Array.replicate 37 none
  statics := none }

def pool2 : Array CpInfo := pool [(1, .class_ 2), (0, u "java/lang/Math"), (1, .class_ 6), (1, u "java/lang/Object"), (0, u "<init>"), (0, u "()V"), (89, .class_ 100), (1, u "java/lang/Math$RandomNumberGeneratorHolder"), (71, u "negativeZeroFloatBits"), (0, u "J"), (2, u "negativeZeroDoubleBits"), (21, u "max"), (2, u "min"), (43, u "$assertionsDisabled"), (0, u "Z"), (88, u "(II)I"), (2, u "twoToTheDoubleScaleDown"), (0, u "D"), (4, u "twoToTheDoubleScaleUp"), (9, u "E"), (3, u "PI"), (2, u "TAU"), (2, u "DEGREES_TO_RADIANS"), (0, u "RADIANS_TO_DEGREES")] 94

def k2m0 : Method := { name := "<init>", desc := "()V", sig := { parameters := [], returnType := none }, accessFlags := 2, code := none }
def k2c1 : Code := { maxStack := 2, maxLocals := 2, code := jdk_29_method_65_code, exceptionTable := #[], attributes := #[] }
def k2m1 : Method := { name := "max", desc := "(II)I", sig := { parameters := [.int, .int], returnType := some .int }, accessFlags := 9, code := some k2c1 }
def k2c2 : Code := { maxStack := 2, maxLocals := 2, code := jdk_29_method_69_code, exceptionTable := #[], attributes := #[] }
def k2m2 : Method := { name := "min", desc := "(II)I", sig := { parameters := [.int, .int], returnType := some .int }, accessFlags := 9, code := some k2c2 }
/-- java/lang/Math -/
def k2 : Class := { plain "java/lang/Math" (some 0) with
  accessFlags := 49
  interfaces := #[]
  cf := some (fileOf pool2 1 #[.nestMembers #[98]] #[{ accessFlags := 2, nameIndex := 7, descriptorIndex := 8, attributes := #[] }, { accessFlags := 9, nameIndex := 198, descriptorIndex := 335, attributes := #[] }, { accessFlags := 9, nameIndex := 201, descriptorIndex := 335, attributes := #[] }] 49 4 #[] #[{ accessFlags := 25, nameIndex := 354, descriptorIndex := 339, attributes := #[] }, { accessFlags := 25, nameIndex := 358, descriptorIndex := 339, attributes := #[] }, { accessFlags := 25, nameIndex := 361, descriptorIndex := 339, attributes := #[] }, { accessFlags := 26, nameIndex := 364, descriptorIndex := 339, attributes := #[] }, { accessFlags := 26, nameIndex := 365, descriptorIndex := 339, attributes := #[] }, { accessFlags := 26, nameIndex := 172, descriptorIndex := 173, attributes := #[] }, { accessFlags := 26, nameIndex := 176, descriptorIndex := 173, attributes := #[] }, { accessFlags := 8, nameIndex := 344, descriptorIndex := 339, attributes := #[] }, { accessFlags := 8, nameIndex := 338, descriptorIndex := 339, attributes := #[] }, { accessFlags := 4120, nameIndex := 245, descriptorIndex := 246, attributes := #[] }])
  fields := #[{ name := "E", type := .double, accessFlags := 25, slot := 0, constantValue := 0 }, { name := "PI", type := .double, accessFlags := 25, slot := 1, constantValue := 0 }, { name := "TAU", type := .double, accessFlags := 25, slot := 2, constantValue := 0 }, { name := "DEGREES_TO_RADIANS", type := .double, accessFlags := 26, slot := 3, constantValue := 0 }, { name := "RADIANS_TO_DEGREES", type := .double, accessFlags := 26, slot := 4, constantValue := 0 }, { name := "negativeZeroFloatBits", type := .long, accessFlags := 26, slot := 5, constantValue := 0 }, { name := "negativeZeroDoubleBits", type := .long, accessFlags := 26, slot := 6, constantValue := 0 }, { name := "twoToTheDoubleScaleUp", type := .double, accessFlags := 8, slot := 7, constantValue := 0 }, { name := "twoToTheDoubleScaleDown", type := .double, accessFlags := 8, slot := 8, constantValue := 0 }, { name := "$assertionsDisabled", type := .boolean, accessFlags := 4120, slot := 9, constantValue := 0 }]
  methods := #[k2m0, k2m1, k2m2]
  instanceTypes := #[]
  staticTypes := #[.double, .double, .double, .double, .double, .long, .long, .double, .double, .boolean]
  resolved := Array.replicate 460 none
  statics := none }

def pool3 : Array CpInfo := pool [(2, .class_ 4), (1, u "java/lang/Object"), (0, u "<init>"), (0, u "()V"), (1, .class_ 10), (1, u "com/example/fuxi/fuxi/codec/Utf8"), (0, u "LEADS"), (0, u "[I"), (9, u "(I)I"), (57, u "length"), (21, .integer 65536), (26, u "NO_SEQUENCE"), (0, u "I"), (1, u "LATER")] 47

def k3m0 : Method := { name := "<init>", desc := "()V", sig := { parameters := [], returnType := none }, accessFlags := 2, code := none }
def k3c1 : Code := { maxStack := 2, maxLocals := 2, code := prog_15_method_15_code, exceptionTable := #[], attributes := #[] }
def k3m1 : Method := { name := "length", desc := "(I)I", sig := { parameters := [.int], returnType := some .int }, accessFlags := 8, code := some k3c1 }
/-- com/example/fuxi/fuxi/codec/Utf8 -/
def k3 : Class := { plain "com/example/fuxi/fuxi/codec/Utf8" (some 0) with
  accessFlags := 49
  interfaces := #[]
  cf := some (fileOf pool3 8 #[] #[{ accessFlags := 2, nameIndex := 5, descriptorIndex := 6, attributes := #[] }, { accessFlags := 8, nameIndex := 80, descriptorIndex := 22, attributes := #[] }] 49 2 #[] #[{ accessFlags := 26, nameIndex := 129, descriptorIndex := 130, attributes := #[] }, { accessFlags := 26, nameIndex := 11, descriptorIndex := 12, attributes := #[] }, { accessFlags := 26, nameIndex := 132, descriptorIndex := 130, attributes := #[] }])
  fields := #[{ name := "NO_SEQUENCE", type := .int, accessFlags := 26, slot := 0, constantValue := 0 }, { name := "LEADS", type := (.array .int), accessFlags := 26, slot := 1, constantValue := 0 }, { name := "LATER", type := .int, accessFlags := 26, slot := 2, constantValue := 0 }]
  methods := #[k3m0, k3m1]
  instanceTypes := #[]
  staticTypes := #[.int, (.array .int), .int]
  resolved := Array.replicate 180 none
  statics := none }

def pool4 : Array CpInfo := pool [(1, u "java/lang/Cloneable"), (0, .class_ 1), (0, u "java/lang/Object"), (0, .class_ 3)] 3

/-- java/lang/Cloneable -/
def k4 : Class := { plain "java/lang/Cloneable" (some 0) with
  accessFlags := 1537
  interfaces := #[]
  cf := some (fileOf pool4 2 #[] #[] 1537 4 #[] #[])
  fields := #[]
  methods := #[]
  instanceTypes := #[]
  staticTypes := #[]
  resolved := Array.replicate 8 none
  statics := none }

def pool5 : Array CpInfo := pool [(1, u "java/io/Serializable"), (0, .class_ 1), (0, u "java/lang/Object"), (0, .class_ 3)] 3

/-- java/io/Serializable -/
def k5 : Class := { plain "java/io/Serializable" (some 0) with
  accessFlags := 1537
  interfaces := #[]
  cf := some (fileOf pool5 2 #[] #[] 1537 4 #[] #[])
  fields := #[]
  methods := #[]
  instanceTypes := #[]
  staticTypes := #[]
  resolved := Array.replicate 8 none
  statics := none }

/-- the primitive byte -/
def k6 : Class := { plain "byte" none with kind := .primitive 'B', accessFlags := 0x411 }
/-- [B -/
def k7 : Class := { plain "[B" (some 0) with kind := .array 6 .byte, interfaces := #[4, 5], accessFlags := 1041 }

/-- the primitive int -/
def k8 : Class := { plain "int" none with kind := .primitive 'I', accessFlags := 0x411 }
/-- [I -/
def k9 : Class := { plain "[I" (some 0) with kind := .array 8 .int, interfaces := #[4, 5], accessFlags := 1041 }

def heap : Heap := #[]
def classes : Array Class := #[k0, k1, k2, k3, k4, k5, k6, k7, k8, k9]
def interned : List (Array UInt16 × Addr) := []
def slotsUsed : Nat := 0
def theMethod : MethodId := ⟨1, 1⟩
def args0 : Array Value := #[.int 5, .int 1]
def aboutOver (below : List Frame) : State where
  vm := { classes := classes, interned := interned.toArray }
  heap := heap
  slotsUsed := slotsUsed
  threads := #[{ frames := .invoking theMethod args0 :: below }]
def below0 : List Frame := [.native { method := ⟨0, 0⟩, args := #[] }]
def about1 : State := aboutOver below0
def p0 : Program := .bare "" "" ""
def e0 : Env := launch0.env 0 0 0
theorem w_frames : about1.frames = Frame.invoking theMethod args0 :: below0 := rfl
set_option maxRecDepth 65536 in
theorem w_args : argsFit about1.vm theMethod args0 = true := by decide +kernel
set_option maxRecDepth 65536 in
theorem w_heap : heapFits about1 = true := by decide +kernel
set_option maxRecDepth 65536 in
theorem w_runnable : about1.curStatus? = some .runnable := by decide +kernel
set_option maxRecDepth 65536 in
theorem w_alone : about1.alone = true := by decide +kernel
set_option maxRecDepth 65536 in
theorem w_named : about1.methodNamed? x = some theMethod := by decide +kernel
set_option maxRecDepth 65536 in
theorem w_hears : about1.hears theMethod below0 = true := by decide +kernel
set_option maxRecDepth 65536 in
theorem w_ripe : about1.ripe theMethod args0 below0 = true := by decide +kernel
theorem w_running : about1.status = .running := rfl
set_option maxRecDepth 65536 in
theorem w_room : about1.hasRoom e0.platform room_1 = true :=
  launch0.hasRoom_least _ room_1 (by decide +kernel) (by decide +kernel) (by decide +kernel) (by decide +kernel) (by decide +kernel) (by decide +kernel)
theorem allAtoms_all (ts : List Jvm.Cond) (a : Array Jvm.Value) (st : Jvm.State) : (allAtoms ts).before a st = ts.all (fun c => c.before a st) := by
  induction ts with
  | nil => rfl
  | cons c t ih =>
    show (Jvm.Cond.and c (allAtoms t)).before a st = _
    rw [Jvm.Cond.before_and, ih, List.all_cons]
def words1 : List Jvm.Cond := Jvm.Cond.code x code maxLocals ret :: tables_1
/-- a 'code' word, met by the world's own term for the bytes: nothing is compared byte by byte -/
theorem code_word {y : MethodName} {bytes : ByteArray} {mx : Nat} {rt : Option FieldType} {a : Array Value} {s : State} {m : MethodId} {meth : Method} {c : Code} (h1 : s.methodNamed? y = some m) (h2 : s.vm.method? m = some meth) (h3 : meth.code = some c) (h4 : c.code = bytes)
    (h5 : (c.maxLocals == mx && c.exceptionTable.isEmpty && decide (c.maxStack ≤ mostOperands) && decide (meth.sig.returnType = rt) && !meth.locks && decide (parseMethodDescriptor y.desc = some meth.sig)) = true) : (Jvm.Cond.code y bytes mx rt).before a s = true := by
  simp only [Bool.and_eq_true, beq_iff_eq, Bool.not_eq_true', decide_eq_true_eq] at h5
  obtain ⟨⟨⟨⟨⟨g1, g2⟩, g3⟩, g4⟩, g5⟩, g6⟩ := h5
  simp [Cond.before, Cond.holds, Cond.value, h1, h2, h3, h4, g1, g2, g3, g4, g5, g6]
def isCode : Jvm.Cond → Bool
  | .code _ _ _ _ => true
  | _ => false
theorem all_split {L : List Jvm.Cond} {P : Jvm.Cond → Bool} (h1 : L.all (fun c => isCode c || P c) = true) (h2 : ∀ c ∈ L.filter isCode, P c = true) : L.all P = true := by
  refine List.all_eq_true.mpr fun c hc => ?_
  have h := List.all_eq_true.mp h1 c hc
  rcases Bool.eq_false_or_eq_true (isCode c) with hi | hi
  · exact h2 c (List.mem_filter.mpr ⟨hc, hi⟩)
  · simpa [hi] using h
set_option maxRecDepth 65536 in
theorem w_c0 : (Jvm.Cond.code x code maxLocals ret).before args0 about1 = true := code_word (m := ⟨1, 1⟩) (meth := k1m1) (c := k1c1) (by decide +kernel) rfl rfl rfl (by decide +kernel)
set_option maxRecDepth 65536 in
theorem w_c1 : (Jvm.Cond.code ({ cls := "java/lang/Math", name := "min", desc := "(II)I" } : Jvm.MethodName) jdk_29_method_69_code (2 : Nat) (Option.some Jvm.ClassFile.FieldType.int)).before args0 about1 = true := code_word (m := ⟨2, 2⟩) (meth := k2m2) (c := k2c2) (by decide +kernel) rfl rfl rfl (by decide +kernel)
set_option maxRecDepth 65536 in
theorem w_c2 : (Jvm.Cond.code ({ cls := "java/lang/Math", name := "max", desc := "(II)I" } : Jvm.MethodName) jdk_29_method_65_code (2 : Nat) (Option.some Jvm.ClassFile.FieldType.int)).before args0 about1 = true := code_word (m := ⟨2, 1⟩) (meth := k2m1) (c := k2c1) (by decide +kernel) rfl rfl rfl (by decide +kernel)
set_option maxRecDepth 65536 in
theorem w_c3 : (Jvm.Cond.code ({ cls := "com/example/fuxi/fuxi/codec/Utf8", name := "length", desc := "(I)I" } : Jvm.MethodName) prog_15_method_15_code (2 : Nat) (Option.some Jvm.ClassFile.FieldType.int)).before args0 about1 = true := code_word (m := ⟨3, 1⟩) (meth := k3m1) (c := k3c1) (by decide +kernel) rfl rfl rfl (by decide +kernel)
def codes1 : List Jvm.Cond := [Jvm.Cond.code x code maxLocals ret, Jvm.Cond.code ({ cls := "java/lang/Math", name := "min", desc := "(II)I" } : Jvm.MethodName) jdk_29_method_69_code (2 : Nat) (Option.some Jvm.ClassFile.FieldType.int), Jvm.Cond.code ({ cls := "java/lang/Math", name := "max", desc := "(II)I" } : Jvm.MethodName) jdk_29_method_65_code (2 : Nat) (Option.some Jvm.ClassFile.FieldType.int), Jvm.Cond.code ({ cls := "com/example/fuxi/fuxi/codec/Utf8", name := "length", desc := "(I)I" } : Jvm.MethodName) prog_15_method_15_code (2 : Nat) (Option.some Jvm.ClassFile.FieldType.int)]
set_option maxRecDepth 65536 in
theorem codes_eq : words1.filter isCode = codes1 := rfl
theorem w_codes : ∀ c ∈ words1.filter isCode, c.before args0 about1 = true := by
  rw [codes_eq]
  intro c hc
  simp only [codes1, List.mem_cons, List.not_mem_nil, or_false] at hc
  rcases hc with rfl | rfl | rfl | rfl
  · exact w_c0
  · exact w_c1
  · exact w_c2
  · exact w_c3
set_option maxRecDepth 65536 in
theorem w_t1 : words1.all (fun c => isCode c || c.before args0 about1) = true := by decide +kernel
theorem w_tables : (allAtoms (Jvm.Cond.code x code maxLocals ret :: tables_1)).before args0 about1 = true := by
  rw [allAtoms_all]
  show words1.all (fun c => c.before args0 about1) = true
  refine all_split ?_ w_codes
  rw [w_t1]
set_option maxRecDepth 65536 in
theorem w_case : (Jvm.Cond.and given_1 narrow_1).before args0 about1 = true := by decide +kernel
theorem w_applies : (headSpec (Jvm.Cond.code x code maxLocals ret :: tables_1) room_1).applies x e0.platform about1 = true :=
  (Spec.applies_iff w_frames).mpr ⟨w_running, w_runnable, w_alone, w_named, w_hears, w_ripe, w_room, w_tables⟩
theorem atStart : AtStart classFile x code maxLocals ret World_1 tables_1 room_1 Calls_1 rest_1 Pre_1 launch0 p0 e0 about1 theMethod args0 below0 :=
  ⟨lists_1, trivial, launch0.admits_env _ _ _, launch0.least_env, fairChoices_fair.cas, fairChoices_fair.clock, w_frames, w_args, w_heap, w_applies, trivial, trivial, w_case⟩
end start1
theorem witness_1 : WitnessClaimed_1 := ⟨start1.p0, start1.e0, start1.about1, start1.theMethod, start1.args0, start1.below0, start1.atStart⟩
end Jvm.Pilot.@@N@@
