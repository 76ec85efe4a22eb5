import JvmDerived
import JvmDerived.Pilot.@@N@@Statement
import JvmDerived.Pilot.@@N@@Code
set_option linter.unusedVariables false
set_option linter.unusedSimpArgs false
@@BLOCK:NumsL.lean.txt@@
namespace Jvm.RoadKit
open Sem ClassFile Op Lib Jvm.Stand Jvm.Free Jvm.LawKit
section New
variable {p : Program} {l : Launch} {e : Env} {R : Room} {s : State} {m : MethodId} {args : Array Value} {below : List Frame} {meth : Method} {c : Code} {T : State} {locs : List Loc} {cells slots : Nat}
theorem retI (X : Stand p l e R s m args below meth c T locs cells slots) (hx : p.tables.exec = Jvm.exec) {pc : Nat} {Ls : Array Slot} {z : Int32} {rest : List Value} (hret : meth.sig.returnType = some .int) (hd : decode c.code pc = .ok (.ireturn, 1)) {fs : List Frame}
    (hl : ∀ (f : JFrame) (acts : List Action), f.method = m → f.locked = none → f.entered = [] → (doReturn e (T.setTop f) acts (some (.int z))).1 = T.setFrames fs) : Steps p.tables e below (T.setTop (mkF m pc Ls (.int z :: rest))) (T.setFrames fs) := by
  have hm' : T.vm.method? m = some meth := X.method'
  have hn : narrow .int (.int z) = .int z := rfl
  show Steps p.tables e below (T.setTop { method := m, pc := pc, locals := Ls, stack := _ :: rest, locked := none }) _
  jvm_step X.here [X.here.top, hx, hd, hm', hret, hn]
  first | (intro acts; rw [hl _ acts rfl rfl rfl]) | rw [hl _ _ rfl rfl rfl]
  exact Steps.refl _
end New
end Jvm.RoadKit
namespace Jvm.Pilot.@@N@@
open Jvm Jvm.ClassFile Sem Op Lib Jvm.Free Jvm.Stand Jvm.LawKit Jvm.RoadKit Bundle Jvm.Pilot.@@N@@.Jvm.D
/-! own: Java's shifts and remainders, written short -/
def own_shl (x y : Int32) : Int32 := x <<< (y &&& 31)
def own_shr (x y : Int32) : Int32 := x >>> (y &&& 31)
def own_ushr (x y : Int32) : Int32 := (x.toUInt32 >>> (y &&& 31).toUInt32).toInt32
def own_shlL (x : Int64) (y : Int32) : Int64 := x <<< (y &&& 0x3f).toInt64
def own_shrL (x : Int64) (y : Int32) : Int64 := x >>> (y &&& 0x3f).toInt64
def own_ushrL (x : Int64) (y : Int32) : Int64 := (x.toUInt64 >>> (y &&& 0x3f).toInt64.toUInt64).toInt64
def own_rem (x y : Int32) : Int32 := x - (x / y) * y
def own_remL (x y : Int64) : Int64 := x - (x / y) * y
theorem own_rem_nn {x y : Int32} (hx : 0 ≤ x.toInt) (hy : 0 < y.toInt) : (own_rem x y).toInt = x.toInt % y.toInt := by
  have hd : (x / y).toInt = x.toInt / y.toInt := by
    rw [Jvm.Kit.i32_div (by omega), Int.tdiv_eq_ediv_of_nonneg hx]
  have b1 := Int.emod_add_mul_ediv x.toInt y.toInt
  have b2 := Int.emod_nonneg x.toInt (by omega : y.toInt ≠ 0)
  have b3 := Int.emod_lt_of_pos x.toInt hy
  have b4 : 0 ≤ x.toInt / y.toInt := Int.ediv_nonneg hx (by omega)
  have hX := Int32.toInt_lt x
  have b5 : 0 ≤ y.toInt * (x.toInt / y.toInt) := Int.mul_nonneg (by omega) b4
  have hm : ((x / y) * y).toInt = y.toInt * (x.toInt / y.toInt) := by
    rw [Jvm.Kit.i32_mul (by rw [hd, Int.mul_comm]; omega) (by rw [hd, Int.mul_comm]; omega), hd, Int.mul_comm]
  unfold own_rem
  rw [Jvm.Kit.i32_sub (by rw [hm]; omega) (by rw [hm]; omega), hm]; omega
/-! own: a run from a frame to what 'Post' says -/
section OwnRun
variable {p : Program} {l : Launch} {e : Env} {R : Room} {s : State} {m : MethodId} {args : Array Value} {below : List Frame} {meth : Method} {c : Code} {T T' : State} {locs : List Loc} {cells slots : Nat} {g g' : JFrame} {Post : State → Prop} {n0 : Nat} {P : Heap → Prop} {C S : Nat} {Z : State} {h : Heap} {a : Addr} {k : ClassId} {n j : Int32} {vs : List Value} {d v : Value} {E : State → Outcome → State → List Loc → Nat → Nat → Prop}
def own_Run (p : Program) (e : Env) (below : List Frame) (T : State) (g : JFrame) (Post : State → Prop) : Prop := ∃ t, Steps p.tables e below (T.setTop g) t ∧ Post t
theorem own_step (st : ∀ t, Steps p.tables e below (T'.setTop g') t → Steps p.tables e below (T.setTop g) t) (h : own_Run p e below T' g' Post) : own_Run p e below T g Post := h.imp fun t k => ⟨st t k.1, k.2⟩
theorem own_tr (st : Steps p.tables e below (T.setTop g) (T'.setTop g')) (h : own_Run p e below T' g' Post) : own_Run p e below T g Post := h.imp fun t k => ⟨st.trans k.1, k.2⟩
theorem own_here (h : Post (T.setTop g)) : own_Run p e below T g Post := ⟨_, Steps.refl _, h⟩
theorem own_entry {Q : State → Prop} (q : g = g') (h : own_Run p e below T g' Q) : own_Run p e below T g Q := q ▸ h
def own_Q (n0 : Nat) (P : Heap → Prop) (w : Option Value) : Option Value → Heap → List Loc → Prop := fun v h L => v = w ∧ Fr n0 L ∧ P h
def own_Ret (E : State → Outcome → State → List Loc → Nat → Nat → Prop) (U : State) (below : List Frame) (C S : Nat) (Q : Option Value → Heap → List Loc → Prop) : State → Prop := fun t => t.status = .running ∧ ∃ o, Ended t below o ∧ ∃ v L, o = .returned v ∧ Q v t.heap L ∧ E U o t L C S
theorem own_fin {Q : Option Value → Heap → List Loc → Prop} (h : own_Run p e below T g (own_Ret E s below C S Q)) : ∃ s₂ o, Steps p.tables e below (T.setTop g) s₂ ∧ s₂.status = .running ∧ Ended s₂ below o ∧ ∃ v L, o = .returned v ∧ Q v s₂.heap L ∧ E s o s₂ L C S := by
  obtain ⟨t, st, hr, o, he, r⟩ := h; exact ⟨t, o, st, hr, he, r⟩
theorem own_vi {x y : Int32} (q : x = y) (h : own_Run p e below T g (own_Ret E s below C S (own_Q n0 P (some (.int y))))) : own_Run p e below T g (own_Ret E s below C S (own_Q n0 P (some (.int x)))) := q ▸ h
theorem own_vj {x y : Int64} (q : x = y) (h : own_Run p e below T g (own_Ret E s below C S (own_Q n0 P (some (.long y))))) : own_Run p e below T g (own_Ret E s below C S (own_Q n0 P (some (.long x)))) := q ▸ h
theorem own_leave {w : Option Value} (X : Stand p l e R s m args below meth c T locs cells slots) (hv : meth.sig.returnType = none → w = none) (hlk : meth.locks = false) (hC : cells ≤ C) (hS : slots ≤ S) (N : Fr n0 locs) (hP : P T.heap)
    (st : ∀ fs, (∀ (f : JFrame) (acts : List Action), f.method = m → f.locked = none → f.entered = [] → (doReturn e (T.setTop f) acts w).1 = T.setFrames fs) → Steps p.tables e below (T.setTop g) (T.setFrames fs)) : own_Run p e below T g (own_Ret FrameEnd s below C S (own_Q n0 P w)) := by
  obtain ⟨fs, hr, hrun, hended, hW, hsame⟩ := X.leave (v := w) hv hlk
  exact ⟨_, st fs hr, hrun, _, hended, _, _, rfl, ⟨rfl, N, hP⟩, ⟨_, rfl⟩, hW, hsame.mono hC hS⟩
theorem own_retZ (X : Stand p l e R s m args below meth c T locs cells slots) (hx : p.tables.exec = Jvm.exec) (hlk : meth.locks = false) {pc : Nat} {Ls : Array Slot} {z : Int32} {rest : List Value} (hret : meth.sig.returnType = some .boolean) (hd : decode c.code pc = .ok (.ireturn, 1)) (hC : cells ≤ C) (hS : slots ≤ S) (N : Fr n0 locs) (hP : P T.heap) :
    own_Run p e below T (mkF m pc Ls (.int z :: rest)) (own_Ret FrameEnd s below C S (own_Q n0 P (some (.int (nar .boolean z))))) :=
  own_leave X (fun q => by rw [hret] at q; cases q) hlk hC hS N hP fun fs hr => retN X hx (t := .boolean) hret (by simp) hd hr
theorem own_retI (X : Stand p l e R s m args below meth c T locs cells slots) (hx : p.tables.exec = Jvm.exec) (hlk : meth.locks = false) {pc : Nat} {Ls : Array Slot} {z : Int32} {rest : List Value} (hret : meth.sig.returnType = some .int) (hd : decode c.code pc = .ok (.ireturn, 1)) (hC : cells ≤ C) (hS : slots ≤ S) (N : Fr n0 locs) (hP : P T.heap) :
    own_Run p e below T (mkF m pc Ls (.int z :: rest)) (own_Ret FrameEnd s below C S (own_Q n0 P (some (.int z)))) :=
  own_leave X (fun q => by rw [hret] at q; cases q) hlk hC hS N hP fun fs hr => retI X hx hret hd hr
theorem own_retJ (X : Stand p l e R s m args below meth c T locs cells slots) (hx : p.tables.exec = Jvm.exec) (hlk : meth.locks = false) {pc : Nat} {Ls : Array Slot} {z : Int64} (hret : meth.sig.returnType = some .long) (hd : decode c.code pc = .ok (.lreturn, 1)) (hC : cells ≤ C) (hS : slots ≤ S) (N : Fr n0 locs) (hP : P T.heap) :
    own_Run p e below T (mkF m pc Ls [.long z]) (own_Ret FrameEnd s below C S (own_Q n0 P (some (.long z)))) :=
  own_leave X (fun q => by rw [hret] at q; cases q) hlk hC hS N hP fun fs hr => X.lreturnOut hx hret hd hr
theorem own_retD (X : Stand p l e R s m args below meth c T locs cells slots) (hx : p.tables.exec = Jvm.exec) (hlk : meth.locks = false) {pc : Nat} {Ls : Array Slot} {z : UInt64} {rest : List Value} (hret : meth.sig.returnType = some .double) (hd : decode c.code pc = .ok (.dreturn, 1)) (hC : cells ≤ C) (hS : slots ≤ S) (N : Fr n0 locs) (hP : P T.heap) :
    own_Run p e below T (mkF m pc Ls (.double z :: rest)) (own_Ret FrameEnd s below C S (own_Q n0 P (some (.double z)))) :=
  own_leave X (fun q => by rw [hret] at q; cases q) hlk hC hS N hP fun fs hr => retOut X hx (i := .dreturn) hret rfl (Or.inr (Or.inr (Or.inl ⟨rfl, rfl, z, rfl⟩))) hd hr
theorem own_retV (X : Stand p l e R s m args below meth c T locs cells slots) (hx : p.tables.exec = Jvm.exec) (hlk : meth.locks = false) {pc : Nat} {Ls : Array Slot} (hret : meth.sig.returnType = none) (hd : decode c.code pc = .ok (.return_, 1)) (hC : cells ≤ C) (hS : slots ≤ S) (N : Fr n0 locs) (hP : P T.heap) :
    own_Run p e below T (mkF m pc Ls []) (own_Ret FrameEnd s below C S (own_Q n0 P none)) :=
  own_leave X (fun _ => rfl) hlk hC hS N hP fun fs hr => X.returnOut hx hret hd hr
theorem own_retA (X : Stand p l e R s m args below meth c T locs cells slots) (hx : p.tables.exec = Jvm.exec) (hlk : meth.locks = false) {pc : Nat} {Ls : Array Slot} {w : Value} {t : FieldType} (hret : meth.sig.returnType = some t) (ht : t.isReference = true) (hw : w.isRef = true) (hd : decode c.code pc = .ok (.areturn, 1)) (hC : cells ≤ C) (hS : slots ≤ S) (N : Fr n0 locs) (hP : P T.heap) :
    own_Run p e below T (mkF m pc Ls [w]) (own_Ret FrameEnd s below C S (own_Q n0 P (some w))) :=
  own_leave X (fun q => by rw [hret] at q; cases q) hlk hC hS N hP fun fs hr => X.areturnOut hx hw hret ht hd hr
/-! own: the same where the walk may have loaded a String constant (the tables may hold a new pair) -/
theorem own_mixW {U t : State} {o : Outcome} {L : List Loc} {k n k' n' : Nat} (h : ReturnedEndW U o t L k n) (hk : k ≤ k') (hn : n ≤ n') : ReturnedEndW U o t L k' n' := ⟨h.1, h.2.1, h.2.2.1, h.2.2.2.mono hk hn⟩
theorem own_leaveW {vm₁ : Vm} {n : Nat} {w : Option Value} (X : Stand p l e R (s.setVm vm₁) m args below meth c T locs cells slots) (hS : s.Since vm₁ n) (hn : n ≤ T.heap.size) (hv : meth.sig.returnType = none → w = none) (hlk : meth.locks = false) (hC : cells ≤ C) (hSl : slots ≤ S) (N : Fr n0 locs) (hP : P T.heap)
    (st : ∀ fs, (∀ (f : JFrame) (acts : List Action), f.method = m → f.locked = none → f.entered = [] → (doReturn e (T.setTop f) acts w).1 = T.setFrames fs) → Steps p.tables e below (T.setTop g) (T.setFrames fs)) : own_Run p e below T g (own_Ret ReturnedEndW s below C S (own_Q n0 P w)) := by
  obtain ⟨fs, hr, hrun, hended, hW⟩ := X.leaveW hS hn (v := w) hv hlk
  exact ⟨_, st fs hr, hrun, _, hended, _, _, rfl, ⟨rfl, N, hP⟩, own_mixW hW hC hSl⟩
theorem own_retZW {vm₁ : Vm} {n : Nat} (X : Stand p l e R (s.setVm vm₁) m args below meth c T locs cells slots) (hx : p.tables.exec = Jvm.exec) (hlk : meth.locks = false) {pc : Nat} {Ls : Array Slot} {z : Int32} {rest : List Value} (hret : meth.sig.returnType = some .boolean) (hd : decode c.code pc = .ok (.ireturn, 1)) (hC : cells ≤ C) (hSl : slots ≤ S) (N : Fr n0 locs) (hP : P T.heap) (hS : s.Since vm₁ n) (hn : n ≤ T.heap.size) :
    own_Run p e below T (mkF m pc Ls (.int z :: rest)) (own_Ret ReturnedEndW s below C S (own_Q n0 P (some (.int (nar .boolean z))))) :=
  own_leaveW X hS hn (fun q => by rw [hret] at q; cases q) hlk hC hSl N hP fun fs hr => retN X hx (t := .boolean) hret (by simp) hd hr
theorem own_retVW {vm₁ : Vm} {n : Nat} (X : Stand p l e R (s.setVm vm₁) m args below meth c T locs cells slots) (hx : p.tables.exec = Jvm.exec) (hlk : meth.locks = false) {pc : Nat} {Ls : Array Slot} (hret : meth.sig.returnType = none) (hd : decode c.code pc = .ok (.return_, 1)) (hC : cells ≤ C) (hSl : slots ≤ S) (N : Fr n0 locs) (hP : P T.heap) (hS : s.Since vm₁ n) (hn : n ≤ T.heap.size) :
    own_Run p e below T (mkF m pc Ls []) (own_Ret ReturnedEndW s below C S (own_Q n0 P none)) :=
  own_leaveW X hS hn (fun _ => rfl) hlk hC hSl N hP fun fs hr => X.returnOut hx hret hd hr
/-- no static's home -/
def own_Pl (h : Heap) (a : Addr) : Prop := ∃ c : Cell, h[a]? = some c ∧ c.vm.isStatics = false
theorem own_plV {ty : FieldType} (F : Arv Z h a k ty n vs d) : own_Pl h a := by obtain ⟨c, A, -⟩ := F; exact ⟨c, A.1, A.plain⟩
theorem own_plE {Cn : String} (F : Exa Z h a Cn) : own_Pl h a := by obtain ⟨c, kk, h1, -, -, h4, -⟩ := F; exact ⟨c, h1, h4⟩
theorem own_keepS {h' : Heap} {ws : List Addr} {Cn fn dn : String} (F : Sta Z h Cn fn dn v) (K : Keep h h' ws) (A : ∀ a ∈ ws, own_Pl h a) : Sta Z h' Cn fn dn v := by
  obtain ⟨cf, i, kk, f, st, cell, h1, h2, h3, h4, h5, h6, h7⟩ := F
  refine ⟨cf, i, kk, f, st, cell, h1, h2, h3, h4, K.2.1 st cell h5 (fun hm => ?_), h6, h7⟩
  obtain ⟨c, q1, q2⟩ := A st hm
  cases h5.symm.trans q1; rw [q2] at h6; cases h6
/-! own: an array's component, by its Arv -/
theorem own_ldI (X : Stand p l e R s m args below meth c T locs cells slots) (hx : p.tables.exec = Jvm.exec) (hZ : Z.Warmed39 s.vm) (eT : T.heap = h) (F : Arv Z h a k .int n vs d) (q : ¬ j < 0 ∧ j < n) (u : vs.getD j.toNatClampNeg d = v) (hg : g.method = m) {rest : List Value} (hs : g.stack = .int j :: .ref a :: rest) (hd : decode c.code g.pc = .ok (.iaload, 1)) :
    ∀ t, Steps p.tables e below (T.setTop { g with pc := g.pc + 1, stack := v :: rest }) t → Steps p.tables e below (T.setTop g) t := by
  obtain ⟨cl, Ar, -, Sz, -, Hs, -⟩ := F
  exact fun t kt => X.iaload hx (by rw [eT]; exact Ar.1) (State.isArrayOf_alike hZ.alike Ar.2.1) Ar.2.2 (inb_of Sz q) (Hs.at (inb_of Sz q) u) hg hs hd t kt
theorem own_ldJ (X : Stand p l e R s m args below meth c T locs cells slots) (hx : p.tables.exec = Jvm.exec) (hZ : Z.Warmed39 s.vm) (eT : T.heap = h) (F : Arv Z h a k .long n vs d) (q : ¬ j < 0 ∧ j < n) (u : vs.getD j.toNatClampNeg d = v) (hg : g.method = m) {rest : List Value} (hs : g.stack = .int j :: .ref a :: rest) (hd : decode c.code g.pc = .ok (.laload, 1)) :
    ∀ t, Steps p.tables e below (T.setTop { g with pc := g.pc + 1, stack := v :: rest }) t → Steps p.tables e below (T.setTop g) t := by
  obtain ⟨cl, Ar, -, Sz, -, Hs, -⟩ := F
  exact fun t kt => X.laload hx (by rw [eT]; exact Ar.1) (State.isArrayOf_alike hZ.alike Ar.2.1) Ar.2.2 (inb_of Sz q) (Hs.at (inb_of Sz q) u) hg hs hd t kt
theorem own_ldB (X : Stand p l e R s m args below meth c T locs cells slots) (hx : p.tables.exec = Jvm.exec) (hZ : Z.Warmed39 s.vm) (eT : T.heap = h) (F : Arv Z h a k .byte n vs d) (q : ¬ j < 0 ∧ j < n) (u : vs.getD j.toNatClampNeg d = v) (hg : g.method = m) {rest : List Value} (hs : g.stack = .int j :: .ref a :: rest) (hd : decode c.code g.pc = .ok (.baload, 1)) :
    ∀ t, Steps p.tables e below (T.setTop { g with pc := g.pc + 1, stack := v :: rest }) t → Steps p.tables e below (T.setTop g) t := by
  obtain ⟨cl, Ar, -, Sz, -, Hs, -⟩ := F
  exact fun t kt => X.baloadBytes hx (by rw [eT]; exact Ar.1) (State.isArrayOf_alike hZ.alike Ar.2.1) Ar.2.2 (inb_of Sz q) (Hs.at (inb_of Sz q) u) hg hs hd t kt
theorem own_len (X : Stand p l e R s m args below meth c T locs cells slots) (hx : p.tables.exec = Jvm.exec) (hZ : Z.Warmed39 s.vm) (eT : T.heap = h) {ty : FieldType} (F : Arv Z h a k ty n vs d) (hg : g.method = m) {rest : List Value} (hs : g.stack = .ref a :: rest) (hd : decode c.code g.pc = .ok (.arraylength, 1)) :
    ∀ t, Steps p.tables e below (T.setTop { g with pc := g.pc + 1, stack := .int n :: rest }) t → Steps p.tables e below (T.setTop g) t := by
  obtain ⟨cl, Ar, -, Sz, Ng, -, -⟩ := F
  intro t kt
  refine X.arraylength hx (by rw [eT]; exact Ar.1) (State.isArrayOf_alike hZ.alike Ar.2.1) hg hs hd t ?_
  rw [len_of Sz Ng]; exact kt
theorem own_stI (X : Stand p l e R s m args below meth c T locs cells slots) (hx : p.tables.exec = Jvm.exec) (hZ : Z.Warmed39 s.vm) (eT : T.heap = h) (F : Arv Z h a k .int n vs d) (N : Fr n0 locs) (ge : n0 ≤ a) {x : Int32} (q : ¬ j < 0 ∧ j < n) (i : Nat) (hi : j.toNatClampNeg = i) (hl : i < vs.length) (hg : g.method = m) {rest : List Value} (hs : g.stack = .int x :: .int j :: .ref a :: rest) (hd : decode c.code g.pc = .ok (.iastore, 1)) :
    ∃ T' h' L, Stand p l e R s m args below meth c T' L cells slots ∧ T'.heap = h' ∧ Fr n0 L ∧ Wr h h' a j.toNatClampNeg (.int x) ∧ Arv Z h' a k .int n (vs.set i (.int x)) d ∧ ∀ t, Steps p.tables e below (T'.setTop { g with pc := g.pc + 1, stack := rest }) t → Steps p.tables e below (T.setTop g) t := by
  obtain ⟨cl, Ar, q1, Sz, Ng, Hs, Gs⟩ := F
  obtain ⟨T', h', X', e', W, st⟩ := stI X hx hZ eT Ar (j := j) (x := x) (inb_of Sz q) hg hs hd
  exact ⟨T', h', _, X', e', Fr.snoc X' N ge, W, Arv.set Ar q1 Sz Ng Hs Gs rfl W i hi hl, st⟩
theorem own_stJ (X : Stand p l e R s m args below meth c T locs cells slots) (hx : p.tables.exec = Jvm.exec) (hZ : Z.Warmed39 s.vm) (eT : T.heap = h) (F : Arv Z h a k .long n vs d) (N : Fr n0 locs) (ge : n0 ≤ a) {x : Int64} (q : ¬ j < 0 ∧ j < n) (i : Nat) (hi : j.toNatClampNeg = i) (hl : i < vs.length) (hg : g.method = m) {rest : List Value} (hs : g.stack = .long x :: .int j :: .ref a :: rest) (hd : decode c.code g.pc = .ok (.lastore, 1)) :
    ∃ T' h' L, Stand p l e R s m args below meth c T' L cells slots ∧ T'.heap = h' ∧ Fr n0 L ∧ Wr h h' a j.toNatClampNeg (.long x) ∧ Arv Z h' a k .long n (vs.set i (.long x)) d ∧ ∀ t, Steps p.tables e below (T'.setTop { g with pc := g.pc + 1, stack := rest }) t → Steps p.tables e below (T.setTop g) t := by
  obtain ⟨cl, Ar, q1, Sz, Ng, Hs, Gs⟩ := F
  obtain ⟨T', h', X', e', W, st⟩ := stJ X hx hZ eT Ar (j := j) (x := x) (inb_of Sz q) hg hs hd
  exact ⟨T', h', _, X', e', Fr.snoc X' N ge, W, Arv.set Ar q1 Sz Ng Hs Gs rfl W i hi hl, st⟩
theorem own_stB (X : Stand p l e R s m args below meth c T locs cells slots) (hx : p.tables.exec = Jvm.exec) (hZ : Z.Warmed39 s.vm) (eT : T.heap = h) (F : Arv Z h a k .byte n vs d) (N : Fr n0 locs) (ge : n0 ≤ a) {x : Int32} (q : ¬ j < 0 ∧ j < n) (i : Nat) (hi : j.toNatClampNeg = i) (hl : i < vs.length) (hg : g.method = m) {rest : List Value} (hs : g.stack = .int x :: .int j :: .ref a :: rest) (hd : decode c.code g.pc = .ok (.bastore, 1)) :
    ∃ T' h' L, Stand p l e R s m args below meth c T' L cells slots ∧ T'.heap = h' ∧ Fr n0 L ∧ Wr h h' a j.toNatClampNeg (.int (nar .byte x)) ∧ Arv Z h' a k .byte n (vs.set i (.int (nar .byte x))) d ∧ ∀ t, Steps p.tables e below (T'.setTop { g with pc := g.pc + 1, stack := rest }) t → Steps p.tables e below (T.setTop g) t := by
  obtain ⟨cl, Ar, q1, Sz, Ng, Hs, Gs⟩ := F
  obtain ⟨T', h', X', e', W, st⟩ := stB X hx hZ eT Ar (j := j) (x := x) (inb_of Sz q) hg hs hd
  exact ⟨T', h', _, X', e', Fr.snoc X' N ge, W, Arv.set Ar q1 Sz Ng Hs Gs (fits_nar_byte _) W i hi hl, st⟩
theorem own_ldR {Cn : String} (X : Stand p l e R s m args below meth c T locs cells slots) (hx : p.tables.exec = Jvm.exec) (hZ : Z.Warmed39 s.vm) (eT : T.heap = h) (F : Arv Z h a k (.object Cn) n vs d) (q : ¬ j < 0 ∧ j < n) (u : vs.getD j.toNatClampNeg d = v) (hg : g.method = m) {rest : List Value} (hs : g.stack = .int j :: .ref a :: rest) (hd : decode c.code g.pc = .ok (.aaload, 1)) :
    ∀ t, Steps p.tables e below (T.setTop { g with pc := g.pc + 1, stack := v :: rest }) t → Steps p.tables e below (T.setTop g) t := by
  obtain ⟨cl, Ar, -, Sz, -, Hs, -⟩ := F
  exact fun t kt => X.aaload hx (by rw [eT]; exact Ar.1) (State.isArrayOf_alike hZ.alike Ar.2.1) rfl Ar.2.2 (inb_of Sz q) (Hs.at (inb_of Sz q) u) hg hs hd t kt
theorem own_stR {Cn : String} {y : Addr} (X : Stand p l e R s m args below meth c T locs cells slots) (hx : p.tables.exec = Jvm.exec) (hZ : Z.Warmed39 s.vm) (eT : T.heap = h) (F : Arv Z h a k (.object Cn) n vs d) (O : Ovr Z k Cn) (I : Ins Z h y Cn true) (N : Fr n0 locs) (ge : n0 ≤ a) (q : ¬ j < 0 ∧ j < n) (i : Nat) (hi : j.toNatClampNeg = i) (hl : i < vs.length) (hg : g.method = m) {rest : List Value} (hs : g.stack = .ref y :: .int j :: .ref a :: rest) (hd : decode c.code g.pc = .ok (.aastore, 1)) :
    ∃ T' h' L, Stand p l e R s m args below meth c T' L cells slots ∧ T'.heap = h' ∧ Fr n0 L ∧ Wr h h' a j.toNatClampNeg (.ref y) ∧ Arv Z h' a k (.object Cn) n (vs.set i (.ref y)) d ∧ ∀ t, Steps p.tables e below (T'.setTop { g with pc := g.pc + 1, stack := rest }) t → Steps p.tables e below (T.setTop g) t := by
  obtain ⟨cl, Ar, q1, Sz, Ng, Hs, Gs⟩ := F
  obtain ⟨T', h', X', e', W, st⟩ := stR X hx hZ eT Ar (j := j) (v := .ref y) (inb_of Sz q) rfl (Sto.ofV Ar q1 O I) hg hs hd
  exact ⟨T', h', _, X', e', Fr.snoc X' N ge, W, Arv.set Ar q1 Sz Ng Hs Gs rfl W i hi hl, st⟩
end OwnRun
def own_buf0 : List Value := List.replicate 20 (.int (0 : Int32))
theorem own_k20 : (20 : Int32).toInt = 20 := by decide
theorem own_k0 : (0 : Int32).toInt = 0 := by decide
theorem own_k1 : (1 : Int32).toInt = 1 := by decide
theorem own_ix0 {p : Int32} (hb : 0 ≤ p.toInt ∧ p.toInt ≤ 16) : ¬ p < 0 ∧ p < (20 : Int32) := by
  rw [Int32.lt_iff_toInt_lt, Int32.lt_iff_toInt_lt, own_k20, own_k0]; omega
theorem own_addk {p k : Int32} (hk : 0 ≤ k.toInt ∧ k.toInt ≤ 4) (hb : 0 ≤ p.toInt ∧ p.toInt ≤ 16) : (p + k).toInt = p.toInt + k.toInt := Jvm.Kit.i32_add (by omega) (by omega)
theorem own_ix {p : Int32} (k : Int32) (hk : 0 ≤ k.toInt ∧ k.toInt ≤ 3) (hb : 0 ≤ p.toInt ∧ p.toInt ≤ 16) : ¬ (p + k) < 0 ∧ (p + k) < (20 : Int32) := by
  rw [Int32.lt_iff_toInt_lt, Int32.lt_iff_toInt_lt, own_k20, own_k0, own_addk (by omega) hb]; omega
theorem own_cl {j : Int32} (q : ¬ j < 0 ∧ j < (20 : Int32)) : j.toNatClampNeg < 20 := by
  rw [Int32.lt_iff_toInt_lt, Int32.lt_iff_toInt_lt, own_k20, own_k0] at q
  show j.toInt.toNat < 20
  omega

theorem own_pn0 : plainName "com/example/fuxi/fuxi/codec/Utf8CodePointCountPinLaw" = true := by first | (simp [plainName, overriddenIn]; done) | decide +kernel
theorem own_d1_0 : decode method_3_code 0 = .ok (.iload_n 2, 1) := by decide +kernel
theorem own_d1_1 : decode method_3_code 1 = .ok (.iconst 3, 1) := by decide +kernel
theorem own_d1_2 : decode method_3_code 2 = .ok (.iand, 1) := by decide +kernel
theorem own_d1_3 : decode method_3_code 3 = .ok (.istore_n 3, 1) := by decide +kernel
theorem own_d1_4 : decode method_3_code 4 = .ok (.iload_n 2, 1) := by decide +kernel
theorem own_d1_5 : decode method_3_code 5 = .ok (.iconst 2, 1) := by decide +kernel
theorem own_d1_6 : decode method_3_code 6 = .ok (.iushr, 1) := by decide +kernel
theorem own_d1_7 : decode method_3_code 7 = .ok (.istore 4, 2) := by decide +kernel
theorem own_d1_9 : decode method_3_code 9 = .ok (.iload_n 3, 1) := by decide +kernel
theorem own_d1_10 : decode method_3_code 10 = .ok (.ifCond .ne 17, 3) := by decide +kernel
theorem own_d1_13 : decode method_3_code 13 = .ok (.aload_n 0, 1) := by decide +kernel
theorem own_d1_14 : decode method_3_code 14 = .ok (.iload_n 1, 1) := by decide +kernel
theorem own_d1_15 : decode method_3_code 15 = .ok (.iload 4, 2) := by decide +kernel
theorem own_d1_17 : decode method_3_code 17 = .ok (.sipush 128, 3) := by decide +kernel
theorem own_d1_20 : decode method_3_code 20 = .ok (.irem, 1) := by decide +kernel
theorem own_d1_21 : decode method_3_code 21 = .ok (.i2b, 1) := by decide +kernel
theorem own_d1_22 : decode method_3_code 22 = .ok (.bastore, 1) := by decide +kernel
theorem own_d1_23 : decode method_3_code 23 = .ok (.iload_n 1, 1) := by decide +kernel
theorem own_d1_24 : decode method_3_code 24 = .ok (.iconst 1, 1) := by decide +kernel
theorem own_d1_25 : decode method_3_code 25 = .ok (.iadd, 1) := by decide +kernel
theorem own_d1_26 : decode method_3_code 26 = .ok (.ireturn, 1) := by decide +kernel
def own_r1k0 (p1 : Int32) (p2 : Int32) : Int32 := (p1 + (1 : Int32))
theorem own_ef1k0 (m : MethodId) (a0 : Addr) (p1 : Int32) (p2 : Int32) : entryFrame m #[(.ref a0), (.int p1), (.int p2)] 6 = (mkF m 0 #[.val (.ref a0), .val (.int p1), .val (.int p2), .unset, .unset, .unset] []) := by first | (simp [entryFrame, mkF, argsToLocals, Value.category]; done) | rfl
set_option maxRecDepth 65536 in
set_option maxHeartbeats 40000000 in
theorem rm1k0 (l : Launch) (Z : State) (av0 : Array Value) (hw : ∀ d ∈ tables_1, d.before av0 Z = true) (ws : List Jvm.Cond) (a0 : Addr) (p1 : Int32) (p2 : Int32) (k0 : ClassId) (vs : List Value) (h0 : Heap) (n0 : Nat) (Z0 : n0 ≤ h0.size) (hbd : 0 ≤ p1.toInt ∧ p1.toInt ≤ 16) (hl : vs.length = 20) (g0 : n0 ≤ a0) (hk0 : (p2 &&& (3 : Int32)) = (0 : Int32)) (V0 : Arv Z h0 a0 k0 .byte (20 : Int32) vs (.int (0 : Int32))) :
    MetFree l (⟨"com/example/fuxi/fuxi/codec/Utf8CodePointCountPinLaw", "put", "([BII)I"⟩ : MethodName) (head1 (Jvm.Cond.code (⟨"com/example/fuxi/fuxi/codec/Utf8CodePointCountPinLaw", "put", "([BII)I"⟩ : MethodName) method_3_code 6 (some .int) :: ws) ({ frames := 0, cells := 0, slots := 0, locals := 0 } : Room)) (fun a U => a = #[(.ref a0), (.int p1), (.int p2)] ∧ Z.Warmed39 U.vm ∧ U.heap = h0) (fun _ _ _ _ _ => True) (fun _ U o U' => ∃ v L, o = .returned v ∧ own_Q n0 (fun h => Keep h0 h [a0] ∧ Arv Z h a0 k0 .byte (20 : Int32) (vs.set (p1).toNatClampNeg (.int (nar .byte ((own_rem (own_ushr p2 (2 : Int32)) (128 : Int32))).toInt8.toInt32))) (.int (0 : Int32))) (some (.int (own_r1k0 p1 p2))) v U'.heap L ∧ FrameEnd U o U' L ({ frames := 0, cells := 0, slots := 0, locals := 0 } : Room).cells ({ frames := 0, cells := 0, slots := 0, locals := 0 } : Room).slots) := by
  refine MetFree.of_bodySF (plainFor_of_name own_pn0) hisR ?_
  intro p e s m args below meth c s₁ Bd hml0 hP hK
  obtain ⟨rfl, hZ, hh⟩ := hP
  have hx := Bd.exec
  have hby := Bd.bytes
  have hml : c.maxLocals = 6 := hml0
  have hown : s.vm.findClass "com/example/fuxi/fuxi/codec/Utf8CodePointCountPinLaw" = some m.cls := findClass_of_methodNamed Bd.named
  have hnm := (name_of_methodNamed Bd.named Bd.method).1
  have hret := Bd.returns
  have hlk : meth.locks = false := BodyLoose.notSynchronized Bd
  have X0 : Stand p l e ({ frames := 0, cells := 0, slots := 0, locals := 0 } : Room) s m #[(.ref a0), (.int p1), (.int p2)] below meth c s₁ [] 0 0 := Stand.of_body Bd
  have e0 : s₁.heap = h0 := by rw [← hh, Bd.state]; rfl
  have N0 := Fr.nil n0
  clear Bd hh hK
  refine own_fin ?_
  refine own_entry (own_ef1k0 m a0 p1 p2) ?_
  show own_Run p e below s₁ _ (own_Ret _ s below _ _ (own_Q n0 _ (some (.int (p1 + (1 : Int32))))))
  show own_Run p e below s₁ (mkF m 0 #[.val (.ref a0), .val (.int p1), .val (.int p2), .unset, .unset, .unset] []) _
  refine own_step (fun t k => XS.iloadN X0.here hx rfl (hb hby own_d1_0) rfl  k) ?_
  show own_Run p e below s₁ (mkF m 1 #[.val (.ref a0), .val (.int p1), .val (.int p2), .unset, .unset, .unset] [(.int p2)]) _
  refine own_step (fun t k => XS.iconst X0.here hx rfl (hb hby own_d1_1) k) ?_
  show own_Run p e below s₁ (mkF m 2 #[.val (.ref a0), .val (.int p1), .val (.int p2), .unset, .unset, .unset] [(.int (3 : Int32)), (.int p2)]) _
  refine own_step (fun t k => XS.iand X0.here hx rfl (hb hby own_d1_2) rfl k) ?_
  show own_Run p e below s₁ (mkF m 3 #[.val (.ref a0), .val (.int p1), .val (.int p2), .unset, .unset, .unset] [(.int (p2 &&& (3 : Int32)))]) _
  refine own_step (fun t k => XS.istoreN X0.here hx rfl (hb hby own_d1_3) rfl (l' := #[.val (.ref a0), .val (.int p1), .val (.int p2), .val (.int (p2 &&& (3 : Int32))), .unset, .unset]) rfl k) ?_
  show own_Run p e below s₁ (mkF m 4 #[.val (.ref a0), .val (.int p1), .val (.int p2), .val (.int (p2 &&& (3 : Int32))), .unset, .unset] []) _
  refine own_step (fun t k => XS.iloadN X0.here hx rfl (hb hby own_d1_4) rfl  k) ?_
  show own_Run p e below s₁ (mkF m 5 #[.val (.ref a0), .val (.int p1), .val (.int p2), .val (.int (p2 &&& (3 : Int32))), .unset, .unset] [(.int p2)]) _
  refine own_step (fun t k => XS.iconst X0.here hx rfl (hb hby own_d1_5) k) ?_
  show own_Run p e below s₁ (mkF m 6 #[.val (.ref a0), .val (.int p1), .val (.int p2), .val (.int (p2 &&& (3 : Int32))), .unset, .unset] [(.int (2 : Int32)), (.int p2)]) _
  refine own_step (fun t k => XS.iushr X0.here hx rfl (hb hby own_d1_6) rfl k) ?_
  show own_Run p e below s₁ (mkF m 7 #[.val (.ref a0), .val (.int p1), .val (.int p2), .val (.int (p2 &&& (3 : Int32))), .unset, .unset] [(.int (own_ushr p2 (2 : Int32)))]) _
  refine own_step (fun t k => XS.istore X0.here hx rfl (hb hby own_d1_7) rfl (l' := #[.val (.ref a0), .val (.int p1), .val (.int p2), .val (.int (p2 &&& (3 : Int32))), .val (.int (own_ushr p2 (2 : Int32))), .unset]) rfl k) ?_
  show own_Run p e below s₁ (mkF m 9 #[.val (.ref a0), .val (.int p1), .val (.int p2), .val (.int (p2 &&& (3 : Int32))), .val (.int (own_ushr p2 (2 : Int32))), .unset] []) _
  refine own_step (fun t k => XS.iloadN X0.here hx rfl (hb hby own_d1_9) rfl  k) ?_
  show own_Run p e below s₁ (mkF m 10 #[.val (.ref a0), .val (.int p1), .val (.int p2), .val (.int (p2 &&& (3 : Int32))), .val (.int (own_ushr p2 (2 : Int32))), .unset] [(.int (p2 &&& (3 : Int32)))]) _
  refine own_step (fun t k => XS.ifNo X0.here hx rfl (hb hby own_d1_10) rfl ((if0 _ _).trans (teq hk0).2) k) ?_
  show own_Run p e below s₁ (mkF m 13 #[.val (.ref a0), .val (.int p1), .val (.int p2), .val (.int (p2 &&& (3 : Int32))), .val (.int (own_ushr p2 (2 : Int32))), .unset] []) _
  refine own_step (fun t k => XS.aloadN X0.here hx rfl (hb hby own_d1_13) rfl rfl k) ?_
  show own_Run p e below s₁ (mkF m 14 #[.val (.ref a0), .val (.int p1), .val (.int p2), .val (.int (p2 &&& (3 : Int32))), .val (.int (own_ushr p2 (2 : Int32))), .unset] [(.ref a0)]) _
  refine own_step (fun t k => XS.iloadN X0.here hx rfl (hb hby own_d1_14) rfl  k) ?_
  show own_Run p e below s₁ (mkF m 15 #[.val (.ref a0), .val (.int p1), .val (.int p2), .val (.int (p2 &&& (3 : Int32))), .val (.int (own_ushr p2 (2 : Int32))), .unset] [(.int p1), (.ref a0)]) _
  refine own_step (fun t k => XS.iload X0.here hx rfl (hb hby own_d1_15) rfl  k) ?_
  show own_Run p e below s₁ (mkF m 17 #[.val (.ref a0), .val (.int p1), .val (.int p2), .val (.int (p2 &&& (3 : Int32))), .val (.int (own_ushr p2 (2 : Int32))), .unset] [(.int (own_ushr p2 (2 : Int32))), (.int p1), (.ref a0)]) _
  refine own_step (fun t k => XS.sipush X0.here hx rfl (hb hby own_d1_17) k) ?_
  show own_Run p e below s₁ (mkF m 20 #[.val (.ref a0), .val (.int p1), .val (.int p2), .val (.int (p2 &&& (3 : Int32))), .val (.int (own_ushr p2 (2 : Int32))), .unset] [(.int (128 : Int32)), (.int (own_ushr p2 (2 : Int32))), (.int p1), (.ref a0)]) _
  refine own_step (fun t k => XS.irem X0.here hx rfl (hb hby own_d1_20) rfl (by decide) k) ?_
  show own_Run p e below s₁ (mkF m 21 #[.val (.ref a0), .val (.int p1), .val (.int p2), .val (.int (p2 &&& (3 : Int32))), .val (.int (own_ushr p2 (2 : Int32))), .unset] [(.int (own_rem (own_ushr p2 (2 : Int32)) (128 : Int32))), (.int p1), (.ref a0)]) _
  refine own_step (fun t k => XS.i2b X0.here hx rfl (hb hby own_d1_21) rfl k) ?_
  show own_Run p e below s₁ (mkF m 22 #[.val (.ref a0), .val (.int p1), .val (.int p2), .val (.int (p2 &&& (3 : Int32))), .val (.int (own_ushr p2 (2 : Int32))), .unset] [(.int ((own_rem (own_ushr p2 (2 : Int32)) (128 : Int32))).toInt8.toInt32), (.int p1), (.ref a0)]) _
  obtain ⟨T2, h2, L2, X2, e2, N2, W2, V2, st2⟩ := own_stB X0 hx hZ e0 V0 N0 g0 (j := p1) (own_ix0 hbd) (p1).toNatClampNeg rfl (by first | (rw [hl]; exact own_cl (own_ix0 hbd)) | (simp only [List.length_set]; rw [hl]; exact own_cl (own_ix0 hbd))) (g := (mkF m 22 #[.val (.ref a0), .val (.int p1), .val (.int p2), .val (.int (p2 &&& (3 : Int32))), .val (.int (own_ushr p2 (2 : Int32))), .unset] [(.int ((own_rem (own_ushr p2 (2 : Int32)) (128 : Int32))).toInt8.toInt32), (.int p1), (.ref a0)])) rfl rfl (hb hby own_d1_22)
  have V2x : Arv Z h2 a0 k0 .byte (20 : Int32) (vs.set (p1).toNatClampNeg (.int (nar .byte ((own_rem (own_ushr p2 (2 : Int32)) (128 : Int32))).toInt8.toInt32))) (.int (0 : Int32)) := V2
  have Zn2 : n0 ≤ h2.size := Nat.le_trans Z0 (Keep.of_wr W2).1
  have K2 : Keep h0 h2 [a0] := (Keep.refl h0 [a0]).wr W2 (Or.inl (List.mem_of_getElem? (i := 0) rfl))
  refine own_step st2 ?_
  show own_Run p e below T2 (mkF m 23 #[.val (.ref a0), .val (.int p1), .val (.int p2), .val (.int (p2 &&& (3 : Int32))), .val (.int (own_ushr p2 (2 : Int32))), .unset] []) _
  refine own_step (fun t k => XS.iloadN X2.here hx rfl (hb hby own_d1_23) rfl  k) ?_
  show own_Run p e below T2 (mkF m 24 #[.val (.ref a0), .val (.int p1), .val (.int p2), .val (.int (p2 &&& (3 : Int32))), .val (.int (own_ushr p2 (2 : Int32))), .unset] [(.int p1)]) _
  refine own_step (fun t k => XS.iconst X2.here hx rfl (hb hby own_d1_24) k) ?_
  show own_Run p e below T2 (mkF m 25 #[.val (.ref a0), .val (.int p1), .val (.int p2), .val (.int (p2 &&& (3 : Int32))), .val (.int (own_ushr p2 (2 : Int32))), .unset] [(.int (1 : Int32)), (.int p1)]) _
  refine own_step (fun t k => XS.iadd X2.here hx rfl (hb hby own_d1_25) rfl k) ?_
  show own_Run p e below T2 (mkF m 26 #[.val (.ref a0), .val (.int p1), .val (.int p2), .val (.int (p2 &&& (3 : Int32))), .val (.int (own_ushr p2 (2 : Int32))), .unset] [(.int (p1 + (1 : Int32)))]) _
  exact own_retI X2 hx hlk hret (hb hby own_d1_26) (by decide) (by decide) N2 (by rw [e2]; exact ⟨K2, V2x⟩)
theorem own_d1_27 : decode method_3_code 27 = .ok (.iload_n 3, 1) := by decide +kernel
theorem own_d1_28 : decode method_3_code 28 = .ok (.iconst 1, 1) := by decide +kernel
theorem own_d1_29 : decode method_3_code 29 = .ok (.if_icmp .ne 47, 3) := by decide +kernel
theorem own_d1_32 : decode method_3_code 32 = .ok (.sipush 128, 3) := by decide +kernel
theorem own_d1_35 : decode method_3_code 35 = .ok (.iload 4, 2) := by decide +kernel
theorem own_d1_37 : decode method_3_code 37 = .ok (.sipush 1920, 3) := by decide +kernel
theorem own_d1_40 : decode method_3_code 40 = .ok (.irem, 1) := by decide +kernel
theorem own_d1_41 : decode method_3_code 41 = .ok (.iadd, 1) := by decide +kernel
theorem own_d1_42 : decode method_3_code 42 = .ok (.istore 5, 2) := by decide +kernel
theorem own_d1_44 : decode method_3_code 44 = .ok (.aload_n 0, 1) := by decide +kernel
theorem own_d1_45 : decode method_3_code 45 = .ok (.iload_n 1, 1) := by decide +kernel
theorem own_d1_46 : decode method_3_code 46 = .ok (.sipush 192, 3) := by decide +kernel
theorem own_d1_49 : decode method_3_code 49 = .ok (.iload 5, 2) := by decide +kernel
theorem own_d1_51 : decode method_3_code 51 = .ok (.bipush 6, 2) := by decide +kernel
theorem own_d1_53 : decode method_3_code 53 = .ok (.ishr, 1) := by decide +kernel
theorem own_d1_54 : decode method_3_code 54 = .ok (.ior, 1) := by decide +kernel
theorem own_d1_55 : decode method_3_code 55 = .ok (.i2b, 1) := by decide +kernel
theorem own_d1_56 : decode method_3_code 56 = .ok (.bastore, 1) := by decide +kernel
theorem own_d1_57 : decode method_3_code 57 = .ok (.aload_n 0, 1) := by decide +kernel
theorem own_d1_58 : decode method_3_code 58 = .ok (.iload_n 1, 1) := by decide +kernel
theorem own_d1_59 : decode method_3_code 59 = .ok (.iconst 1, 1) := by decide +kernel
theorem own_d1_60 : decode method_3_code 60 = .ok (.iadd, 1) := by decide +kernel
theorem own_d1_61 : decode method_3_code 61 = .ok (.sipush 128, 3) := by decide +kernel
theorem own_d1_64 : decode method_3_code 64 = .ok (.iload 5, 2) := by decide +kernel
theorem own_d1_66 : decode method_3_code 66 = .ok (.bipush 63, 2) := by decide +kernel
theorem own_d1_68 : decode method_3_code 68 = .ok (.iand, 1) := by decide +kernel
theorem own_d1_69 : decode method_3_code 69 = .ok (.ior, 1) := by decide +kernel
theorem own_d1_70 : decode method_3_code 70 = .ok (.i2b, 1) := by decide +kernel
theorem own_d1_71 : decode method_3_code 71 = .ok (.bastore, 1) := by decide +kernel
theorem own_d1_72 : decode method_3_code 72 = .ok (.iload_n 1, 1) := by decide +kernel
theorem own_d1_73 : decode method_3_code 73 = .ok (.iconst 2, 1) := by decide +kernel
theorem own_d1_74 : decode method_3_code 74 = .ok (.iadd, 1) := by decide +kernel
theorem own_d1_75 : decode method_3_code 75 = .ok (.ireturn, 1) := by decide +kernel
def own_r1k1 (p1 : Int32) (p2 : Int32) : Int32 := (p1 + (2 : Int32))
theorem own_ef1k1 (m : MethodId) (a0 : Addr) (p1 : Int32) (p2 : Int32) : entryFrame m #[(.ref a0), (.int p1), (.int p2)] 6 = (mkF m 0 #[.val (.ref a0), .val (.int p1), .val (.int p2), .unset, .unset, .unset] []) := by first | (simp [entryFrame, mkF, argsToLocals, Value.category]; done) | rfl
set_option maxRecDepth 65536 in
set_option maxHeartbeats 40000000 in
theorem rm1k1 (l : Launch) (Z : State) (av0 : Array Value) (hw : ∀ d ∈ tables_1, d.before av0 Z = true) (ws : List Jvm.Cond) (a0 : Addr) (p1 : Int32) (p2 : Int32) (k0 : ClassId) (vs : List Value) (h0 : Heap) (n0 : Nat) (Z0 : n0 ≤ h0.size) (hbd : 0 ≤ p1.toInt ∧ p1.toInt ≤ 16) (hl : vs.length = 20) (g0 : n0 ≤ a0) (hk0 : ¬ (p2 &&& (3 : Int32)) = (0 : Int32)) (hk1 : (p2 &&& (3 : Int32)) = (1 : Int32)) (V0 : Arv Z h0 a0 k0 .byte (20 : Int32) vs (.int (0 : Int32))) :
    MetFree l (⟨"com/example/fuxi/fuxi/codec/Utf8CodePointCountPinLaw", "put", "([BII)I"⟩ : MethodName) (head1 (Jvm.Cond.code (⟨"com/example/fuxi/fuxi/codec/Utf8CodePointCountPinLaw", "put", "([BII)I"⟩ : MethodName) method_3_code 6 (some .int) :: ws) ({ frames := 0, cells := 0, slots := 0, locals := 0 } : Room)) (fun a U => a = #[(.ref a0), (.int p1), (.int p2)] ∧ Z.Warmed39 U.vm ∧ U.heap = h0) (fun _ _ _ _ _ => True) (fun _ U o U' => ∃ v L, o = .returned v ∧ own_Q n0 (fun h => Keep h0 h [a0] ∧ Arv Z h a0 k0 .byte (20 : Int32) ((vs.set (p1).toNatClampNeg (.int (nar .byte (((192 : Int32) ||| (own_shr ((128 : Int32) + (own_rem (own_ushr p2 (2 : Int32)) (1920 : Int32))) (6 : Int32)))).toInt8.toInt32))).set ((p1 + (1 : Int32))).toNatClampNeg (.int (nar .byte (((128 : Int32) ||| (((128 : Int32) + (own_rem (own_ushr p2 (2 : Int32)) (1920 : Int32))) &&& (63 : Int32)))).toInt8.toInt32))) (.int (0 : Int32))) (some (.int (own_r1k1 p1 p2))) v U'.heap L ∧ FrameEnd U o U' L ({ frames := 0, cells := 0, slots := 0, locals := 0 } : Room).cells ({ frames := 0, cells := 0, slots := 0, locals := 0 } : Room).slots) := by
  refine MetFree.of_bodySF (plainFor_of_name own_pn0) hisR ?_
  intro p e s m args below meth c s₁ Bd hml0 hP hK
  obtain ⟨rfl, hZ, hh⟩ := hP
  have hx := Bd.exec
  have hby := Bd.bytes
  have hml : c.maxLocals = 6 := hml0
  have hown : s.vm.findClass "com/example/fuxi/fuxi/codec/Utf8CodePointCountPinLaw" = some m.cls := findClass_of_methodNamed Bd.named
  have hnm := (name_of_methodNamed Bd.named Bd.method).1
  have hret := Bd.returns
  have hlk : meth.locks = false := BodyLoose.notSynchronized Bd
  have X0 : Stand p l e ({ frames := 0, cells := 0, slots := 0, locals := 0 } : Room) s m #[(.ref a0), (.int p1), (.int p2)] below meth c s₁ [] 0 0 := Stand.of_body Bd
  have e0 : s₁.heap = h0 := by rw [← hh, Bd.state]; rfl
  have N0 := Fr.nil n0
  clear Bd hh hK
  refine own_fin ?_
  refine own_entry (own_ef1k1 m a0 p1 p2) ?_
  show own_Run p e below s₁ _ (own_Ret _ s below _ _ (own_Q n0 _ (some (.int (p1 + (2 : Int32))))))
  show own_Run p e below s₁ (mkF m 0 #[.val (.ref a0), .val (.int p1), .val (.int p2), .unset, .unset, .unset] []) _
  refine own_step (fun t k => XS.iloadN X0.here hx rfl (hb hby own_d1_0) rfl  k) ?_
  show own_Run p e below s₁ (mkF m 1 #[.val (.ref a0), .val (.int p1), .val (.int p2), .unset, .unset, .unset] [(.int p2)]) _
  refine own_step (fun t k => XS.iconst X0.here hx rfl (hb hby own_d1_1) k) ?_
  show own_Run p e below s₁ (mkF m 2 #[.val (.ref a0), .val (.int p1), .val (.int p2), .unset, .unset, .unset] [(.int (3 : Int32)), (.int p2)]) _
  refine own_step (fun t k => XS.iand X0.here hx rfl (hb hby own_d1_2) rfl k) ?_
  show own_Run p e below s₁ (mkF m 3 #[.val (.ref a0), .val (.int p1), .val (.int p2), .unset, .unset, .unset] [(.int (p2 &&& (3 : Int32)))]) _
  refine own_step (fun t k => XS.istoreN X0.here hx rfl (hb hby own_d1_3) rfl (l' := #[.val (.ref a0), .val (.int p1), .val (.int p2), .val (.int (p2 &&& (3 : Int32))), .unset, .unset]) rfl k) ?_
  show own_Run p e below s₁ (mkF m 4 #[.val (.ref a0), .val (.int p1), .val (.int p2), .val (.int (p2 &&& (3 : Int32))), .unset, .unset] []) _
  refine own_step (fun t k => XS.iloadN X0.here hx rfl (hb hby own_d1_4) rfl  k) ?_
  show own_Run p e below s₁ (mkF m 5 #[.val (.ref a0), .val (.int p1), .val (.int p2), .val (.int (p2 &&& (3 : Int32))), .unset, .unset] [(.int p2)]) _
  refine own_step (fun t k => XS.iconst X0.here hx rfl (hb hby own_d1_5) k) ?_
  show own_Run p e below s₁ (mkF m 6 #[.val (.ref a0), .val (.int p1), .val (.int p2), .val (.int (p2 &&& (3 : Int32))), .unset, .unset] [(.int (2 : Int32)), (.int p2)]) _
  refine own_step (fun t k => XS.iushr X0.here hx rfl (hb hby own_d1_6) rfl k) ?_
  show own_Run p e below s₁ (mkF m 7 #[.val (.ref a0), .val (.int p1), .val (.int p2), .val (.int (p2 &&& (3 : Int32))), .unset, .unset] [(.int (own_ushr p2 (2 : Int32)))]) _
  refine own_step (fun t k => XS.istore X0.here hx rfl (hb hby own_d1_7) rfl (l' := #[.val (.ref a0), .val (.int p1), .val (.int p2), .val (.int (p2 &&& (3 : Int32))), .val (.int (own_ushr p2 (2 : Int32))), .unset]) rfl k) ?_
  show own_Run p e below s₁ (mkF m 9 #[.val (.ref a0), .val (.int p1), .val (.int p2), .val (.int (p2 &&& (3 : Int32))), .val (.int (own_ushr p2 (2 : Int32))), .unset] []) _
  refine own_step (fun t k => XS.iloadN X0.here hx rfl (hb hby own_d1_9) rfl  k) ?_
  show own_Run p e below s₁ (mkF m 10 #[.val (.ref a0), .val (.int p1), .val (.int p2), .val (.int (p2 &&& (3 : Int32))), .val (.int (own_ushr p2 (2 : Int32))), .unset] [(.int (p2 &&& (3 : Int32)))]) _
  refine own_step (fun t k => XS.ifYes X0.here hx rfl (pc0 := 10) (pc' := 27) rfl (hb hby own_d1_10) rfl ((if0 _ _).trans (feq hk0).2) (by decide) (by decide) k) ?_
  show own_Run p e below s₁ (mkF m 27 #[.val (.ref a0), .val (.int p1), .val (.int p2), .val (.int (p2 &&& (3 : Int32))), .val (.int (own_ushr p2 (2 : Int32))), .unset] []) _
  refine own_step (fun t k => XS.iloadN X0.here hx rfl (hb hby own_d1_27) rfl  k) ?_
  show own_Run p e below s₁ (mkF m 28 #[.val (.ref a0), .val (.int p1), .val (.int p2), .val (.int (p2 &&& (3 : Int32))), .val (.int (own_ushr p2 (2 : Int32))), .unset] [(.int (p2 &&& (3 : Int32)))]) _
  refine own_step (fun t k => XS.iconst X0.here hx rfl (hb hby own_d1_28) k) ?_
  show own_Run p e below s₁ (mkF m 29 #[.val (.ref a0), .val (.int p1), .val (.int p2), .val (.int (p2 &&& (3 : Int32))), .val (.int (own_ushr p2 (2 : Int32))), .unset] [(.int (1 : Int32)), (.int (p2 &&& (3 : Int32)))]) _
  refine own_step (fun t k => XS.icmpNo X0.here hx rfl (hb hby own_d1_29) rfl (teq hk1).2 k) ?_
  show own_Run p e below s₁ (mkF m 32 #[.val (.ref a0), .val (.int p1), .val (.int p2), .val (.int (p2 &&& (3 : Int32))), .val (.int (own_ushr p2 (2 : Int32))), .unset] []) _
  refine own_step (fun t k => XS.sipush X0.here hx rfl (hb hby own_d1_32) k) ?_
  show own_Run p e below s₁ (mkF m 35 #[.val (.ref a0), .val (.int p1), .val (.int p2), .val (.int (p2 &&& (3 : Int32))), .val (.int (own_ushr p2 (2 : Int32))), .unset] [(.int (128 : Int32))]) _
  refine own_step (fun t k => XS.iload X0.here hx rfl (hb hby own_d1_35) rfl  k) ?_
  show own_Run p e below s₁ (mkF m 37 #[.val (.ref a0), .val (.int p1), .val (.int p2), .val (.int (p2 &&& (3 : Int32))), .val (.int (own_ushr p2 (2 : Int32))), .unset] [(.int (own_ushr p2 (2 : Int32))), (.int (128 : Int32))]) _
  refine own_step (fun t k => XS.sipush X0.here hx rfl (hb hby own_d1_37) k) ?_
  show own_Run p e below s₁ (mkF m 40 #[.val (.ref a0), .val (.int p1), .val (.int p2), .val (.int (p2 &&& (3 : Int32))), .val (.int (own_ushr p2 (2 : Int32))), .unset] [(.int (1920 : Int32)), (.int (own_ushr p2 (2 : Int32))), (.int (128 : Int32))]) _
  refine own_step (fun t k => XS.irem X0.here hx rfl (hb hby own_d1_40) rfl (by decide) k) ?_
  show own_Run p e below s₁ (mkF m 41 #[.val (.ref a0), .val (.int p1), .val (.int p2), .val (.int (p2 &&& (3 : Int32))), .val (.int (own_ushr p2 (2 : Int32))), .unset] [(.int (own_rem (own_ushr p2 (2 : Int32)) (1920 : Int32))), (.int (128 : Int32))]) _
  refine own_step (fun t k => XS.iadd X0.here hx rfl (hb hby own_d1_41) rfl k) ?_
  show own_Run p e below s₁ (mkF m 42 #[.val (.ref a0), .val (.int p1), .val (.int p2), .val (.int (p2 &&& (3 : Int32))), .val (.int (own_ushr p2 (2 : Int32))), .unset] [(.int ((128 : Int32) + (own_rem (own_ushr p2 (2 : Int32)) (1920 : Int32))))]) _
  refine own_step (fun t k => XS.istore X0.here hx rfl (hb hby own_d1_42) rfl (l' := #[.val (.ref a0), .val (.int p1), .val (.int p2), .val (.int (p2 &&& (3 : Int32))), .val (.int (own_ushr p2 (2 : Int32))), .val (.int ((128 : Int32) + (own_rem (own_ushr p2 (2 : Int32)) (1920 : Int32))))]) rfl k) ?_
  show own_Run p e below s₁ (mkF m 44 #[.val (.ref a0), .val (.int p1), .val (.int p2), .val (.int (p2 &&& (3 : Int32))), .val (.int (own_ushr p2 (2 : Int32))), .val (.int ((128 : Int32) + (own_rem (own_ushr p2 (2 : Int32)) (1920 : Int32))))] []) _
  refine own_step (fun t k => XS.aloadN X0.here hx rfl (hb hby own_d1_44) rfl rfl k) ?_
  show own_Run p e below s₁ (mkF m 45 #[.val (.ref a0), .val (.int p1), .val (.int p2), .val (.int (p2 &&& (3 : Int32))), .val (.int (own_ushr p2 (2 : Int32))), .val (.int ((128 : Int32) + (own_rem (own_ushr p2 (2 : Int32)) (1920 : Int32))))] [(.ref a0)]) _
  refine own_step (fun t k => XS.iloadN X0.here hx rfl (hb hby own_d1_45) rfl  k) ?_
  show own_Run p e below s₁ (mkF m 46 #[.val (.ref a0), .val (.int p1), .val (.int p2), .val (.int (p2 &&& (3 : Int32))), .val (.int (own_ushr p2 (2 : Int32))), .val (.int ((128 : Int32) + (own_rem (own_ushr p2 (2 : Int32)) (1920 : Int32))))] [(.int p1), (.ref a0)]) _
  refine own_step (fun t k => XS.sipush X0.here hx rfl (hb hby own_d1_46) k) ?_
  show own_Run p e below s₁ (mkF m 49 #[.val (.ref a0), .val (.int p1), .val (.int p2), .val (.int (p2 &&& (3 : Int32))), .val (.int (own_ushr p2 (2 : Int32))), .val (.int ((128 : Int32) + (own_rem (own_ushr p2 (2 : Int32)) (1920 : Int32))))] [(.int (192 : Int32)), (.int p1), (.ref a0)]) _
  refine own_step (fun t k => XS.iload X0.here hx rfl (hb hby own_d1_49) rfl  k) ?_
  show own_Run p e below s₁ (mkF m 51 #[.val (.ref a0), .val (.int p1), .val (.int p2), .val (.int (p2 &&& (3 : Int32))), .val (.int (own_ushr p2 (2 : Int32))), .val (.int ((128 : Int32) + (own_rem (own_ushr p2 (2 : Int32)) (1920 : Int32))))] [(.int ((128 : Int32) + (own_rem (own_ushr p2 (2 : Int32)) (1920 : Int32)))), (.int (192 : Int32)), (.int p1), (.ref a0)]) _
  refine own_step (fun t k => XS.bipush X0.here hx rfl (hb hby own_d1_51) k) ?_
  show own_Run p e below s₁ (mkF m 53 #[.val (.ref a0), .val (.int p1), .val (.int p2), .val (.int (p2 &&& (3 : Int32))), .val (.int (own_ushr p2 (2 : Int32))), .val (.int ((128 : Int32) + (own_rem (own_ushr p2 (2 : Int32)) (1920 : Int32))))] [(.int (6 : Int32)), (.int ((128 : Int32) + (own_rem (own_ushr p2 (2 : Int32)) (1920 : Int32)))), (.int (192 : Int32)), (.int p1), (.ref a0)]) _
  refine own_step (fun t k => XS.ishr X0.here hx rfl (hb hby own_d1_53) rfl k) ?_
  show own_Run p e below s₁ (mkF m 54 #[.val (.ref a0), .val (.int p1), .val (.int p2), .val (.int (p2 &&& (3 : Int32))), .val (.int (own_ushr p2 (2 : Int32))), .val (.int ((128 : Int32) + (own_rem (own_ushr p2 (2 : Int32)) (1920 : Int32))))] [(.int (own_shr ((128 : Int32) + (own_rem (own_ushr p2 (2 : Int32)) (1920 : Int32))) (6 : Int32))), (.int (192 : Int32)), (.int p1), (.ref a0)]) _
  refine own_step (fun t k => XS.ior X0.here hx rfl (hb hby own_d1_54) rfl k) ?_
  show own_Run p e below s₁ (mkF m 55 #[.val (.ref a0), .val (.int p1), .val (.int p2), .val (.int (p2 &&& (3 : Int32))), .val (.int (own_ushr p2 (2 : Int32))), .val (.int ((128 : Int32) + (own_rem (own_ushr p2 (2 : Int32)) (1920 : Int32))))] [(.int ((192 : Int32) ||| (own_shr ((128 : Int32) + (own_rem (own_ushr p2 (2 : Int32)) (1920 : Int32))) (6 : Int32)))), (.int p1), (.ref a0)]) _
  refine own_step (fun t k => XS.i2b X0.here hx rfl (hb hby own_d1_55) rfl k) ?_
  show own_Run p e below s₁ (mkF m 56 #[.val (.ref a0), .val (.int p1), .val (.int p2), .val (.int (p2 &&& (3 : Int32))), .val (.int (own_ushr p2 (2 : Int32))), .val (.int ((128 : Int32) + (own_rem (own_ushr p2 (2 : Int32)) (1920 : Int32))))] [(.int (((192 : Int32) ||| (own_shr ((128 : Int32) + (own_rem (own_ushr p2 (2 : Int32)) (1920 : Int32))) (6 : Int32)))).toInt8.toInt32), (.int p1), (.ref a0)]) _
  obtain ⟨T3, h3, L3, X3, e3, N3, W3, V3, st3⟩ := own_stB X0 hx hZ e0 V0 N0 g0 (j := p1) (own_ix0 hbd) (p1).toNatClampNeg rfl (by first | (rw [hl]; exact own_cl (own_ix0 hbd)) | (simp only [List.length_set]; rw [hl]; exact own_cl (own_ix0 hbd))) (g := (mkF m 56 #[.val (.ref a0), .val (.int p1), .val (.int p2), .val (.int (p2 &&& (3 : Int32))), .val (.int (own_ushr p2 (2 : Int32))), .val (.int ((128 : Int32) + (own_rem (own_ushr p2 (2 : Int32)) (1920 : Int32))))] [(.int (((192 : Int32) ||| (own_shr ((128 : Int32) + (own_rem (own_ushr p2 (2 : Int32)) (1920 : Int32))) (6 : Int32)))).toInt8.toInt32), (.int p1), (.ref a0)])) rfl rfl (hb hby own_d1_56)
  have V3x : Arv Z h3 a0 k0 .byte (20 : Int32) (vs.set (p1).toNatClampNeg (.int (nar .byte (((192 : Int32) ||| (own_shr ((128 : Int32) + (own_rem (own_ushr p2 (2 : Int32)) (1920 : Int32))) (6 : Int32)))).toInt8.toInt32))) (.int (0 : Int32)) := V3
  have Zn3 : n0 ≤ h3.size := Nat.le_trans Z0 (Keep.of_wr W3).1
  have K3 : Keep h0 h3 [a0] := (Keep.refl h0 [a0]).wr W3 (Or.inl (List.mem_of_getElem? (i := 0) rfl))
  refine own_step st3 ?_
  show own_Run p e below T3 (mkF m 57 #[.val (.ref a0), .val (.int p1), .val (.int p2), .val (.int (p2 &&& (3 : Int32))), .val (.int (own_ushr p2 (2 : Int32))), .val (.int ((128 : Int32) + (own_rem (own_ushr p2 (2 : Int32)) (1920 : Int32))))] []) _
  refine own_step (fun t k => XS.aloadN X3.here hx rfl (hb hby own_d1_57) rfl rfl k) ?_
  show own_Run p e below T3 (mkF m 58 #[.val (.ref a0), .val (.int p1), .val (.int p2), .val (.int (p2 &&& (3 : Int32))), .val (.int (own_ushr p2 (2 : Int32))), .val (.int ((128 : Int32) + (own_rem (own_ushr p2 (2 : Int32)) (1920 : Int32))))] [(.ref a0)]) _
  refine own_step (fun t k => XS.iloadN X3.here hx rfl (hb hby own_d1_58) rfl  k) ?_
  show own_Run p e below T3 (mkF m 59 #[.val (.ref a0), .val (.int p1), .val (.int p2), .val (.int (p2 &&& (3 : Int32))), .val (.int (own_ushr p2 (2 : Int32))), .val (.int ((128 : Int32) + (own_rem (own_ushr p2 (2 : Int32)) (1920 : Int32))))] [(.int p1), (.ref a0)]) _
  refine own_step (fun t k => XS.iconst X3.here hx rfl (hb hby own_d1_59) k) ?_
  show own_Run p e below T3 (mkF m 60 #[.val (.ref a0), .val (.int p1), .val (.int p2), .val (.int (p2 &&& (3 : Int32))), .val (.int (own_ushr p2 (2 : Int32))), .val (.int ((128 : Int32) + (own_rem (own_ushr p2 (2 : Int32)) (1920 : Int32))))] [(.int (1 : Int32)), (.int p1), (.ref a0)]) _
  refine own_step (fun t k => XS.iadd X3.here hx rfl (hb hby own_d1_60) rfl k) ?_
  show own_Run p e below T3 (mkF m 61 #[.val (.ref a0), .val (.int p1), .val (.int p2), .val (.int (p2 &&& (3 : Int32))), .val (.int (own_ushr p2 (2 : Int32))), .val (.int ((128 : Int32) + (own_rem (own_ushr p2 (2 : Int32)) (1920 : Int32))))] [(.int (p1 + (1 : Int32))), (.ref a0)]) _
  refine own_step (fun t k => XS.sipush X3.here hx rfl (hb hby own_d1_61) k) ?_
  show own_Run p e below T3 (mkF m 64 #[.val (.ref a0), .val (.int p1), .val (.int p2), .val (.int (p2 &&& (3 : Int32))), .val (.int (own_ushr p2 (2 : Int32))), .val (.int ((128 : Int32) + (own_rem (own_ushr p2 (2 : Int32)) (1920 : Int32))))] [(.int (128 : Int32)), (.int (p1 + (1 : Int32))), (.ref a0)]) _
  refine own_step (fun t k => XS.iload X3.here hx rfl (hb hby own_d1_64) rfl  k) ?_
  show own_Run p e below T3 (mkF m 66 #[.val (.ref a0), .val (.int p1), .val (.int p2), .val (.int (p2 &&& (3 : Int32))), .val (.int (own_ushr p2 (2 : Int32))), .val (.int ((128 : Int32) + (own_rem (own_ushr p2 (2 : Int32)) (1920 : Int32))))] [(.int ((128 : Int32) + (own_rem (own_ushr p2 (2 : Int32)) (1920 : Int32)))), (.int (128 : Int32)), (.int (p1 + (1 : Int32))), (.ref a0)]) _
  refine own_step (fun t k => XS.bipush X3.here hx rfl (hb hby own_d1_66) k) ?_
  show own_Run p e below T3 (mkF m 68 #[.val (.ref a0), .val (.int p1), .val (.int p2), .val (.int (p2 &&& (3 : Int32))), .val (.int (own_ushr p2 (2 : Int32))), .val (.int ((128 : Int32) + (own_rem (own_ushr p2 (2 : Int32)) (1920 : Int32))))] [(.int (63 : Int32)), (.int ((128 : Int32) + (own_rem (own_ushr p2 (2 : Int32)) (1920 : Int32)))), (.int (128 : Int32)), (.int (p1 + (1 : Int32))), (.ref a0)]) _
  refine own_step (fun t k => XS.iand X3.here hx rfl (hb hby own_d1_68) rfl k) ?_
  show own_Run p e below T3 (mkF m 69 #[.val (.ref a0), .val (.int p1), .val (.int p2), .val (.int (p2 &&& (3 : Int32))), .val (.int (own_ushr p2 (2 : Int32))), .val (.int ((128 : Int32) + (own_rem (own_ushr p2 (2 : Int32)) (1920 : Int32))))] [(.int (((128 : Int32) + (own_rem (own_ushr p2 (2 : Int32)) (1920 : Int32))) &&& (63 : Int32))), (.int (128 : Int32)), (.int (p1 + (1 : Int32))), (.ref a0)]) _
  refine own_step (fun t k => XS.ior X3.here hx rfl (hb hby own_d1_69) rfl k) ?_
  show own_Run p e below T3 (mkF m 70 #[.val (.ref a0), .val (.int p1), .val (.int p2), .val (.int (p2 &&& (3 : Int32))), .val (.int (own_ushr p2 (2 : Int32))), .val (.int ((128 : Int32) + (own_rem (own_ushr p2 (2 : Int32)) (1920 : Int32))))] [(.int ((128 : Int32) ||| (((128 : Int32) + (own_rem (own_ushr p2 (2 : Int32)) (1920 : Int32))) &&& (63 : Int32)))), (.int (p1 + (1 : Int32))), (.ref a0)]) _
  refine own_step (fun t k => XS.i2b X3.here hx rfl (hb hby own_d1_70) rfl k) ?_
  show own_Run p e below T3 (mkF m 71 #[.val (.ref a0), .val (.int p1), .val (.int p2), .val (.int (p2 &&& (3 : Int32))), .val (.int (own_ushr p2 (2 : Int32))), .val (.int ((128 : Int32) + (own_rem (own_ushr p2 (2 : Int32)) (1920 : Int32))))] [(.int (((128 : Int32) ||| (((128 : Int32) + (own_rem (own_ushr p2 (2 : Int32)) (1920 : Int32))) &&& (63 : Int32)))).toInt8.toInt32), (.int (p1 + (1 : Int32))), (.ref a0)]) _
  obtain ⟨T4, h4, L4, X4, e4, N4, W4, V4, st4⟩ := own_stB X3 hx hZ e3 V3x N3 g0 (j := (p1 + (1 : Int32))) (own_ix (1 : Int32) (by decide) hbd) ((p1 + (1 : Int32))).toNatClampNeg rfl (by first | (rw [hl]; exact own_cl (own_ix (1 : Int32) (by decide) hbd)) | (simp only [List.length_set]; rw [hl]; exact own_cl (own_ix (1 : Int32) (by decide) hbd))) (g := (mkF m 71 #[.val (.ref a0), .val (.int p1), .val (.int p2), .val (.int (p2 &&& (3 : Int32))), .val (.int (own_ushr p2 (2 : Int32))), .val (.int ((128 : Int32) + (own_rem (own_ushr p2 (2 : Int32)) (1920 : Int32))))] [(.int (((128 : Int32) ||| (((128 : Int32) + (own_rem (own_ushr p2 (2 : Int32)) (1920 : Int32))) &&& (63 : Int32)))).toInt8.toInt32), (.int (p1 + (1 : Int32))), (.ref a0)])) rfl rfl (hb hby own_d1_71)
  have V4x : Arv Z h4 a0 k0 .byte (20 : Int32) ((vs.set (p1).toNatClampNeg (.int (nar .byte (((192 : Int32) ||| (own_shr ((128 : Int32) + (own_rem (own_ushr p2 (2 : Int32)) (1920 : Int32))) (6 : Int32)))).toInt8.toInt32))).set ((p1 + (1 : Int32))).toNatClampNeg (.int (nar .byte (((128 : Int32) ||| (((128 : Int32) + (own_rem (own_ushr p2 (2 : Int32)) (1920 : Int32))) &&& (63 : Int32)))).toInt8.toInt32))) (.int (0 : Int32)) := V4
  have Zn4 : n0 ≤ h4.size := Nat.le_trans Zn3 (Keep.of_wr W4).1
  have K4 : Keep h0 h4 [a0] := K3.wr W4 (Or.inl (List.mem_of_getElem? (i := 0) rfl))
  refine own_step st4 ?_
  show own_Run p e below T4 (mkF m 72 #[.val (.ref a0), .val (.int p1), .val (.int p2), .val (.int (p2 &&& (3 : Int32))), .val (.int (own_ushr p2 (2 : Int32))), .val (.int ((128 : Int32) + (own_rem (own_ushr p2 (2 : Int32)) (1920 : Int32))))] []) _
  refine own_step (fun t k => XS.iloadN X4.here hx rfl (hb hby own_d1_72) rfl  k) ?_
  show own_Run p e below T4 (mkF m 73 #[.val (.ref a0), .val (.int p1), .val (.int p2), .val (.int (p2 &&& (3 : Int32))), .val (.int (own_ushr p2 (2 : Int32))), .val (.int ((128 : Int32) + (own_rem (own_ushr p2 (2 : Int32)) (1920 : Int32))))] [(.int p1)]) _
  refine own_step (fun t k => XS.iconst X4.here hx rfl (hb hby own_d1_73) k) ?_
  show own_Run p e below T4 (mkF m 74 #[.val (.ref a0), .val (.int p1), .val (.int p2), .val (.int (p2 &&& (3 : Int32))), .val (.int (own_ushr p2 (2 : Int32))), .val (.int ((128 : Int32) + (own_rem (own_ushr p2 (2 : Int32)) (1920 : Int32))))] [(.int (2 : Int32)), (.int p1)]) _
  refine own_step (fun t k => XS.iadd X4.here hx rfl (hb hby own_d1_74) rfl k) ?_
  show own_Run p e below T4 (mkF m 75 #[.val (.ref a0), .val (.int p1), .val (.int p2), .val (.int (p2 &&& (3 : Int32))), .val (.int (own_ushr p2 (2 : Int32))), .val (.int ((128 : Int32) + (own_rem (own_ushr p2 (2 : Int32)) (1920 : Int32))))] [(.int (p1 + (2 : Int32)))]) _
  exact own_retI X4 hx hlk hret (hb hby own_d1_75) (by decide) (by decide) N4 (by rw [e4]; exact ⟨K4, V4x⟩)
theorem own_d1_76 : decode method_3_code 76 = .ok (.iload_n 3, 1) := by decide +kernel
theorem own_d1_77 : decode method_3_code 77 = .ok (.iconst 2, 1) := by decide +kernel
theorem own_d1_78 : decode method_3_code 78 = .ok (.if_icmp .ne 79, 3) := by decide +kernel
theorem own_d1_81 : decode method_3_code 81 = .ok (.sipush 2048, 3) := by decide +kernel
theorem own_d1_84 : decode method_3_code 84 = .ok (.iload 4, 2) := by decide +kernel
theorem own_d1_86 : decode method_3_code 86 = .ok (.ldc 18, 2) := by decide +kernel
theorem own_d1_88 : decode method_3_code 88 = .ok (.irem, 1) := by decide +kernel
theorem own_d1_89 : decode method_3_code 89 = .ok (.iadd, 1) := by decide +kernel
theorem own_d1_90 : decode method_3_code 90 = .ok (.istore 5, 2) := by decide +kernel
theorem own_d1_92 : decode method_3_code 92 = .ok (.iload 5, 2) := by decide +kernel
theorem own_d1_94 : decode method_3_code 94 = .ok (.ldc 19, 2) := by decide +kernel
theorem own_d1_96 : decode method_3_code 96 = .ok (.if_icmp .lt 11, 3) := by decide +kernel
theorem own_d1_99 : decode method_3_code 99 = .ok (.iload 5, 2) := by decide +kernel
theorem own_d1_101 : decode method_3_code 101 = .ok (.sipush 2048, 3) := by decide +kernel
theorem own_d1_104 : decode method_3_code 104 = .ok (.iadd, 1) := by decide +kernel
theorem own_d1_105 : decode method_3_code 105 = .ok (.istore 5, 2) := by decide +kernel
theorem own_d1_107 : decode method_3_code 107 = .ok (.aload_n 0, 1) := by decide +kernel
theorem own_d1_108 : decode method_3_code 108 = .ok (.iload_n 1, 1) := by decide +kernel
theorem own_d1_109 : decode method_3_code 109 = .ok (.sipush 224, 3) := by decide +kernel
theorem own_d1_112 : decode method_3_code 112 = .ok (.iload 5, 2) := by decide +kernel
theorem own_d1_114 : decode method_3_code 114 = .ok (.bipush 12, 2) := by decide +kernel
theorem own_d1_116 : decode method_3_code 116 = .ok (.ishr, 1) := by decide +kernel
theorem own_d1_117 : decode method_3_code 117 = .ok (.ior, 1) := by decide +kernel
theorem own_d1_118 : decode method_3_code 118 = .ok (.i2b, 1) := by decide +kernel
theorem own_d1_119 : decode method_3_code 119 = .ok (.bastore, 1) := by decide +kernel
theorem own_d1_120 : decode method_3_code 120 = .ok (.aload_n 0, 1) := by decide +kernel
theorem own_d1_121 : decode method_3_code 121 = .ok (.iload_n 1, 1) := by decide +kernel
theorem own_d1_122 : decode method_3_code 122 = .ok (.iconst 1, 1) := by decide +kernel
theorem own_d1_123 : decode method_3_code 123 = .ok (.iadd, 1) := by decide +kernel
theorem own_d1_124 : decode method_3_code 124 = .ok (.sipush 128, 3) := by decide +kernel
theorem own_d1_127 : decode method_3_code 127 = .ok (.iload 5, 2) := by decide +kernel
theorem own_d1_129 : decode method_3_code 129 = .ok (.bipush 6, 2) := by decide +kernel
theorem own_d1_131 : decode method_3_code 131 = .ok (.ishr, 1) := by decide +kernel
theorem own_d1_132 : decode method_3_code 132 = .ok (.bipush 63, 2) := by decide +kernel
theorem own_d1_134 : decode method_3_code 134 = .ok (.iand, 1) := by decide +kernel
theorem own_d1_135 : decode method_3_code 135 = .ok (.ior, 1) := by decide +kernel
theorem own_d1_136 : decode method_3_code 136 = .ok (.i2b, 1) := by decide +kernel
theorem own_d1_137 : decode method_3_code 137 = .ok (.bastore, 1) := by decide +kernel
theorem own_d1_138 : decode method_3_code 138 = .ok (.aload_n 0, 1) := by decide +kernel
theorem own_d1_139 : decode method_3_code 139 = .ok (.iload_n 1, 1) := by decide +kernel
theorem own_d1_140 : decode method_3_code 140 = .ok (.iconst 2, 1) := by decide +kernel
theorem own_d1_141 : decode method_3_code 141 = .ok (.iadd, 1) := by decide +kernel
theorem own_d1_142 : decode method_3_code 142 = .ok (.sipush 128, 3) := by decide +kernel
theorem own_d1_145 : decode method_3_code 145 = .ok (.iload 5, 2) := by decide +kernel
theorem own_d1_147 : decode method_3_code 147 = .ok (.bipush 63, 2) := by decide +kernel
theorem own_d1_149 : decode method_3_code 149 = .ok (.iand, 1) := by decide +kernel
theorem own_d1_150 : decode method_3_code 150 = .ok (.ior, 1) := by decide +kernel
theorem own_d1_151 : decode method_3_code 151 = .ok (.i2b, 1) := by decide +kernel
theorem own_d1_152 : decode method_3_code 152 = .ok (.bastore, 1) := by decide +kernel
theorem own_d1_153 : decode method_3_code 153 = .ok (.iload_n 1, 1) := by decide +kernel
theorem own_d1_154 : decode method_3_code 154 = .ok (.iconst 3, 1) := by decide +kernel
theorem own_d1_155 : decode method_3_code 155 = .ok (.iadd, 1) := by decide +kernel
theorem own_d1_156 : decode method_3_code 156 = .ok (.ireturn, 1) := by decide +kernel
def own_f1k2_j107_L5 (p2 : Int32) : Int32 := (if ((2048 : Int32) + (own_rem (own_ushr p2 (2 : Int32)) (61440 : Int32))) < (55296 : Int32) then ((2048 : Int32) + (own_rem (own_ushr p2 (2 : Int32)) (61440 : Int32))) else (((2048 : Int32) + (own_rem (own_ushr p2 (2 : Int32)) (61440 : Int32))) + (2048 : Int32)))
def own_r1k2 (p1 : Int32) (p2 : Int32) : Int32 := (p1 + (3 : Int32))
theorem own_ef1k2 (m : MethodId) (a0 : Addr) (p1 : Int32) (p2 : Int32) : entryFrame m #[(.ref a0), (.int p1), (.int p2)] 6 = (mkF m 0 #[.val (.ref a0), .val (.int p1), .val (.int p2), .unset, .unset, .unset] []) := by first | (simp [entryFrame, mkF, argsToLocals, Value.category]; done) | rfl
set_option maxRecDepth 65536 in
set_option maxHeartbeats 40000000 in
theorem rm1k2 (l : Launch) (Z : State) (av0 : Array Value) (hw : ∀ d ∈ tables_1, d.before av0 Z = true) (ws : List Jvm.Cond) (a0 : Addr) (p1 : Int32) (p2 : Int32) (k0 : ClassId) (vs : List Value) (h0 : Heap) (n0 : Nat) (Z0 : n0 ≤ h0.size) (hbd : 0 ≤ p1.toInt ∧ p1.toInt ≤ 16) (hl : vs.length = 20) (g0 : n0 ≤ a0) (hk0 : ¬ (p2 &&& (3 : Int32)) = (0 : Int32)) (hk1 : ¬ (p2 &&& (3 : Int32)) = (1 : Int32)) (hk2 : (p2 &&& (3 : Int32)) = (2 : Int32)) (V0 : Arv Z h0 a0 k0 .byte (20 : Int32) vs (.int (0 : Int32))) :
    MetFree l (⟨"com/example/fuxi/fuxi/codec/Utf8CodePointCountPinLaw", "put", "([BII)I"⟩ : MethodName) (head1 (Jvm.Cond.code (⟨"com/example/fuxi/fuxi/codec/Utf8CodePointCountPinLaw", "put", "([BII)I"⟩ : MethodName) method_3_code 6 (some .int) :: ws) ({ frames := 0, cells := 0, slots := 0, locals := 0 } : Room)) (fun a U => a = #[(.ref a0), (.int p1), (.int p2)] ∧ Z.Warmed39 U.vm ∧ U.heap = h0) (fun _ _ _ _ _ => True) (fun _ U o U' => ∃ v L, o = .returned v ∧ own_Q n0 (fun h => Keep h0 h [a0] ∧ Arv Z h a0 k0 .byte (20 : Int32) (((vs.set (p1).toNatClampNeg (.int (nar .byte (((224 : Int32) ||| (own_shr (own_f1k2_j107_L5 p2) (12 : Int32)))).toInt8.toInt32))).set ((p1 + (1 : Int32))).toNatClampNeg (.int (nar .byte (((128 : Int32) ||| ((own_shr (own_f1k2_j107_L5 p2) (6 : Int32)) &&& (63 : Int32)))).toInt8.toInt32))).set ((p1 + (2 : Int32))).toNatClampNeg (.int (nar .byte (((128 : Int32) ||| ((own_f1k2_j107_L5 p2) &&& (63 : Int32)))).toInt8.toInt32))) (.int (0 : Int32))) (some (.int (own_r1k2 p1 p2))) v U'.heap L ∧ FrameEnd U o U' L ({ frames := 0, cells := 0, slots := 0, locals := 0 } : Room).cells ({ frames := 0, cells := 0, slots := 0, locals := 0 } : Room).slots) := by
  refine MetFree.of_bodySF (plainFor_of_name own_pn0) hisR ?_
  intro p e s m args below meth c s₁ Bd hml0 hP hK
  obtain ⟨rfl, hZ, hh⟩ := hP
  have hx := Bd.exec
  have hby := Bd.bytes
  have hml : c.maxLocals = 6 := hml0
  have hown : s.vm.findClass "com/example/fuxi/fuxi/codec/Utf8CodePointCountPinLaw" = some m.cls := findClass_of_methodNamed Bd.named
  have hnm := (name_of_methodNamed Bd.named Bd.method).1
  have hret := Bd.returns
  have hlk : meth.locks = false := BodyLoose.notSynchronized Bd
  have X0 : Stand p l e ({ frames := 0, cells := 0, slots := 0, locals := 0 } : Room) s m #[(.ref a0), (.int p1), (.int p2)] below meth c s₁ [] 0 0 := Stand.of_body Bd
  have e0 : s₁.heap = h0 := by rw [← hh, Bd.state]; rfl
  have N0 := Fr.nil n0
  clear Bd hh hK
  refine own_fin ?_
  refine own_entry (own_ef1k2 m a0 p1 p2) ?_
  show own_Run p e below s₁ _ (own_Ret _ s below _ _ (own_Q n0 _ (some (.int (p1 + (3 : Int32))))))
  show own_Run p e below s₁ (mkF m 0 #[.val (.ref a0), .val (.int p1), .val (.int p2), .unset, .unset, .unset] []) _
  refine own_step (fun t k => XS.iloadN X0.here hx rfl (hb hby own_d1_0) rfl  k) ?_
  show own_Run p e below s₁ (mkF m 1 #[.val (.ref a0), .val (.int p1), .val (.int p2), .unset, .unset, .unset] [(.int p2)]) _
  refine own_step (fun t k => XS.iconst X0.here hx rfl (hb hby own_d1_1) k) ?_
  show own_Run p e below s₁ (mkF m 2 #[.val (.ref a0), .val (.int p1), .val (.int p2), .unset, .unset, .unset] [(.int (3 : Int32)), (.int p2)]) _
  refine own_step (fun t k => XS.iand X0.here hx rfl (hb hby own_d1_2) rfl k) ?_
  show own_Run p e below s₁ (mkF m 3 #[.val (.ref a0), .val (.int p1), .val (.int p2), .unset, .unset, .unset] [(.int (p2 &&& (3 : Int32)))]) _
  refine own_step (fun t k => XS.istoreN X0.here hx rfl (hb hby own_d1_3) rfl (l' := #[.val (.ref a0), .val (.int p1), .val (.int p2), .val (.int (p2 &&& (3 : Int32))), .unset, .unset]) rfl k) ?_
  show own_Run p e below s₁ (mkF m 4 #[.val (.ref a0), .val (.int p1), .val (.int p2), .val (.int (p2 &&& (3 : Int32))), .unset, .unset] []) _
  refine own_step (fun t k => XS.iloadN X0.here hx rfl (hb hby own_d1_4) rfl  k) ?_
  show own_Run p e below s₁ (mkF m 5 #[.val (.ref a0), .val (.int p1), .val (.int p2), .val (.int (p2 &&& (3 : Int32))), .unset, .unset] [(.int p2)]) _
  refine own_step (fun t k => XS.iconst X0.here hx rfl (hb hby own_d1_5) k) ?_
  show own_Run p e below s₁ (mkF m 6 #[.val (.ref a0), .val (.int p1), .val (.int p2), .val (.int (p2 &&& (3 : Int32))), .unset, .unset] [(.int (2 : Int32)), (.int p2)]) _
  refine own_step (fun t k => XS.iushr X0.here hx rfl (hb hby own_d1_6) rfl k) ?_
  show own_Run p e below s₁ (mkF m 7 #[.val (.ref a0), .val (.int p1), .val (.int p2), .val (.int (p2 &&& (3 : Int32))), .unset, .unset] [(.int (own_ushr p2 (2 : Int32)))]) _
  refine own_step (fun t k => XS.istore X0.here hx rfl (hb hby own_d1_7) rfl (l' := #[.val (.ref a0), .val (.int p1), .val (.int p2), .val (.int (p2 &&& (3 : Int32))), .val (.int (own_ushr p2 (2 : Int32))), .unset]) rfl k) ?_
  show own_Run p e below s₁ (mkF m 9 #[.val (.ref a0), .val (.int p1), .val (.int p2), .val (.int (p2 &&& (3 : Int32))), .val (.int (own_ushr p2 (2 : Int32))), .unset] []) _
  refine own_step (fun t k => XS.iloadN X0.here hx rfl (hb hby own_d1_9) rfl  k) ?_
  show own_Run p e below s₁ (mkF m 10 #[.val (.ref a0), .val (.int p1), .val (.int p2), .val (.int (p2 &&& (3 : Int32))), .val (.int (own_ushr p2 (2 : Int32))), .unset] [(.int (p2 &&& (3 : Int32)))]) _
  refine own_step (fun t k => XS.ifYes X0.here hx rfl (pc0 := 10) (pc' := 27) rfl (hb hby own_d1_10) rfl ((if0 _ _).trans (feq hk0).2) (by decide) (by decide) k) ?_
  show own_Run p e below s₁ (mkF m 27 #[.val (.ref a0), .val (.int p1), .val (.int p2), .val (.int (p2 &&& (3 : Int32))), .val (.int (own_ushr p2 (2 : Int32))), .unset] []) _
  refine own_step (fun t k => XS.iloadN X0.here hx rfl (hb hby own_d1_27) rfl  k) ?_
  show own_Run p e below s₁ (mkF m 28 #[.val (.ref a0), .val (.int p1), .val (.int p2), .val (.int (p2 &&& (3 : Int32))), .val (.int (own_ushr p2 (2 : Int32))), .unset] [(.int (p2 &&& (3 : Int32)))]) _
  refine own_step (fun t k => XS.iconst X0.here hx rfl (hb hby own_d1_28) k) ?_
  show own_Run p e below s₁ (mkF m 29 #[.val (.ref a0), .val (.int p1), .val (.int p2), .val (.int (p2 &&& (3 : Int32))), .val (.int (own_ushr p2 (2 : Int32))), .unset] [(.int (1 : Int32)), (.int (p2 &&& (3 : Int32)))]) _
  refine own_step (fun t k => XS.icmpYes X0.here hx rfl (pc0 := 29) (pc' := 76) rfl (hb hby own_d1_29) rfl (feq hk1).2 (by decide) (by decide) k) ?_
  show own_Run p e below s₁ (mkF m 76 #[.val (.ref a0), .val (.int p1), .val (.int p2), .val (.int (p2 &&& (3 : Int32))), .val (.int (own_ushr p2 (2 : Int32))), .unset] []) _
  refine own_step (fun t k => XS.iloadN X0.here hx rfl (hb hby own_d1_76) rfl  k) ?_
  show own_Run p e below s₁ (mkF m 77 #[.val (.ref a0), .val (.int p1), .val (.int p2), .val (.int (p2 &&& (3 : Int32))), .val (.int (own_ushr p2 (2 : Int32))), .unset] [(.int (p2 &&& (3 : Int32)))]) _
  refine own_step (fun t k => XS.iconst X0.here hx rfl (hb hby own_d1_77) k) ?_
  show own_Run p e below s₁ (mkF m 78 #[.val (.ref a0), .val (.int p1), .val (.int p2), .val (.int (p2 &&& (3 : Int32))), .val (.int (own_ushr p2 (2 : Int32))), .unset] [(.int (2 : Int32)), (.int (p2 &&& (3 : Int32)))]) _
  refine own_step (fun t k => XS.icmpNo X0.here hx rfl (hb hby own_d1_78) rfl (teq hk2).2 k) ?_
  show own_Run p e below s₁ (mkF m 81 #[.val (.ref a0), .val (.int p1), .val (.int p2), .val (.int (p2 &&& (3 : Int32))), .val (.int (own_ushr p2 (2 : Int32))), .unset] []) _
  refine own_step (fun t k => XS.sipush X0.here hx rfl (hb hby own_d1_81) k) ?_
  show own_Run p e below s₁ (mkF m 84 #[.val (.ref a0), .val (.int p1), .val (.int p2), .val (.int (p2 &&& (3 : Int32))), .val (.int (own_ushr p2 (2 : Int32))), .unset] [(.int (2048 : Int32))]) _
  refine own_step (fun t k => XS.iload X0.here hx rfl (hb hby own_d1_84) rfl  k) ?_
  show own_Run p e below s₁ (mkF m 86 #[.val (.ref a0), .val (.int p1), .val (.int p2), .val (.int (p2 &&& (3 : Int32))), .val (.int (own_ushr p2 (2 : Int32))), .unset] [(.int (own_ushr p2 (2 : Int32))), (.int (2048 : Int32))]) _
  refine own_step (fun t k => X0.ldcInt hx hown (mvT hZ (hw _ (List.mem_of_getElem? (i := 7) rfl))) (g := (mkF m 86 #[.val (.ref a0), .val (.int p1), .val (.int p2), .val (.int (p2 &&& (3 : Int32))), .val (.int (own_ushr p2 (2 : Int32))), .unset] [(.int (own_ushr p2 (2 : Int32))), (.int (2048 : Int32))])) rfl (hb hby own_d1_86) t k) ?_
  show own_Run p e below s₁ (mkF m 88 #[.val (.ref a0), .val (.int p1), .val (.int p2), .val (.int (p2 &&& (3 : Int32))), .val (.int (own_ushr p2 (2 : Int32))), .unset] [(.int (61440 : Int32)), (.int (own_ushr p2 (2 : Int32))), (.int (2048 : Int32))]) _
  refine own_step (fun t k => XS.irem X0.here hx rfl (hb hby own_d1_88) rfl (by decide) k) ?_
  show own_Run p e below s₁ (mkF m 89 #[.val (.ref a0), .val (.int p1), .val (.int p2), .val (.int (p2 &&& (3 : Int32))), .val (.int (own_ushr p2 (2 : Int32))), .unset] [(.int (own_rem (own_ushr p2 (2 : Int32)) (61440 : Int32))), (.int (2048 : Int32))]) _
  refine own_step (fun t k => XS.iadd X0.here hx rfl (hb hby own_d1_89) rfl k) ?_
  show own_Run p e below s₁ (mkF m 90 #[.val (.ref a0), .val (.int p1), .val (.int p2), .val (.int (p2 &&& (3 : Int32))), .val (.int (own_ushr p2 (2 : Int32))), .unset] [(.int ((2048 : Int32) + (own_rem (own_ushr p2 (2 : Int32)) (61440 : Int32))))]) _
  refine own_step (fun t k => XS.istore X0.here hx rfl (hb hby own_d1_90) rfl (l' := #[.val (.ref a0), .val (.int p1), .val (.int p2), .val (.int (p2 &&& (3 : Int32))), .val (.int (own_ushr p2 (2 : Int32))), .val (.int ((2048 : Int32) + (own_rem (own_ushr p2 (2 : Int32)) (61440 : Int32))))]) rfl k) ?_
  show own_Run p e below s₁ (mkF m 92 #[.val (.ref a0), .val (.int p1), .val (.int p2), .val (.int (p2 &&& (3 : Int32))), .val (.int (own_ushr p2 (2 : Int32))), .val (.int ((2048 : Int32) + (own_rem (own_ushr p2 (2 : Int32)) (61440 : Int32))))] []) _
  refine own_step (fun t k => XS.iload X0.here hx rfl (hb hby own_d1_92) rfl  k) ?_
  show own_Run p e below s₁ (mkF m 94 #[.val (.ref a0), .val (.int p1), .val (.int p2), .val (.int (p2 &&& (3 : Int32))), .val (.int (own_ushr p2 (2 : Int32))), .val (.int ((2048 : Int32) + (own_rem (own_ushr p2 (2 : Int32)) (61440 : Int32))))] [(.int ((2048 : Int32) + (own_rem (own_ushr p2 (2 : Int32)) (61440 : Int32))))]) _
  refine own_step (fun t k => X0.ldcInt hx hown (mvT hZ (hw _ (List.mem_of_getElem? (i := 8) rfl))) (g := (mkF m 94 #[.val (.ref a0), .val (.int p1), .val (.int p2), .val (.int (p2 &&& (3 : Int32))), .val (.int (own_ushr p2 (2 : Int32))), .val (.int ((2048 : Int32) + (own_rem (own_ushr p2 (2 : Int32)) (61440 : Int32))))] [(.int ((2048 : Int32) + (own_rem (own_ushr p2 (2 : Int32)) (61440 : Int32))))])) rfl (hb hby own_d1_94) t k) ?_
  show own_Run p e below s₁ (mkF m 96 #[.val (.ref a0), .val (.int p1), .val (.int p2), .val (.int (p2 &&& (3 : Int32))), .val (.int (own_ushr p2 (2 : Int32))), .val (.int ((2048 : Int32) + (own_rem (own_ushr p2 (2 : Int32)) (61440 : Int32))))] [(.int (55296 : Int32)), (.int ((2048 : Int32) + (own_rem (own_ushr p2 (2 : Int32)) (61440 : Int32))))]) _
  obtain ⟨_, st6, rfl⟩ : own_Run p e below s₁ (mkF m 96 #[.val (.ref a0), .val (.int p1), .val (.int p2), .val (.int (p2 &&& (3 : Int32))), .val (.int (own_ushr p2 (2 : Int32))), .val (.int ((2048 : Int32) + (own_rem (own_ushr p2 (2 : Int32)) (61440 : Int32))))] [(.int (55296 : Int32)), (.int ((2048 : Int32) + (own_rem (own_ushr p2 (2 : Int32)) (61440 : Int32))))]) (fun t => t = s₁.setTop (mkF m 107 #[.val (.ref a0), .val (.int p1), .val (.int p2), .val (.int (p2 &&& (3 : Int32))), .val (.int (own_ushr p2 (2 : Int32))), .val (.int (own_f1k2_j107_L5 p2))] [])) := by
    by_cases hc7 : ((2048 : Int32) + (own_rem (own_ushr p2 (2 : Int32)) (61440 : Int32))) < (55296 : Int32)
    · refine own_step (fun t k => XS.icmpYes X0.here hx rfl (pc0 := 96) (pc' := 107) rfl (hb hby own_d1_96) rfl (tlt hc7).1 (by decide) (by decide) k) ?_
      show own_Run p e below s₁ (mkF m 107 #[.val (.ref a0), .val (.int p1), .val (.int p2), .val (.int (p2 &&& (3 : Int32))), .val (.int (own_ushr p2 (2 : Int32))), .val (.int ((2048 : Int32) + (own_rem (own_ushr p2 (2 : Int32)) (61440 : Int32))))] []) _
      have hj0 : (own_f1k2_j107_L5 p2) = ((2048 : Int32) + (own_rem (own_ushr p2 (2 : Int32)) (61440 : Int32))) := (if_pos hc7)
      exact own_here (by rw [hj0] <;> rfl)
    · refine own_step (fun t k => XS.icmpNo X0.here hx rfl (hb hby own_d1_96) rfl (flt hc7).1 k) ?_
      show own_Run p e below s₁ (mkF m 99 #[.val (.ref a0), .val (.int p1), .val (.int p2), .val (.int (p2 &&& (3 : Int32))), .val (.int (own_ushr p2 (2 : Int32))), .val (.int ((2048 : Int32) + (own_rem (own_ushr p2 (2 : Int32)) (61440 : Int32))))] []) _
      refine own_step (fun t k => XS.iload X0.here hx rfl (hb hby own_d1_99) rfl  k) ?_
      show own_Run p e below s₁ (mkF m 101 #[.val (.ref a0), .val (.int p1), .val (.int p2), .val (.int (p2 &&& (3 : Int32))), .val (.int (own_ushr p2 (2 : Int32))), .val (.int ((2048 : Int32) + (own_rem (own_ushr p2 (2 : Int32)) (61440 : Int32))))] [(.int ((2048 : Int32) + (own_rem (own_ushr p2 (2 : Int32)) (61440 : Int32))))]) _
      refine own_step (fun t k => XS.sipush X0.here hx rfl (hb hby own_d1_101) k) ?_
      show own_Run p e below s₁ (mkF m 104 #[.val (.ref a0), .val (.int p1), .val (.int p2), .val (.int (p2 &&& (3 : Int32))), .val (.int (own_ushr p2 (2 : Int32))), .val (.int ((2048 : Int32) + (own_rem (own_ushr p2 (2 : Int32)) (61440 : Int32))))] [(.int (2048 : Int32)), (.int ((2048 : Int32) + (own_rem (own_ushr p2 (2 : Int32)) (61440 : Int32))))]) _
      refine own_step (fun t k => XS.iadd X0.here hx rfl (hb hby own_d1_104) rfl k) ?_
      show own_Run p e below s₁ (mkF m 105 #[.val (.ref a0), .val (.int p1), .val (.int p2), .val (.int (p2 &&& (3 : Int32))), .val (.int (own_ushr p2 (2 : Int32))), .val (.int ((2048 : Int32) + (own_rem (own_ushr p2 (2 : Int32)) (61440 : Int32))))] [(.int (((2048 : Int32) + (own_rem (own_ushr p2 (2 : Int32)) (61440 : Int32))) + (2048 : Int32)))]) _
      refine own_step (fun t k => XS.istore X0.here hx rfl (hb hby own_d1_105) rfl (l' := #[.val (.ref a0), .val (.int p1), .val (.int p2), .val (.int (p2 &&& (3 : Int32))), .val (.int (own_ushr p2 (2 : Int32))), .val (.int (((2048 : Int32) + (own_rem (own_ushr p2 (2 : Int32)) (61440 : Int32))) + (2048 : Int32)))]) rfl k) ?_
      show own_Run p e below s₁ (mkF m 107 #[.val (.ref a0), .val (.int p1), .val (.int p2), .val (.int (p2 &&& (3 : Int32))), .val (.int (own_ushr p2 (2 : Int32))), .val (.int (((2048 : Int32) + (own_rem (own_ushr p2 (2 : Int32)) (61440 : Int32))) + (2048 : Int32)))] []) _
      have hj0 : (own_f1k2_j107_L5 p2) = (((2048 : Int32) + (own_rem (own_ushr p2 (2 : Int32)) (61440 : Int32))) + (2048 : Int32)) := (if_neg hc7)
      exact own_here (by rw [hj0] <;> rfl)
  refine own_tr st6 ?_
  show own_Run p e below s₁ (mkF m 107 #[.val (.ref a0), .val (.int p1), .val (.int p2), .val (.int (p2 &&& (3 : Int32))), .val (.int (own_ushr p2 (2 : Int32))), .val (.int (own_f1k2_j107_L5 p2))] []) _
  refine own_step (fun t k => XS.aloadN X0.here hx rfl (hb hby own_d1_107) rfl rfl k) ?_
  show own_Run p e below s₁ (mkF m 108 #[.val (.ref a0), .val (.int p1), .val (.int p2), .val (.int (p2 &&& (3 : Int32))), .val (.int (own_ushr p2 (2 : Int32))), .val (.int (own_f1k2_j107_L5 p2))] [(.ref a0)]) _
  refine own_step (fun t k => XS.iloadN X0.here hx rfl (hb hby own_d1_108) rfl  k) ?_
  show own_Run p e below s₁ (mkF m 109 #[.val (.ref a0), .val (.int p1), .val (.int p2), .val (.int (p2 &&& (3 : Int32))), .val (.int (own_ushr p2 (2 : Int32))), .val (.int (own_f1k2_j107_L5 p2))] [(.int p1), (.ref a0)]) _
  refine own_step (fun t k => XS.sipush X0.here hx rfl (hb hby own_d1_109) k) ?_
  show own_Run p e below s₁ (mkF m 112 #[.val (.ref a0), .val (.int p1), .val (.int p2), .val (.int (p2 &&& (3 : Int32))), .val (.int (own_ushr p2 (2 : Int32))), .val (.int (own_f1k2_j107_L5 p2))] [(.int (224 : Int32)), (.int p1), (.ref a0)]) _
  refine own_step (fun t k => XS.iload X0.here hx rfl (hb hby own_d1_112) rfl  k) ?_
  show own_Run p e below s₁ (mkF m 114 #[.val (.ref a0), .val (.int p1), .val (.int p2), .val (.int (p2 &&& (3 : Int32))), .val (.int (own_ushr p2 (2 : Int32))), .val (.int (own_f1k2_j107_L5 p2))] [(.int (own_f1k2_j107_L5 p2)), (.int (224 : Int32)), (.int p1), (.ref a0)]) _
  refine own_step (fun t k => XS.bipush X0.here hx rfl (hb hby own_d1_114) k) ?_
  show own_Run p e below s₁ (mkF m 116 #[.val (.ref a0), .val (.int p1), .val (.int p2), .val (.int (p2 &&& (3 : Int32))), .val (.int (own_ushr p2 (2 : Int32))), .val (.int (own_f1k2_j107_L5 p2))] [(.int (12 : Int32)), (.int (own_f1k2_j107_L5 p2)), (.int (224 : Int32)), (.int p1), (.ref a0)]) _
  refine own_step (fun t k => XS.ishr X0.here hx rfl (hb hby own_d1_116) rfl k) ?_
  show own_Run p e below s₁ (mkF m 117 #[.val (.ref a0), .val (.int p1), .val (.int p2), .val (.int (p2 &&& (3 : Int32))), .val (.int (own_ushr p2 (2 : Int32))), .val (.int (own_f1k2_j107_L5 p2))] [(.int (own_shr (own_f1k2_j107_L5 p2) (12 : Int32))), (.int (224 : Int32)), (.int p1), (.ref a0)]) _
  refine own_step (fun t k => XS.ior X0.here hx rfl (hb hby own_d1_117) rfl k) ?_
  show own_Run p e below s₁ (mkF m 118 #[.val (.ref a0), .val (.int p1), .val (.int p2), .val (.int (p2 &&& (3 : Int32))), .val (.int (own_ushr p2 (2 : Int32))), .val (.int (own_f1k2_j107_L5 p2))] [(.int ((224 : Int32) ||| (own_shr (own_f1k2_j107_L5 p2) (12 : Int32)))), (.int p1), (.ref a0)]) _
  refine own_step (fun t k => XS.i2b X0.here hx rfl (hb hby own_d1_118) rfl k) ?_
  show own_Run p e below s₁ (mkF m 119 #[.val (.ref a0), .val (.int p1), .val (.int p2), .val (.int (p2 &&& (3 : Int32))), .val (.int (own_ushr p2 (2 : Int32))), .val (.int (own_f1k2_j107_L5 p2))] [(.int (((224 : Int32) ||| (own_shr (own_f1k2_j107_L5 p2) (12 : Int32)))).toInt8.toInt32), (.int p1), (.ref a0)]) _
  obtain ⟨T8, h8, L8, X8, e8, N8, W8, V8, st8⟩ := own_stB X0 hx hZ e0 V0 N0 g0 (j := p1) (own_ix0 hbd) (p1).toNatClampNeg rfl (by first | (rw [hl]; exact own_cl (own_ix0 hbd)) | (simp only [List.length_set]; rw [hl]; exact own_cl (own_ix0 hbd))) (g := (mkF m 119 #[.val (.ref a0), .val (.int p1), .val (.int p2), .val (.int (p2 &&& (3 : Int32))), .val (.int (own_ushr p2 (2 : Int32))), .val (.int (own_f1k2_j107_L5 p2))] [(.int (((224 : Int32) ||| (own_shr (own_f1k2_j107_L5 p2) (12 : Int32)))).toInt8.toInt32), (.int p1), (.ref a0)])) rfl rfl (hb hby own_d1_119)
  have V8x : Arv Z h8 a0 k0 .byte (20 : Int32) (vs.set (p1).toNatClampNeg (.int (nar .byte (((224 : Int32) ||| (own_shr (own_f1k2_j107_L5 p2) (12 : Int32)))).toInt8.toInt32))) (.int (0 : Int32)) := V8
  have Zn8 : n0 ≤ h8.size := Nat.le_trans Z0 (Keep.of_wr W8).1
  have K8 : Keep h0 h8 [a0] := (Keep.refl h0 [a0]).wr W8 (Or.inl (List.mem_of_getElem? (i := 0) rfl))
  refine own_step st8 ?_
  show own_Run p e below T8 (mkF m 120 #[.val (.ref a0), .val (.int p1), .val (.int p2), .val (.int (p2 &&& (3 : Int32))), .val (.int (own_ushr p2 (2 : Int32))), .val (.int (own_f1k2_j107_L5 p2))] []) _
  refine own_step (fun t k => XS.aloadN X8.here hx rfl (hb hby own_d1_120) rfl rfl k) ?_
  show own_Run p e below T8 (mkF m 121 #[.val (.ref a0), .val (.int p1), .val (.int p2), .val (.int (p2 &&& (3 : Int32))), .val (.int (own_ushr p2 (2 : Int32))), .val (.int (own_f1k2_j107_L5 p2))] [(.ref a0)]) _
  refine own_step (fun t k => XS.iloadN X8.here hx rfl (hb hby own_d1_121) rfl  k) ?_
  show own_Run p e below T8 (mkF m 122 #[.val (.ref a0), .val (.int p1), .val (.int p2), .val (.int (p2 &&& (3 : Int32))), .val (.int (own_ushr p2 (2 : Int32))), .val (.int (own_f1k2_j107_L5 p2))] [(.int p1), (.ref a0)]) _
  refine own_step (fun t k => XS.iconst X8.here hx rfl (hb hby own_d1_122) k) ?_
  show own_Run p e below T8 (mkF m 123 #[.val (.ref a0), .val (.int p1), .val (.int p2), .val (.int (p2 &&& (3 : Int32))), .val (.int (own_ushr p2 (2 : Int32))), .val (.int (own_f1k2_j107_L5 p2))] [(.int (1 : Int32)), (.int p1), (.ref a0)]) _
  refine own_step (fun t k => XS.iadd X8.here hx rfl (hb hby own_d1_123) rfl k) ?_
  show own_Run p e below T8 (mkF m 124 #[.val (.ref a0), .val (.int p1), .val (.int p2), .val (.int (p2 &&& (3 : Int32))), .val (.int (own_ushr p2 (2 : Int32))), .val (.int (own_f1k2_j107_L5 p2))] [(.int (p1 + (1 : Int32))), (.ref a0)]) _
  refine own_step (fun t k => XS.sipush X8.here hx rfl (hb hby own_d1_124) k) ?_
  show own_Run p e below T8 (mkF m 127 #[.val (.ref a0), .val (.int p1), .val (.int p2), .val (.int (p2 &&& (3 : Int32))), .val (.int (own_ushr p2 (2 : Int32))), .val (.int (own_f1k2_j107_L5 p2))] [(.int (128 : Int32)), (.int (p1 + (1 : Int32))), (.ref a0)]) _
  refine own_step (fun t k => XS.iload X8.here hx rfl (hb hby own_d1_127) rfl  k) ?_
  show own_Run p e below T8 (mkF m 129 #[.val (.ref a0), .val (.int p1), .val (.int p2), .val (.int (p2 &&& (3 : Int32))), .val (.int (own_ushr p2 (2 : Int32))), .val (.int (own_f1k2_j107_L5 p2))] [(.int (own_f1k2_j107_L5 p2)), (.int (128 : Int32)), (.int (p1 + (1 : Int32))), (.ref a0)]) _
  refine own_step (fun t k => XS.bipush X8.here hx rfl (hb hby own_d1_129) k) ?_
  show own_Run p e below T8 (mkF m 131 #[.val (.ref a0), .val (.int p1), .val (.int p2), .val (.int (p2 &&& (3 : Int32))), .val (.int (own_ushr p2 (2 : Int32))), .val (.int (own_f1k2_j107_L5 p2))] [(.int (6 : Int32)), (.int (own_f1k2_j107_L5 p2)), (.int (128 : Int32)), (.int (p1 + (1 : Int32))), (.ref a0)]) _
  refine own_step (fun t k => XS.ishr X8.here hx rfl (hb hby own_d1_131) rfl k) ?_
  show own_Run p e below T8 (mkF m 132 #[.val (.ref a0), .val (.int p1), .val (.int p2), .val (.int (p2 &&& (3 : Int32))), .val (.int (own_ushr p2 (2 : Int32))), .val (.int (own_f1k2_j107_L5 p2))] [(.int (own_shr (own_f1k2_j107_L5 p2) (6 : Int32))), (.int (128 : Int32)), (.int (p1 + (1 : Int32))), (.ref a0)]) _
  refine own_step (fun t k => XS.bipush X8.here hx rfl (hb hby own_d1_132) k) ?_
  show own_Run p e below T8 (mkF m 134 #[.val (.ref a0), .val (.int p1), .val (.int p2), .val (.int (p2 &&& (3 : Int32))), .val (.int (own_ushr p2 (2 : Int32))), .val (.int (own_f1k2_j107_L5 p2))] [(.int (63 : Int32)), (.int (own_shr (own_f1k2_j107_L5 p2) (6 : Int32))), (.int (128 : Int32)), (.int (p1 + (1 : Int32))), (.ref a0)]) _
  refine own_step (fun t k => XS.iand X8.here hx rfl (hb hby own_d1_134) rfl k) ?_
  show own_Run p e below T8 (mkF m 135 #[.val (.ref a0), .val (.int p1), .val (.int p2), .val (.int (p2 &&& (3 : Int32))), .val (.int (own_ushr p2 (2 : Int32))), .val (.int (own_f1k2_j107_L5 p2))] [(.int ((own_shr (own_f1k2_j107_L5 p2) (6 : Int32)) &&& (63 : Int32))), (.int (128 : Int32)), (.int (p1 + (1 : Int32))), (.ref a0)]) _
  refine own_step (fun t k => XS.ior X8.here hx rfl (hb hby own_d1_135) rfl k) ?_
  show own_Run p e below T8 (mkF m 136 #[.val (.ref a0), .val (.int p1), .val (.int p2), .val (.int (p2 &&& (3 : Int32))), .val (.int (own_ushr p2 (2 : Int32))), .val (.int (own_f1k2_j107_L5 p2))] [(.int ((128 : Int32) ||| ((own_shr (own_f1k2_j107_L5 p2) (6 : Int32)) &&& (63 : Int32)))), (.int (p1 + (1 : Int32))), (.ref a0)]) _
  refine own_step (fun t k => XS.i2b X8.here hx rfl (hb hby own_d1_136) rfl k) ?_
  show own_Run p e below T8 (mkF m 137 #[.val (.ref a0), .val (.int p1), .val (.int p2), .val (.int (p2 &&& (3 : Int32))), .val (.int (own_ushr p2 (2 : Int32))), .val (.int (own_f1k2_j107_L5 p2))] [(.int (((128 : Int32) ||| ((own_shr (own_f1k2_j107_L5 p2) (6 : Int32)) &&& (63 : Int32)))).toInt8.toInt32), (.int (p1 + (1 : Int32))), (.ref a0)]) _
  obtain ⟨T9, h9, L9, X9, e9, N9, W9, V9, st9⟩ := own_stB X8 hx hZ e8 V8x N8 g0 (j := (p1 + (1 : Int32))) (own_ix (1 : Int32) (by decide) hbd) ((p1 + (1 : Int32))).toNatClampNeg rfl (by first | (rw [hl]; exact own_cl (own_ix (1 : Int32) (by decide) hbd)) | (simp only [List.length_set]; rw [hl]; exact own_cl (own_ix (1 : Int32) (by decide) hbd))) (g := (mkF m 137 #[.val (.ref a0), .val (.int p1), .val (.int p2), .val (.int (p2 &&& (3 : Int32))), .val (.int (own_ushr p2 (2 : Int32))), .val (.int (own_f1k2_j107_L5 p2))] [(.int (((128 : Int32) ||| ((own_shr (own_f1k2_j107_L5 p2) (6 : Int32)) &&& (63 : Int32)))).toInt8.toInt32), (.int (p1 + (1 : Int32))), (.ref a0)])) rfl rfl (hb hby own_d1_137)
  have V9x : Arv Z h9 a0 k0 .byte (20 : Int32) ((vs.set (p1).toNatClampNeg (.int (nar .byte (((224 : Int32) ||| (own_shr (own_f1k2_j107_L5 p2) (12 : Int32)))).toInt8.toInt32))).set ((p1 + (1 : Int32))).toNatClampNeg (.int (nar .byte (((128 : Int32) ||| ((own_shr (own_f1k2_j107_L5 p2) (6 : Int32)) &&& (63 : Int32)))).toInt8.toInt32))) (.int (0 : Int32)) := V9
  have Zn9 : n0 ≤ h9.size := Nat.le_trans Zn8 (Keep.of_wr W9).1
  have K9 : Keep h0 h9 [a0] := K8.wr W9 (Or.inl (List.mem_of_getElem? (i := 0) rfl))
  refine own_step st9 ?_
  show own_Run p e below T9 (mkF m 138 #[.val (.ref a0), .val (.int p1), .val (.int p2), .val (.int (p2 &&& (3 : Int32))), .val (.int (own_ushr p2 (2 : Int32))), .val (.int (own_f1k2_j107_L5 p2))] []) _
  refine own_step (fun t k => XS.aloadN X9.here hx rfl (hb hby own_d1_138) rfl rfl k) ?_
  show own_Run p e below T9 (mkF m 139 #[.val (.ref a0), .val (.int p1), .val (.int p2), .val (.int (p2 &&& (3 : Int32))), .val (.int (own_ushr p2 (2 : Int32))), .val (.int (own_f1k2_j107_L5 p2))] [(.ref a0)]) _
  refine own_step (fun t k => XS.iloadN X9.here hx rfl (hb hby own_d1_139) rfl  k) ?_
  show own_Run p e below T9 (mkF m 140 #[.val (.ref a0), .val (.int p1), .val (.int p2), .val (.int (p2 &&& (3 : Int32))), .val (.int (own_ushr p2 (2 : Int32))), .val (.int (own_f1k2_j107_L5 p2))] [(.int p1), (.ref a0)]) _
  refine own_step (fun t k => XS.iconst X9.here hx rfl (hb hby own_d1_140) k) ?_
  show own_Run p e below T9 (mkF m 141 #[.val (.ref a0), .val (.int p1), .val (.int p2), .val (.int (p2 &&& (3 : Int32))), .val (.int (own_ushr p2 (2 : Int32))), .val (.int (own_f1k2_j107_L5 p2))] [(.int (2 : Int32)), (.int p1), (.ref a0)]) _
  refine own_step (fun t k => XS.iadd X9.here hx rfl (hb hby own_d1_141) rfl k) ?_
  show own_Run p e below T9 (mkF m 142 #[.val (.ref a0), .val (.int p1), .val (.int p2), .val (.int (p2 &&& (3 : Int32))), .val (.int (own_ushr p2 (2 : Int32))), .val (.int (own_f1k2_j107_L5 p2))] [(.int (p1 + (2 : Int32))), (.ref a0)]) _
  refine own_step (fun t k => XS.sipush X9.here hx rfl (hb hby own_d1_142) k) ?_
  show own_Run p e below T9 (mkF m 145 #[.val (.ref a0), .val (.int p1), .val (.int p2), .val (.int (p2 &&& (3 : Int32))), .val (.int (own_ushr p2 (2 : Int32))), .val (.int (own_f1k2_j107_L5 p2))] [(.int (128 : Int32)), (.int (p1 + (2 : Int32))), (.ref a0)]) _
  refine own_step (fun t k => XS.iload X9.here hx rfl (hb hby own_d1_145) rfl  k) ?_
  show own_Run p e below T9 (mkF m 147 #[.val (.ref a0), .val (.int p1), .val (.int p2), .val (.int (p2 &&& (3 : Int32))), .val (.int (own_ushr p2 (2 : Int32))), .val (.int (own_f1k2_j107_L5 p2))] [(.int (own_f1k2_j107_L5 p2)), (.int (128 : Int32)), (.int (p1 + (2 : Int32))), (.ref a0)]) _
  refine own_step (fun t k => XS.bipush X9.here hx rfl (hb hby own_d1_147) k) ?_
  show own_Run p e below T9 (mkF m 149 #[.val (.ref a0), .val (.int p1), .val (.int p2), .val (.int (p2 &&& (3 : Int32))), .val (.int (own_ushr p2 (2 : Int32))), .val (.int (own_f1k2_j107_L5 p2))] [(.int (63 : Int32)), (.int (own_f1k2_j107_L5 p2)), (.int (128 : Int32)), (.int (p1 + (2 : Int32))), (.ref a0)]) _
  refine own_step (fun t k => XS.iand X9.here hx rfl (hb hby own_d1_149) rfl k) ?_
  show own_Run p e below T9 (mkF m 150 #[.val (.ref a0), .val (.int p1), .val (.int p2), .val (.int (p2 &&& (3 : Int32))), .val (.int (own_ushr p2 (2 : Int32))), .val (.int (own_f1k2_j107_L5 p2))] [(.int ((own_f1k2_j107_L5 p2) &&& (63 : Int32))), (.int (128 : Int32)), (.int (p1 + (2 : Int32))), (.ref a0)]) _
  refine own_step (fun t k => XS.ior X9.here hx rfl (hb hby own_d1_150) rfl k) ?_
  show own_Run p e below T9 (mkF m 151 #[.val (.ref a0), .val (.int p1), .val (.int p2), .val (.int (p2 &&& (3 : Int32))), .val (.int (own_ushr p2 (2 : Int32))), .val (.int (own_f1k2_j107_L5 p2))] [(.int ((128 : Int32) ||| ((own_f1k2_j107_L5 p2) &&& (63 : Int32)))), (.int (p1 + (2 : Int32))), (.ref a0)]) _
  refine own_step (fun t k => XS.i2b X9.here hx rfl (hb hby own_d1_151) rfl k) ?_
  show own_Run p e below T9 (mkF m 152 #[.val (.ref a0), .val (.int p1), .val (.int p2), .val (.int (p2 &&& (3 : Int32))), .val (.int (own_ushr p2 (2 : Int32))), .val (.int (own_f1k2_j107_L5 p2))] [(.int (((128 : Int32) ||| ((own_f1k2_j107_L5 p2) &&& (63 : Int32)))).toInt8.toInt32), (.int (p1 + (2 : Int32))), (.ref a0)]) _
  obtain ⟨T10, h10, L10, X10, e10, N10, W10, V10, st10⟩ := own_stB X9 hx hZ e9 V9x N9 g0 (j := (p1 + (2 : Int32))) (own_ix (2 : Int32) (by decide) hbd) ((p1 + (2 : Int32))).toNatClampNeg rfl (by first | (rw [hl]; exact own_cl (own_ix (2 : Int32) (by decide) hbd)) | (simp only [List.length_set]; rw [hl]; exact own_cl (own_ix (2 : Int32) (by decide) hbd))) (g := (mkF m 152 #[.val (.ref a0), .val (.int p1), .val (.int p2), .val (.int (p2 &&& (3 : Int32))), .val (.int (own_ushr p2 (2 : Int32))), .val (.int (own_f1k2_j107_L5 p2))] [(.int (((128 : Int32) ||| ((own_f1k2_j107_L5 p2) &&& (63 : Int32)))).toInt8.toInt32), (.int (p1 + (2 : Int32))), (.ref a0)])) rfl rfl (hb hby own_d1_152)
  have V10x : Arv Z h10 a0 k0 .byte (20 : Int32) (((vs.set (p1).toNatClampNeg (.int (nar .byte (((224 : Int32) ||| (own_shr (own_f1k2_j107_L5 p2) (12 : Int32)))).toInt8.toInt32))).set ((p1 + (1 : Int32))).toNatClampNeg (.int (nar .byte (((128 : Int32) ||| ((own_shr (own_f1k2_j107_L5 p2) (6 : Int32)) &&& (63 : Int32)))).toInt8.toInt32))).set ((p1 + (2 : Int32))).toNatClampNeg (.int (nar .byte (((128 : Int32) ||| ((own_f1k2_j107_L5 p2) &&& (63 : Int32)))).toInt8.toInt32))) (.int (0 : Int32)) := V10
  have Zn10 : n0 ≤ h10.size := Nat.le_trans Zn9 (Keep.of_wr W10).1
  have K10 : Keep h0 h10 [a0] := K9.wr W10 (Or.inl (List.mem_of_getElem? (i := 0) rfl))
  refine own_step st10 ?_
  show own_Run p e below T10 (mkF m 153 #[.val (.ref a0), .val (.int p1), .val (.int p2), .val (.int (p2 &&& (3 : Int32))), .val (.int (own_ushr p2 (2 : Int32))), .val (.int (own_f1k2_j107_L5 p2))] []) _
  refine own_step (fun t k => XS.iloadN X10.here hx rfl (hb hby own_d1_153) rfl  k) ?_
  show own_Run p e below T10 (mkF m 154 #[.val (.ref a0), .val (.int p1), .val (.int p2), .val (.int (p2 &&& (3 : Int32))), .val (.int (own_ushr p2 (2 : Int32))), .val (.int (own_f1k2_j107_L5 p2))] [(.int p1)]) _
  refine own_step (fun t k => XS.iconst X10.here hx rfl (hb hby own_d1_154) k) ?_
  show own_Run p e below T10 (mkF m 155 #[.val (.ref a0), .val (.int p1), .val (.int p2), .val (.int (p2 &&& (3 : Int32))), .val (.int (own_ushr p2 (2 : Int32))), .val (.int (own_f1k2_j107_L5 p2))] [(.int (3 : Int32)), (.int p1)]) _
  refine own_step (fun t k => XS.iadd X10.here hx rfl (hb hby own_d1_155) rfl k) ?_
  show own_Run p e below T10 (mkF m 156 #[.val (.ref a0), .val (.int p1), .val (.int p2), .val (.int (p2 &&& (3 : Int32))), .val (.int (own_ushr p2 (2 : Int32))), .val (.int (own_f1k2_j107_L5 p2))] [(.int (p1 + (3 : Int32)))]) _
  exact own_retI X10 hx hlk hret (hb hby own_d1_156) (by decide) (by decide) N10 (by rw [e10]; exact ⟨K10, V10x⟩)
theorem own_d1_157 : decode method_3_code 157 = .ok (.ldc 20, 2) := by decide +kernel
theorem own_d1_159 : decode method_3_code 159 = .ok (.iload 4, 2) := by decide +kernel
theorem own_d1_161 : decode method_3_code 161 = .ok (.ldc 21, 2) := by decide +kernel
theorem own_d1_163 : decode method_3_code 163 = .ok (.irem, 1) := by decide +kernel
theorem own_d1_164 : decode method_3_code 164 = .ok (.iadd, 1) := by decide +kernel
theorem own_d1_165 : decode method_3_code 165 = .ok (.istore 5, 2) := by decide +kernel
theorem own_d1_167 : decode method_3_code 167 = .ok (.aload_n 0, 1) := by decide +kernel
theorem own_d1_168 : decode method_3_code 168 = .ok (.iload_n 1, 1) := by decide +kernel
theorem own_d1_169 : decode method_3_code 169 = .ok (.sipush 240, 3) := by decide +kernel
theorem own_d1_172 : decode method_3_code 172 = .ok (.iload 5, 2) := by decide +kernel
theorem own_d1_174 : decode method_3_code 174 = .ok (.bipush 18, 2) := by decide +kernel
theorem own_d1_176 : decode method_3_code 176 = .ok (.ishr, 1) := by decide +kernel
theorem own_d1_177 : decode method_3_code 177 = .ok (.ior, 1) := by decide +kernel
theorem own_d1_178 : decode method_3_code 178 = .ok (.i2b, 1) := by decide +kernel
theorem own_d1_179 : decode method_3_code 179 = .ok (.bastore, 1) := by decide +kernel
theorem own_d1_180 : decode method_3_code 180 = .ok (.aload_n 0, 1) := by decide +kernel
theorem own_d1_181 : decode method_3_code 181 = .ok (.iload_n 1, 1) := by decide +kernel
theorem own_d1_182 : decode method_3_code 182 = .ok (.iconst 1, 1) := by decide +kernel
theorem own_d1_183 : decode method_3_code 183 = .ok (.iadd, 1) := by decide +kernel
theorem own_d1_184 : decode method_3_code 184 = .ok (.sipush 128, 3) := by decide +kernel
theorem own_d1_187 : decode method_3_code 187 = .ok (.iload 5, 2) := by decide +kernel
theorem own_d1_189 : decode method_3_code 189 = .ok (.bipush 12, 2) := by decide +kernel
theorem own_d1_191 : decode method_3_code 191 = .ok (.ishr, 1) := by decide +kernel
theorem own_d1_192 : decode method_3_code 192 = .ok (.bipush 63, 2) := by decide +kernel
theorem own_d1_194 : decode method_3_code 194 = .ok (.iand, 1) := by decide +kernel
theorem own_d1_195 : decode method_3_code 195 = .ok (.ior, 1) := by decide +kernel
theorem own_d1_196 : decode method_3_code 196 = .ok (.i2b, 1) := by decide +kernel
theorem own_d1_197 : decode method_3_code 197 = .ok (.bastore, 1) := by decide +kernel
theorem own_d1_198 : decode method_3_code 198 = .ok (.aload_n 0, 1) := by decide +kernel
theorem own_d1_199 : decode method_3_code 199 = .ok (.iload_n 1, 1) := by decide +kernel
theorem own_d1_200 : decode method_3_code 200 = .ok (.iconst 2, 1) := by decide +kernel
theorem own_d1_201 : decode method_3_code 201 = .ok (.iadd, 1) := by decide +kernel
theorem own_d1_202 : decode method_3_code 202 = .ok (.sipush 128, 3) := by decide +kernel
theorem own_d1_205 : decode method_3_code 205 = .ok (.iload 5, 2) := by decide +kernel
theorem own_d1_207 : decode method_3_code 207 = .ok (.bipush 6, 2) := by decide +kernel
theorem own_d1_209 : decode method_3_code 209 = .ok (.ishr, 1) := by decide +kernel
theorem own_d1_210 : decode method_3_code 210 = .ok (.bipush 63, 2) := by decide +kernel
theorem own_d1_212 : decode method_3_code 212 = .ok (.iand, 1) := by decide +kernel
theorem own_d1_213 : decode method_3_code 213 = .ok (.ior, 1) := by decide +kernel
theorem own_d1_214 : decode method_3_code 214 = .ok (.i2b, 1) := by decide +kernel
theorem own_d1_215 : decode method_3_code 215 = .ok (.bastore, 1) := by decide +kernel
theorem own_d1_216 : decode method_3_code 216 = .ok (.aload_n 0, 1) := by decide +kernel
theorem own_d1_217 : decode method_3_code 217 = .ok (.iload_n 1, 1) := by decide +kernel
theorem own_d1_218 : decode method_3_code 218 = .ok (.iconst 3, 1) := by decide +kernel
theorem own_d1_219 : decode method_3_code 219 = .ok (.iadd, 1) := by decide +kernel
theorem own_d1_220 : decode method_3_code 220 = .ok (.sipush 128, 3) := by decide +kernel
theorem own_d1_223 : decode method_3_code 223 = .ok (.iload 5, 2) := by decide +kernel
theorem own_d1_225 : decode method_3_code 225 = .ok (.bipush 63, 2) := by decide +kernel
theorem own_d1_227 : decode method_3_code 227 = .ok (.iand, 1) := by decide +kernel
theorem own_d1_228 : decode method_3_code 228 = .ok (.ior, 1) := by decide +kernel
theorem own_d1_229 : decode method_3_code 229 = .ok (.i2b, 1) := by decide +kernel
theorem own_d1_230 : decode method_3_code 230 = .ok (.bastore, 1) := by decide +kernel
theorem own_d1_231 : decode method_3_code 231 = .ok (.iload_n 1, 1) := by decide +kernel
theorem own_d1_232 : decode method_3_code 232 = .ok (.iconst 4, 1) := by decide +kernel
theorem own_d1_233 : decode method_3_code 233 = .ok (.iadd, 1) := by decide +kernel
theorem own_d1_234 : decode method_3_code 234 = .ok (.ireturn, 1) := by decide +kernel
def own_r1k3 (p1 : Int32) (p2 : Int32) : Int32 := (p1 + (4 : Int32))
theorem own_ef1k3 (m : MethodId) (a0 : Addr) (p1 : Int32) (p2 : Int32) : entryFrame m #[(.ref a0), (.int p1), (.int p2)] 6 = (mkF m 0 #[.val (.ref a0), .val (.int p1), .val (.int p2), .unset, .unset, .unset] []) := by first | (simp [entryFrame, mkF, argsToLocals, Value.category]; done) | rfl
set_option maxRecDepth 65536 in
set_option maxHeartbeats 40000000 in
theorem rm1k3 (l : Launch) (Z : State) (av0 : Array Value) (hw : ∀ d ∈ tables_1, d.before av0 Z = true) (ws : List Jvm.Cond) (a0 : Addr) (p1 : Int32) (p2 : Int32) (k0 : ClassId) (vs : List Value) (h0 : Heap) (n0 : Nat) (Z0 : n0 ≤ h0.size) (hbd : 0 ≤ p1.toInt ∧ p1.toInt ≤ 16) (hl : vs.length = 20) (g0 : n0 ≤ a0) (hk0 : ¬ (p2 &&& (3 : Int32)) = (0 : Int32)) (hk1 : ¬ (p2 &&& (3 : Int32)) = (1 : Int32)) (hk2 : ¬ (p2 &&& (3 : Int32)) = (2 : Int32)) (V0 : Arv Z h0 a0 k0 .byte (20 : Int32) vs (.int (0 : Int32))) :
    MetFree l (⟨"com/example/fuxi/fuxi/codec/Utf8CodePointCountPinLaw", "put", "([BII)I"⟩ : MethodName) (head1 (Jvm.Cond.code (⟨"com/example/fuxi/fuxi/codec/Utf8CodePointCountPinLaw", "put", "([BII)I"⟩ : MethodName) method_3_code 6 (some .int) :: ws) ({ frames := 0, cells := 0, slots := 0, locals := 0 } : Room)) (fun a U => a = #[(.ref a0), (.int p1), (.int p2)] ∧ Z.Warmed39 U.vm ∧ U.heap = h0) (fun _ _ _ _ _ => True) (fun _ U o U' => ∃ v L, o = .returned v ∧ own_Q n0 (fun h => Keep h0 h [a0] ∧ Arv Z h a0 k0 .byte (20 : Int32) ((((vs.set (p1).toNatClampNeg (.int (nar .byte (((240 : Int32) ||| (own_shr ((65536 : Int32) + (own_rem (own_ushr p2 (2 : Int32)) (1048576 : Int32))) (18 : Int32)))).toInt8.toInt32))).set ((p1 + (1 : Int32))).toNatClampNeg (.int (nar .byte (((128 : Int32) ||| ((own_shr ((65536 : Int32) + (own_rem (own_ushr p2 (2 : Int32)) (1048576 : Int32))) (12 : Int32)) &&& (63 : Int32)))).toInt8.toInt32))).set ((p1 + (2 : Int32))).toNatClampNeg (.int (nar .byte (((128 : Int32) ||| ((own_shr ((65536 : Int32) + (own_rem (own_ushr p2 (2 : Int32)) (1048576 : Int32))) (6 : Int32)) &&& (63 : Int32)))).toInt8.toInt32))).set ((p1 + (3 : Int32))).toNatClampNeg (.int (nar .byte (((128 : Int32) ||| (((65536 : Int32) + (own_rem (own_ushr p2 (2 : Int32)) (1048576 : Int32))) &&& (63 : Int32)))).toInt8.toInt32))) (.int (0 : Int32))) (some (.int (own_r1k3 p1 p2))) v U'.heap L ∧ FrameEnd U o U' L ({ frames := 0, cells := 0, slots := 0, locals := 0 } : Room).cells ({ frames := 0, cells := 0, slots := 0, locals := 0 } : Room).slots) := by
  refine MetFree.of_bodySF (plainFor_of_name own_pn0) hisR ?_
  intro p e s m args below meth c s₁ Bd hml0 hP hK
  obtain ⟨rfl, hZ, hh⟩ := hP
  have hx := Bd.exec
  have hby := Bd.bytes
  have hml : c.maxLocals = 6 := hml0
  have hown : s.vm.findClass "com/example/fuxi/fuxi/codec/Utf8CodePointCountPinLaw" = some m.cls := findClass_of_methodNamed Bd.named
  have hnm := (name_of_methodNamed Bd.named Bd.method).1
  have hret := Bd.returns
  have hlk : meth.locks = false := BodyLoose.notSynchronized Bd
  have X0 : Stand p l e ({ frames := 0, cells := 0, slots := 0, locals := 0 } : Room) s m #[(.ref a0), (.int p1), (.int p2)] below meth c s₁ [] 0 0 := Stand.of_body Bd
  have e0 : s₁.heap = h0 := by rw [← hh, Bd.state]; rfl
  have N0 := Fr.nil n0
  clear Bd hh hK
  refine own_fin ?_
  refine own_entry (own_ef1k3 m a0 p1 p2) ?_
  show own_Run p e below s₁ _ (own_Ret _ s below _ _ (own_Q n0 _ (some (.int (p1 + (4 : Int32))))))
  show own_Run p e below s₁ (mkF m 0 #[.val (.ref a0), .val (.int p1), .val (.int p2), .unset, .unset, .unset] []) _
  refine own_step (fun t k => XS.iloadN X0.here hx rfl (hb hby own_d1_0) rfl  k) ?_
  show own_Run p e below s₁ (mkF m 1 #[.val (.ref a0), .val (.int p1), .val (.int p2), .unset, .unset, .unset] [(.int p2)]) _
  refine own_step (fun t k => XS.iconst X0.here hx rfl (hb hby own_d1_1) k) ?_
  show own_Run p e below s₁ (mkF m 2 #[.val (.ref a0), .val (.int p1), .val (.int p2), .unset, .unset, .unset] [(.int (3 : Int32)), (.int p2)]) _
  refine own_step (fun t k => XS.iand X0.here hx rfl (hb hby own_d1_2) rfl k) ?_
  show own_Run p e below s₁ (mkF m 3 #[.val (.ref a0), .val (.int p1), .val (.int p2), .unset, .unset, .unset] [(.int (p2 &&& (3 : Int32)))]) _
  refine own_step (fun t k => XS.istoreN X0.here hx rfl (hb hby own_d1_3) rfl (l' := #[.val (.ref a0), .val (.int p1), .val (.int p2), .val (.int (p2 &&& (3 : Int32))), .unset, .unset]) rfl k) ?_
  show own_Run p e below s₁ (mkF m 4 #[.val (.ref a0), .val (.int p1), .val (.int p2), .val (.int (p2 &&& (3 : Int32))), .unset, .unset] []) _
  refine own_step (fun t k => XS.iloadN X0.here hx rfl (hb hby own_d1_4) rfl  k) ?_
  show own_Run p e below s₁ (mkF m 5 #[.val (.ref a0), .val (.int p1), .val (.int p2), .val (.int (p2 &&& (3 : Int32))), .unset, .unset] [(.int p2)]) _
  refine own_step (fun t k => XS.iconst X0.here hx rfl (hb hby own_d1_5) k) ?_
  show own_Run p e below s₁ (mkF m 6 #[.val (.ref a0), .val (.int p1), .val (.int p2), .val (.int (p2 &&& (3 : Int32))), .unset, .unset] [(.int (2 : Int32)), (.int p2)]) _
  refine own_step (fun t k => XS.iushr X0.here hx rfl (hb hby own_d1_6) rfl k) ?_
  show own_Run p e below s₁ (mkF m 7 #[.val (.ref a0), .val (.int p1), .val (.int p2), .val (.int (p2 &&& (3 : Int32))), .unset, .unset] [(.int (own_ushr p2 (2 : Int32)))]) _
  refine own_step (fun t k => XS.istore X0.here hx rfl (hb hby own_d1_7) rfl (l' := #[.val (.ref a0), .val (.int p1), .val (.int p2), .val (.int (p2 &&& (3 : Int32))), .val (.int (own_ushr p2 (2 : Int32))), .unset]) rfl k) ?_
  show own_Run p e below s₁ (mkF m 9 #[.val (.ref a0), .val (.int p1), .val (.int p2), .val (.int (p2 &&& (3 : Int32))), .val (.int (own_ushr p2 (2 : Int32))), .unset] []) _
  refine own_step (fun t k => XS.iloadN X0.here hx rfl (hb hby own_d1_9) rfl  k) ?_
  show own_Run p e below s₁ (mkF m 10 #[.val (.ref a0), .val (.int p1), .val (.int p2), .val (.int (p2 &&& (3 : Int32))), .val (.int (own_ushr p2 (2 : Int32))), .unset] [(.int (p2 &&& (3 : Int32)))]) _
  refine own_step (fun t k => XS.ifYes X0.here hx rfl (pc0 := 10) (pc' := 27) rfl (hb hby own_d1_10) rfl ((if0 _ _).trans (feq hk0).2) (by decide) (by decide) k) ?_
  show own_Run p e below s₁ (mkF m 27 #[.val (.ref a0), .val (.int p1), .val (.int p2), .val (.int (p2 &&& (3 : Int32))), .val (.int (own_ushr p2 (2 : Int32))), .unset] []) _
  refine own_step (fun t k => XS.iloadN X0.here hx rfl (hb hby own_d1_27) rfl  k) ?_
  show own_Run p e below s₁ (mkF m 28 #[.val (.ref a0), .val (.int p1), .val (.int p2), .val (.int (p2 &&& (3 : Int32))), .val (.int (own_ushr p2 (2 : Int32))), .unset] [(.int (p2 &&& (3 : Int32)))]) _
  refine own_step (fun t k => XS.iconst X0.here hx rfl (hb hby own_d1_28) k) ?_
  show own_Run p e below s₁ (mkF m 29 #[.val (.ref a0), .val (.int p1), .val (.int p2), .val (.int (p2 &&& (3 : Int32))), .val (.int (own_ushr p2 (2 : Int32))), .unset] [(.int (1 : Int32)), (.int (p2 &&& (3 : Int32)))]) _
  refine own_step (fun t k => XS.icmpYes X0.here hx rfl (pc0 := 29) (pc' := 76) rfl (hb hby own_d1_29) rfl (feq hk1).2 (by decide) (by decide) k) ?_
  show own_Run p e below s₁ (mkF m 76 #[.val (.ref a0), .val (.int p1), .val (.int p2), .val (.int (p2 &&& (3 : Int32))), .val (.int (own_ushr p2 (2 : Int32))), .unset] []) _
  refine own_step (fun t k => XS.iloadN X0.here hx rfl (hb hby own_d1_76) rfl  k) ?_
  show own_Run p e below s₁ (mkF m 77 #[.val (.ref a0), .val (.int p1), .val (.int p2), .val (.int (p2 &&& (3 : Int32))), .val (.int (own_ushr p2 (2 : Int32))), .unset] [(.int (p2 &&& (3 : Int32)))]) _
  refine own_step (fun t k => XS.iconst X0.here hx rfl (hb hby own_d1_77) k) ?_
  show own_Run p e below s₁ (mkF m 78 #[.val (.ref a0), .val (.int p1), .val (.int p2), .val (.int (p2 &&& (3 : Int32))), .val (.int (own_ushr p2 (2 : Int32))), .unset] [(.int (2 : Int32)), (.int (p2 &&& (3 : Int32)))]) _
  refine own_step (fun t k => XS.icmpYes X0.here hx rfl (pc0 := 78) (pc' := 157) rfl (hb hby own_d1_78) rfl (feq hk2).2 (by decide) (by decide) k) ?_
  show own_Run p e below s₁ (mkF m 157 #[.val (.ref a0), .val (.int p1), .val (.int p2), .val (.int (p2 &&& (3 : Int32))), .val (.int (own_ushr p2 (2 : Int32))), .unset] []) _
  refine own_step (fun t k => X0.ldcInt hx hown (mvT hZ (hw _ (List.mem_of_getElem? (i := 5) rfl))) (g := (mkF m 157 #[.val (.ref a0), .val (.int p1), .val (.int p2), .val (.int (p2 &&& (3 : Int32))), .val (.int (own_ushr p2 (2 : Int32))), .unset] [])) rfl (hb hby own_d1_157) t k) ?_
  show own_Run p e below s₁ (mkF m 159 #[.val (.ref a0), .val (.int p1), .val (.int p2), .val (.int (p2 &&& (3 : Int32))), .val (.int (own_ushr p2 (2 : Int32))), .unset] [(.int (65536 : Int32))]) _
  refine own_step (fun t k => XS.iload X0.here hx rfl (hb hby own_d1_159) rfl  k) ?_
  show own_Run p e below s₁ (mkF m 161 #[.val (.ref a0), .val (.int p1), .val (.int p2), .val (.int (p2 &&& (3 : Int32))), .val (.int (own_ushr p2 (2 : Int32))), .unset] [(.int (own_ushr p2 (2 : Int32))), (.int (65536 : Int32))]) _
  refine own_step (fun t k => X0.ldcInt hx hown (mvT hZ (hw _ (List.mem_of_getElem? (i := 6) rfl))) (g := (mkF m 161 #[.val (.ref a0), .val (.int p1), .val (.int p2), .val (.int (p2 &&& (3 : Int32))), .val (.int (own_ushr p2 (2 : Int32))), .unset] [(.int (own_ushr p2 (2 : Int32))), (.int (65536 : Int32))])) rfl (hb hby own_d1_161) t k) ?_
  show own_Run p e below s₁ (mkF m 163 #[.val (.ref a0), .val (.int p1), .val (.int p2), .val (.int (p2 &&& (3 : Int32))), .val (.int (own_ushr p2 (2 : Int32))), .unset] [(.int (1048576 : Int32)), (.int (own_ushr p2 (2 : Int32))), (.int (65536 : Int32))]) _
  refine own_step (fun t k => XS.irem X0.here hx rfl (hb hby own_d1_163) rfl (by decide) k) ?_
  show own_Run p e below s₁ (mkF m 164 #[.val (.ref a0), .val (.int p1), .val (.int p2), .val (.int (p2 &&& (3 : Int32))), .val (.int (own_ushr p2 (2 : Int32))), .unset] [(.int (own_rem (own_ushr p2 (2 : Int32)) (1048576 : Int32))), (.int (65536 : Int32))]) _
  refine own_step (fun t k => XS.iadd X0.here hx rfl (hb hby own_d1_164) rfl k) ?_
  show own_Run p e below s₁ (mkF m 165 #[.val (.ref a0), .val (.int p1), .val (.int p2), .val (.int (p2 &&& (3 : Int32))), .val (.int (own_ushr p2 (2 : Int32))), .unset] [(.int ((65536 : Int32) + (own_rem (own_ushr p2 (2 : Int32)) (1048576 : Int32))))]) _
  refine own_step (fun t k => XS.istore X0.here hx rfl (hb hby own_d1_165) rfl (l' := #[.val (.ref a0), .val (.int p1), .val (.int p2), .val (.int (p2 &&& (3 : Int32))), .val (.int (own_ushr p2 (2 : Int32))), .val (.int ((65536 : Int32) + (own_rem (own_ushr p2 (2 : Int32)) (1048576 : Int32))))]) rfl k) ?_
  show own_Run p e below s₁ (mkF m 167 #[.val (.ref a0), .val (.int p1), .val (.int p2), .val (.int (p2 &&& (3 : Int32))), .val (.int (own_ushr p2 (2 : Int32))), .val (.int ((65536 : Int32) + (own_rem (own_ushr p2 (2 : Int32)) (1048576 : Int32))))] []) _
  refine own_step (fun t k => XS.aloadN X0.here hx rfl (hb hby own_d1_167) rfl rfl k) ?_
  show own_Run p e below s₁ (mkF m 168 #[.val (.ref a0), .val (.int p1), .val (.int p2), .val (.int (p2 &&& (3 : Int32))), .val (.int (own_ushr p2 (2 : Int32))), .val (.int ((65536 : Int32) + (own_rem (own_ushr p2 (2 : Int32)) (1048576 : Int32))))] [(.ref a0)]) _
  refine own_step (fun t k => XS.iloadN X0.here hx rfl (hb hby own_d1_168) rfl  k) ?_
  show own_Run p e below s₁ (mkF m 169 #[.val (.ref a0), .val (.int p1), .val (.int p2), .val (.int (p2 &&& (3 : Int32))), .val (.int (own_ushr p2 (2 : Int32))), .val (.int ((65536 : Int32) + (own_rem (own_ushr p2 (2 : Int32)) (1048576 : Int32))))] [(.int p1), (.ref a0)]) _
  refine own_step (fun t k => XS.sipush X0.here hx rfl (hb hby own_d1_169) k) ?_
  show own_Run p e below s₁ (mkF m 172 #[.val (.ref a0), .val (.int p1), .val (.int p2), .val (.int (p2 &&& (3 : Int32))), .val (.int (own_ushr p2 (2 : Int32))), .val (.int ((65536 : Int32) + (own_rem (own_ushr p2 (2 : Int32)) (1048576 : Int32))))] [(.int (240 : Int32)), (.int p1), (.ref a0)]) _
  refine own_step (fun t k => XS.iload X0.here hx rfl (hb hby own_d1_172) rfl  k) ?_
  show own_Run p e below s₁ (mkF m 174 #[.val (.ref a0), .val (.int p1), .val (.int p2), .val (.int (p2 &&& (3 : Int32))), .val (.int (own_ushr p2 (2 : Int32))), .val (.int ((65536 : Int32) + (own_rem (own_ushr p2 (2 : Int32)) (1048576 : Int32))))] [(.int ((65536 : Int32) + (own_rem (own_ushr p2 (2 : Int32)) (1048576 : Int32)))), (.int (240 : Int32)), (.int p1), (.ref a0)]) _
  refine own_step (fun t k => XS.bipush X0.here hx rfl (hb hby own_d1_174) k) ?_
  show own_Run p e below s₁ (mkF m 176 #[.val (.ref a0), .val (.int p1), .val (.int p2), .val (.int (p2 &&& (3 : Int32))), .val (.int (own_ushr p2 (2 : Int32))), .val (.int ((65536 : Int32) + (own_rem (own_ushr p2 (2 : Int32)) (1048576 : Int32))))] [(.int (18 : Int32)), (.int ((65536 : Int32) + (own_rem (own_ushr p2 (2 : Int32)) (1048576 : Int32)))), (.int (240 : Int32)), (.int p1), (.ref a0)]) _
  refine own_step (fun t k => XS.ishr X0.here hx rfl (hb hby own_d1_176) rfl k) ?_
  show own_Run p e below s₁ (mkF m 177 #[.val (.ref a0), .val (.int p1), .val (.int p2), .val (.int (p2 &&& (3 : Int32))), .val (.int (own_ushr p2 (2 : Int32))), .val (.int ((65536 : Int32) + (own_rem (own_ushr p2 (2 : Int32)) (1048576 : Int32))))] [(.int (own_shr ((65536 : Int32) + (own_rem (own_ushr p2 (2 : Int32)) (1048576 : Int32))) (18 : Int32))), (.int (240 : Int32)), (.int p1), (.ref a0)]) _
  refine own_step (fun t k => XS.ior X0.here hx rfl (hb hby own_d1_177) rfl k) ?_
  show own_Run p e below s₁ (mkF m 178 #[.val (.ref a0), .val (.int p1), .val (.int p2), .val (.int (p2 &&& (3 : Int32))), .val (.int (own_ushr p2 (2 : Int32))), .val (.int ((65536 : Int32) + (own_rem (own_ushr p2 (2 : Int32)) (1048576 : Int32))))] [(.int ((240 : Int32) ||| (own_shr ((65536 : Int32) + (own_rem (own_ushr p2 (2 : Int32)) (1048576 : Int32))) (18 : Int32)))), (.int p1), (.ref a0)]) _
  refine own_step (fun t k => XS.i2b X0.here hx rfl (hb hby own_d1_178) rfl k) ?_
  show own_Run p e below s₁ (mkF m 179 #[.val (.ref a0), .val (.int p1), .val (.int p2), .val (.int (p2 &&& (3 : Int32))), .val (.int (own_ushr p2 (2 : Int32))), .val (.int ((65536 : Int32) + (own_rem (own_ushr p2 (2 : Int32)) (1048576 : Int32))))] [(.int (((240 : Int32) ||| (own_shr ((65536 : Int32) + (own_rem (own_ushr p2 (2 : Int32)) (1048576 : Int32))) (18 : Int32)))).toInt8.toInt32), (.int p1), (.ref a0)]) _
  obtain ⟨T5, h5, L5, X5, e5, N5, W5, V5, st5⟩ := own_stB X0 hx hZ e0 V0 N0 g0 (j := p1) (own_ix0 hbd) (p1).toNatClampNeg rfl (by first | (rw [hl]; exact own_cl (own_ix0 hbd)) | (simp only [List.length_set]; rw [hl]; exact own_cl (own_ix0 hbd))) (g := (mkF m 179 #[.val (.ref a0), .val (.int p1), .val (.int p2), .val (.int (p2 &&& (3 : Int32))), .val (.int (own_ushr p2 (2 : Int32))), .val (.int ((65536 : Int32) + (own_rem (own_ushr p2 (2 : Int32)) (1048576 : Int32))))] [(.int (((240 : Int32) ||| (own_shr ((65536 : Int32) + (own_rem (own_ushr p2 (2 : Int32)) (1048576 : Int32))) (18 : Int32)))).toInt8.toInt32), (.int p1), (.ref a0)])) rfl rfl (hb hby own_d1_179)
  have V5x : Arv Z h5 a0 k0 .byte (20 : Int32) (vs.set (p1).toNatClampNeg (.int (nar .byte (((240 : Int32) ||| (own_shr ((65536 : Int32) + (own_rem (own_ushr p2 (2 : Int32)) (1048576 : Int32))) (18 : Int32)))).toInt8.toInt32))) (.int (0 : Int32)) := V5
  have Zn5 : n0 ≤ h5.size := Nat.le_trans Z0 (Keep.of_wr W5).1
  have K5 : Keep h0 h5 [a0] := (Keep.refl h0 [a0]).wr W5 (Or.inl (List.mem_of_getElem? (i := 0) rfl))
  refine own_step st5 ?_
  show own_Run p e below T5 (mkF m 180 #[.val (.ref a0), .val (.int p1), .val (.int p2), .val (.int (p2 &&& (3 : Int32))), .val (.int (own_ushr p2 (2 : Int32))), .val (.int ((65536 : Int32) + (own_rem (own_ushr p2 (2 : Int32)) (1048576 : Int32))))] []) _
  refine own_step (fun t k => XS.aloadN X5.here hx rfl (hb hby own_d1_180) rfl rfl k) ?_
  show own_Run p e below T5 (mkF m 181 #[.val (.ref a0), .val (.int p1), .val (.int p2), .val (.int (p2 &&& (3 : Int32))), .val (.int (own_ushr p2 (2 : Int32))), .val (.int ((65536 : Int32) + (own_rem (own_ushr p2 (2 : Int32)) (1048576 : Int32))))] [(.ref a0)]) _
  refine own_step (fun t k => XS.iloadN X5.here hx rfl (hb hby own_d1_181) rfl  k) ?_
  show own_Run p e below T5 (mkF m 182 #[.val (.ref a0), .val (.int p1), .val (.int p2), .val (.int (p2 &&& (3 : Int32))), .val (.int (own_ushr p2 (2 : Int32))), .val (.int ((65536 : Int32) + (own_rem (own_ushr p2 (2 : Int32)) (1048576 : Int32))))] [(.int p1), (.ref a0)]) _
  refine own_step (fun t k => XS.iconst X5.here hx rfl (hb hby own_d1_182) k) ?_
  show own_Run p e below T5 (mkF m 183 #[.val (.ref a0), .val (.int p1), .val (.int p2), .val (.int (p2 &&& (3 : Int32))), .val (.int (own_ushr p2 (2 : Int32))), .val (.int ((65536 : Int32) + (own_rem (own_ushr p2 (2 : Int32)) (1048576 : Int32))))] [(.int (1 : Int32)), (.int p1), (.ref a0)]) _
  refine own_step (fun t k => XS.iadd X5.here hx rfl (hb hby own_d1_183) rfl k) ?_
  show own_Run p e below T5 (mkF m 184 #[.val (.ref a0), .val (.int p1), .val (.int p2), .val (.int (p2 &&& (3 : Int32))), .val (.int (own_ushr p2 (2 : Int32))), .val (.int ((65536 : Int32) + (own_rem (own_ushr p2 (2 : Int32)) (1048576 : Int32))))] [(.int (p1 + (1 : Int32))), (.ref a0)]) _
  refine own_step (fun t k => XS.sipush X5.here hx rfl (hb hby own_d1_184) k) ?_
  show own_Run p e below T5 (mkF m 187 #[.val (.ref a0), .val (.int p1), .val (.int p2), .val (.int (p2 &&& (3 : Int32))), .val (.int (own_ushr p2 (2 : Int32))), .val (.int ((65536 : Int32) + (own_rem (own_ushr p2 (2 : Int32)) (1048576 : Int32))))] [(.int (128 : Int32)), (.int (p1 + (1 : Int32))), (.ref a0)]) _
  refine own_step (fun t k => XS.iload X5.here hx rfl (hb hby own_d1_187) rfl  k) ?_
  show own_Run p e below T5 (mkF m 189 #[.val (.ref a0), .val (.int p1), .val (.int p2), .val (.int (p2 &&& (3 : Int32))), .val (.int (own_ushr p2 (2 : Int32))), .val (.int ((65536 : Int32) + (own_rem (own_ushr p2 (2 : Int32)) (1048576 : Int32))))] [(.int ((65536 : Int32) + (own_rem (own_ushr p2 (2 : Int32)) (1048576 : Int32)))), (.int (128 : Int32)), (.int (p1 + (1 : Int32))), (.ref a0)]) _
  refine own_step (fun t k => XS.bipush X5.here hx rfl (hb hby own_d1_189) k) ?_
  show own_Run p e below T5 (mkF m 191 #[.val (.ref a0), .val (.int p1), .val (.int p2), .val (.int (p2 &&& (3 : Int32))), .val (.int (own_ushr p2 (2 : Int32))), .val (.int ((65536 : Int32) + (own_rem (own_ushr p2 (2 : Int32)) (1048576 : Int32))))] [(.int (12 : Int32)), (.int ((65536 : Int32) + (own_rem (own_ushr p2 (2 : Int32)) (1048576 : Int32)))), (.int (128 : Int32)), (.int (p1 + (1 : Int32))), (.ref a0)]) _
  refine own_step (fun t k => XS.ishr X5.here hx rfl (hb hby own_d1_191) rfl k) ?_
  show own_Run p e below T5 (mkF m 192 #[.val (.ref a0), .val (.int p1), .val (.int p2), .val (.int (p2 &&& (3 : Int32))), .val (.int (own_ushr p2 (2 : Int32))), .val (.int ((65536 : Int32) + (own_rem (own_ushr p2 (2 : Int32)) (1048576 : Int32))))] [(.int (own_shr ((65536 : Int32) + (own_rem (own_ushr p2 (2 : Int32)) (1048576 : Int32))) (12 : Int32))), (.int (128 : Int32)), (.int (p1 + (1 : Int32))), (.ref a0)]) _
  refine own_step (fun t k => XS.bipush X5.here hx rfl (hb hby own_d1_192) k) ?_
  show own_Run p e below T5 (mkF m 194 #[.val (.ref a0), .val (.int p1), .val (.int p2), .val (.int (p2 &&& (3 : Int32))), .val (.int (own_ushr p2 (2 : Int32))), .val (.int ((65536 : Int32) + (own_rem (own_ushr p2 (2 : Int32)) (1048576 : Int32))))] [(.int (63 : Int32)), (.int (own_shr ((65536 : Int32) + (own_rem (own_ushr p2 (2 : Int32)) (1048576 : Int32))) (12 : Int32))), (.int (128 : Int32)), (.int (p1 + (1 : Int32))), (.ref a0)]) _
  refine own_step (fun t k => XS.iand X5.here hx rfl (hb hby own_d1_194) rfl k) ?_
  show own_Run p e below T5 (mkF m 195 #[.val (.ref a0), .val (.int p1), .val (.int p2), .val (.int (p2 &&& (3 : Int32))), .val (.int (own_ushr p2 (2 : Int32))), .val (.int ((65536 : Int32) + (own_rem (own_ushr p2 (2 : Int32)) (1048576 : Int32))))] [(.int ((own_shr ((65536 : Int32) + (own_rem (own_ushr p2 (2 : Int32)) (1048576 : Int32))) (12 : Int32)) &&& (63 : Int32))), (.int (128 : Int32)), (.int (p1 + (1 : Int32))), (.ref a0)]) _
  refine own_step (fun t k => XS.ior X5.here hx rfl (hb hby own_d1_195) rfl k) ?_
  show own_Run p e below T5 (mkF m 196 #[.val (.ref a0), .val (.int p1), .val (.int p2), .val (.int (p2 &&& (3 : Int32))), .val (.int (own_ushr p2 (2 : Int32))), .val (.int ((65536 : Int32) + (own_rem (own_ushr p2 (2 : Int32)) (1048576 : Int32))))] [(.int ((128 : Int32) ||| ((own_shr ((65536 : Int32) + (own_rem (own_ushr p2 (2 : Int32)) (1048576 : Int32))) (12 : Int32)) &&& (63 : Int32)))), (.int (p1 + (1 : Int32))), (.ref a0)]) _
  refine own_step (fun t k => XS.i2b X5.here hx rfl (hb hby own_d1_196) rfl k) ?_
  show own_Run p e below T5 (mkF m 197 #[.val (.ref a0), .val (.int p1), .val (.int p2), .val (.int (p2 &&& (3 : Int32))), .val (.int (own_ushr p2 (2 : Int32))), .val (.int ((65536 : Int32) + (own_rem (own_ushr p2 (2 : Int32)) (1048576 : Int32))))] [(.int (((128 : Int32) ||| ((own_shr ((65536 : Int32) + (own_rem (own_ushr p2 (2 : Int32)) (1048576 : Int32))) (12 : Int32)) &&& (63 : Int32)))).toInt8.toInt32), (.int (p1 + (1 : Int32))), (.ref a0)]) _
  obtain ⟨T6, h6, L6, X6, e6, N6, W6, V6, st6⟩ := own_stB X5 hx hZ e5 V5x N5 g0 (j := (p1 + (1 : Int32))) (own_ix (1 : Int32) (by decide) hbd) ((p1 + (1 : Int32))).toNatClampNeg rfl (by first | (rw [hl]; exact own_cl (own_ix (1 : Int32) (by decide) hbd)) | (simp only [List.length_set]; rw [hl]; exact own_cl (own_ix (1 : Int32) (by decide) hbd))) (g := (mkF m 197 #[.val (.ref a0), .val (.int p1), .val (.int p2), .val (.int (p2 &&& (3 : Int32))), .val (.int (own_ushr p2 (2 : Int32))), .val (.int ((65536 : Int32) + (own_rem (own_ushr p2 (2 : Int32)) (1048576 : Int32))))] [(.int (((128 : Int32) ||| ((own_shr ((65536 : Int32) + (own_rem (own_ushr p2 (2 : Int32)) (1048576 : Int32))) (12 : Int32)) &&& (63 : Int32)))).toInt8.toInt32), (.int (p1 + (1 : Int32))), (.ref a0)])) rfl rfl (hb hby own_d1_197)
  have V6x : Arv Z h6 a0 k0 .byte (20 : Int32) ((vs.set (p1).toNatClampNeg (.int (nar .byte (((240 : Int32) ||| (own_shr ((65536 : Int32) + (own_rem (own_ushr p2 (2 : Int32)) (1048576 : Int32))) (18 : Int32)))).toInt8.toInt32))).set ((p1 + (1 : Int32))).toNatClampNeg (.int (nar .byte (((128 : Int32) ||| ((own_shr ((65536 : Int32) + (own_rem (own_ushr p2 (2 : Int32)) (1048576 : Int32))) (12 : Int32)) &&& (63 : Int32)))).toInt8.toInt32))) (.int (0 : Int32)) := V6
  have Zn6 : n0 ≤ h6.size := Nat.le_trans Zn5 (Keep.of_wr W6).1
  have K6 : Keep h0 h6 [a0] := K5.wr W6 (Or.inl (List.mem_of_getElem? (i := 0) rfl))
  refine own_step st6 ?_
  show own_Run p e below T6 (mkF m 198 #[.val (.ref a0), .val (.int p1), .val (.int p2), .val (.int (p2 &&& (3 : Int32))), .val (.int (own_ushr p2 (2 : Int32))), .val (.int ((65536 : Int32) + (own_rem (own_ushr p2 (2 : Int32)) (1048576 : Int32))))] []) _
  refine own_step (fun t k => XS.aloadN X6.here hx rfl (hb hby own_d1_198) rfl rfl k) ?_
  show own_Run p e below T6 (mkF m 199 #[.val (.ref a0), .val (.int p1), .val (.int p2), .val (.int (p2 &&& (3 : Int32))), .val (.int (own_ushr p2 (2 : Int32))), .val (.int ((65536 : Int32) + (own_rem (own_ushr p2 (2 : Int32)) (1048576 : Int32))))] [(.ref a0)]) _
  refine own_step (fun t k => XS.iloadN X6.here hx rfl (hb hby own_d1_199) rfl  k) ?_
  show own_Run p e below T6 (mkF m 200 #[.val (.ref a0), .val (.int p1), .val (.int p2), .val (.int (p2 &&& (3 : Int32))), .val (.int (own_ushr p2 (2 : Int32))), .val (.int ((65536 : Int32) + (own_rem (own_ushr p2 (2 : Int32)) (1048576 : Int32))))] [(.int p1), (.ref a0)]) _
  refine own_step (fun t k => XS.iconst X6.here hx rfl (hb hby own_d1_200) k) ?_
  show own_Run p e below T6 (mkF m 201 #[.val (.ref a0), .val (.int p1), .val (.int p2), .val (.int (p2 &&& (3 : Int32))), .val (.int (own_ushr p2 (2 : Int32))), .val (.int ((65536 : Int32) + (own_rem (own_ushr p2 (2 : Int32)) (1048576 : Int32))))] [(.int (2 : Int32)), (.int p1), (.ref a0)]) _
  refine own_step (fun t k => XS.iadd X6.here hx rfl (hb hby own_d1_201) rfl k) ?_
  show own_Run p e below T6 (mkF m 202 #[.val (.ref a0), .val (.int p1), .val (.int p2), .val (.int (p2 &&& (3 : Int32))), .val (.int (own_ushr p2 (2 : Int32))), .val (.int ((65536 : Int32) + (own_rem (own_ushr p2 (2 : Int32)) (1048576 : Int32))))] [(.int (p1 + (2 : Int32))), (.ref a0)]) _
  refine own_step (fun t k => XS.sipush X6.here hx rfl (hb hby own_d1_202) k) ?_
  show own_Run p e below T6 (mkF m 205 #[.val (.ref a0), .val (.int p1), .val (.int p2), .val (.int (p2 &&& (3 : Int32))), .val (.int (own_ushr p2 (2 : Int32))), .val (.int ((65536 : Int32) + (own_rem (own_ushr p2 (2 : Int32)) (1048576 : Int32))))] [(.int (128 : Int32)), (.int (p1 + (2 : Int32))), (.ref a0)]) _
  refine own_step (fun t k => XS.iload X6.here hx rfl (hb hby own_d1_205) rfl  k) ?_
  show own_Run p e below T6 (mkF m 207 #[.val (.ref a0), .val (.int p1), .val (.int p2), .val (.int (p2 &&& (3 : Int32))), .val (.int (own_ushr p2 (2 : Int32))), .val (.int ((65536 : Int32) + (own_rem (own_ushr p2 (2 : Int32)) (1048576 : Int32))))] [(.int ((65536 : Int32) + (own_rem (own_ushr p2 (2 : Int32)) (1048576 : Int32)))), (.int (128 : Int32)), (.int (p1 + (2 : Int32))), (.ref a0)]) _
  refine own_step (fun t k => XS.bipush X6.here hx rfl (hb hby own_d1_207) k) ?_
  show own_Run p e below T6 (mkF m 209 #[.val (.ref a0), .val (.int p1), .val (.int p2), .val (.int (p2 &&& (3 : Int32))), .val (.int (own_ushr p2 (2 : Int32))), .val (.int ((65536 : Int32) + (own_rem (own_ushr p2 (2 : Int32)) (1048576 : Int32))))] [(.int (6 : Int32)), (.int ((65536 : Int32) + (own_rem (own_ushr p2 (2 : Int32)) (1048576 : Int32)))), (.int (128 : Int32)), (.int (p1 + (2 : Int32))), (.ref a0)]) _
  refine own_step (fun t k => XS.ishr X6.here hx rfl (hb hby own_d1_209) rfl k) ?_
  show own_Run p e below T6 (mkF m 210 #[.val (.ref a0), .val (.int p1), .val (.int p2), .val (.int (p2 &&& (3 : Int32))), .val (.int (own_ushr p2 (2 : Int32))), .val (.int ((65536 : Int32) + (own_rem (own_ushr p2 (2 : Int32)) (1048576 : Int32))))] [(.int (own_shr ((65536 : Int32) + (own_rem (own_ushr p2 (2 : Int32)) (1048576 : Int32))) (6 : Int32))), (.int (128 : Int32)), (.int (p1 + (2 : Int32))), (.ref a0)]) _
  refine own_step (fun t k => XS.bipush X6.here hx rfl (hb hby own_d1_210) k) ?_
  show own_Run p e below T6 (mkF m 212 #[.val (.ref a0), .val (.int p1), .val (.int p2), .val (.int (p2 &&& (3 : Int32))), .val (.int (own_ushr p2 (2 : Int32))), .val (.int ((65536 : Int32) + (own_rem (own_ushr p2 (2 : Int32)) (1048576 : Int32))))] [(.int (63 : Int32)), (.int (own_shr ((65536 : Int32) + (own_rem (own_ushr p2 (2 : Int32)) (1048576 : Int32))) (6 : Int32))), (.int (128 : Int32)), (.int (p1 + (2 : Int32))), (.ref a0)]) _
  refine own_step (fun t k => XS.iand X6.here hx rfl (hb hby own_d1_212) rfl k) ?_
  show own_Run p e below T6 (mkF m 213 #[.val (.ref a0), .val (.int p1), .val (.int p2), .val (.int (p2 &&& (3 : Int32))), .val (.int (own_ushr p2 (2 : Int32))), .val (.int ((65536 : Int32) + (own_rem (own_ushr p2 (2 : Int32)) (1048576 : Int32))))] [(.int ((own_shr ((65536 : Int32) + (own_rem (own_ushr p2 (2 : Int32)) (1048576 : Int32))) (6 : Int32)) &&& (63 : Int32))), (.int (128 : Int32)), (.int (p1 + (2 : Int32))), (.ref a0)]) _
  refine own_step (fun t k => XS.ior X6.here hx rfl (hb hby own_d1_213) rfl k) ?_
  show own_Run p e below T6 (mkF m 214 #[.val (.ref a0), .val (.int p1), .val (.int p2), .val (.int (p2 &&& (3 : Int32))), .val (.int (own_ushr p2 (2 : Int32))), .val (.int ((65536 : Int32) + (own_rem (own_ushr p2 (2 : Int32)) (1048576 : Int32))))] [(.int ((128 : Int32) ||| ((own_shr ((65536 : Int32) + (own_rem (own_ushr p2 (2 : Int32)) (1048576 : Int32))) (6 : Int32)) &&& (63 : Int32)))), (.int (p1 + (2 : Int32))), (.ref a0)]) _
  refine own_step (fun t k => XS.i2b X6.here hx rfl (hb hby own_d1_214) rfl k) ?_
  show own_Run p e below T6 (mkF m 215 #[.val (.ref a0), .val (.int p1), .val (.int p2), .val (.int (p2 &&& (3 : Int32))), .val (.int (own_ushr p2 (2 : Int32))), .val (.int ((65536 : Int32) + (own_rem (own_ushr p2 (2 : Int32)) (1048576 : Int32))))] [(.int (((128 : Int32) ||| ((own_shr ((65536 : Int32) + (own_rem (own_ushr p2 (2 : Int32)) (1048576 : Int32))) (6 : Int32)) &&& (63 : Int32)))).toInt8.toInt32), (.int (p1 + (2 : Int32))), (.ref a0)]) _
  obtain ⟨T7, h7, L7, X7, e7, N7, W7, V7, st7⟩ := own_stB X6 hx hZ e6 V6x N6 g0 (j := (p1 + (2 : Int32))) (own_ix (2 : Int32) (by decide) hbd) ((p1 + (2 : Int32))).toNatClampNeg rfl (by first | (rw [hl]; exact own_cl (own_ix (2 : Int32) (by decide) hbd)) | (simp only [List.length_set]; rw [hl]; exact own_cl (own_ix (2 : Int32) (by decide) hbd))) (g := (mkF m 215 #[.val (.ref a0), .val (.int p1), .val (.int p2), .val (.int (p2 &&& (3 : Int32))), .val (.int (own_ushr p2 (2 : Int32))), .val (.int ((65536 : Int32) + (own_rem (own_ushr p2 (2 : Int32)) (1048576 : Int32))))] [(.int (((128 : Int32) ||| ((own_shr ((65536 : Int32) + (own_rem (own_ushr p2 (2 : Int32)) (1048576 : Int32))) (6 : Int32)) &&& (63 : Int32)))).toInt8.toInt32), (.int (p1 + (2 : Int32))), (.ref a0)])) rfl rfl (hb hby own_d1_215)
  have V7x : Arv Z h7 a0 k0 .byte (20 : Int32) (((vs.set (p1).toNatClampNeg (.int (nar .byte (((240 : Int32) ||| (own_shr ((65536 : Int32) + (own_rem (own_ushr p2 (2 : Int32)) (1048576 : Int32))) (18 : Int32)))).toInt8.toInt32))).set ((p1 + (1 : Int32))).toNatClampNeg (.int (nar .byte (((128 : Int32) ||| ((own_shr ((65536 : Int32) + (own_rem (own_ushr p2 (2 : Int32)) (1048576 : Int32))) (12 : Int32)) &&& (63 : Int32)))).toInt8.toInt32))).set ((p1 + (2 : Int32))).toNatClampNeg (.int (nar .byte (((128 : Int32) ||| ((own_shr ((65536 : Int32) + (own_rem (own_ushr p2 (2 : Int32)) (1048576 : Int32))) (6 : Int32)) &&& (63 : Int32)))).toInt8.toInt32))) (.int (0 : Int32)) := V7
  have Zn7 : n0 ≤ h7.size := Nat.le_trans Zn6 (Keep.of_wr W7).1
  have K7 : Keep h0 h7 [a0] := K6.wr W7 (Or.inl (List.mem_of_getElem? (i := 0) rfl))
  refine own_step st7 ?_
  show own_Run p e below T7 (mkF m 216 #[.val (.ref a0), .val (.int p1), .val (.int p2), .val (.int (p2 &&& (3 : Int32))), .val (.int (own_ushr p2 (2 : Int32))), .val (.int ((65536 : Int32) + (own_rem (own_ushr p2 (2 : Int32)) (1048576 : Int32))))] []) _
  refine own_step (fun t k => XS.aloadN X7.here hx rfl (hb hby own_d1_216) rfl rfl k) ?_
  show own_Run p e below T7 (mkF m 217 #[.val (.ref a0), .val (.int p1), .val (.int p2), .val (.int (p2 &&& (3 : Int32))), .val (.int (own_ushr p2 (2 : Int32))), .val (.int ((65536 : Int32) + (own_rem (own_ushr p2 (2 : Int32)) (1048576 : Int32))))] [(.ref a0)]) _
  refine own_step (fun t k => XS.iloadN X7.here hx rfl (hb hby own_d1_217) rfl  k) ?_
  show own_Run p e below T7 (mkF m 218 #[.val (.ref a0), .val (.int p1), .val (.int p2), .val (.int (p2 &&& (3 : Int32))), .val (.int (own_ushr p2 (2 : Int32))), .val (.int ((65536 : Int32) + (own_rem (own_ushr p2 (2 : Int32)) (1048576 : Int32))))] [(.int p1), (.ref a0)]) _
  refine own_step (fun t k => XS.iconst X7.here hx rfl (hb hby own_d1_218) k) ?_
  show own_Run p e below T7 (mkF m 219 #[.val (.ref a0), .val (.int p1), .val (.int p2), .val (.int (p2 &&& (3 : Int32))), .val (.int (own_ushr p2 (2 : Int32))), .val (.int ((65536 : Int32) + (own_rem (own_ushr p2 (2 : Int32)) (1048576 : Int32))))] [(.int (3 : Int32)), (.int p1), (.ref a0)]) _
  refine own_step (fun t k => XS.iadd X7.here hx rfl (hb hby own_d1_219) rfl k) ?_
  show own_Run p e below T7 (mkF m 220 #[.val (.ref a0), .val (.int p1), .val (.int p2), .val (.int (p2 &&& (3 : Int32))), .val (.int (own_ushr p2 (2 : Int32))), .val (.int ((65536 : Int32) + (own_rem (own_ushr p2 (2 : Int32)) (1048576 : Int32))))] [(.int (p1 + (3 : Int32))), (.ref a0)]) _
  refine own_step (fun t k => XS.sipush X7.here hx rfl (hb hby own_d1_220) k) ?_
  show own_Run p e below T7 (mkF m 223 #[.val (.ref a0), .val (.int p1), .val (.int p2), .val (.int (p2 &&& (3 : Int32))), .val (.int (own_ushr p2 (2 : Int32))), .val (.int ((65536 : Int32) + (own_rem (own_ushr p2 (2 : Int32)) (1048576 : Int32))))] [(.int (128 : Int32)), (.int (p1 + (3 : Int32))), (.ref a0)]) _
  refine own_step (fun t k => XS.iload X7.here hx rfl (hb hby own_d1_223) rfl  k) ?_
  show own_Run p e below T7 (mkF m 225 #[.val (.ref a0), .val (.int p1), .val (.int p2), .val (.int (p2 &&& (3 : Int32))), .val (.int (own_ushr p2 (2 : Int32))), .val (.int ((65536 : Int32) + (own_rem (own_ushr p2 (2 : Int32)) (1048576 : Int32))))] [(.int ((65536 : Int32) + (own_rem (own_ushr p2 (2 : Int32)) (1048576 : Int32)))), (.int (128 : Int32)), (.int (p1 + (3 : Int32))), (.ref a0)]) _
  refine own_step (fun t k => XS.bipush X7.here hx rfl (hb hby own_d1_225) k) ?_
  show own_Run p e below T7 (mkF m 227 #[.val (.ref a0), .val (.int p1), .val (.int p2), .val (.int (p2 &&& (3 : Int32))), .val (.int (own_ushr p2 (2 : Int32))), .val (.int ((65536 : Int32) + (own_rem (own_ushr p2 (2 : Int32)) (1048576 : Int32))))] [(.int (63 : Int32)), (.int ((65536 : Int32) + (own_rem (own_ushr p2 (2 : Int32)) (1048576 : Int32)))), (.int (128 : Int32)), (.int (p1 + (3 : Int32))), (.ref a0)]) _
  refine own_step (fun t k => XS.iand X7.here hx rfl (hb hby own_d1_227) rfl k) ?_
  show own_Run p e below T7 (mkF m 228 #[.val (.ref a0), .val (.int p1), .val (.int p2), .val (.int (p2 &&& (3 : Int32))), .val (.int (own_ushr p2 (2 : Int32))), .val (.int ((65536 : Int32) + (own_rem (own_ushr p2 (2 : Int32)) (1048576 : Int32))))] [(.int (((65536 : Int32) + (own_rem (own_ushr p2 (2 : Int32)) (1048576 : Int32))) &&& (63 : Int32))), (.int (128 : Int32)), (.int (p1 + (3 : Int32))), (.ref a0)]) _
  refine own_step (fun t k => XS.ior X7.here hx rfl (hb hby own_d1_228) rfl k) ?_
  show own_Run p e below T7 (mkF m 229 #[.val (.ref a0), .val (.int p1), .val (.int p2), .val (.int (p2 &&& (3 : Int32))), .val (.int (own_ushr p2 (2 : Int32))), .val (.int ((65536 : Int32) + (own_rem (own_ushr p2 (2 : Int32)) (1048576 : Int32))))] [(.int ((128 : Int32) ||| (((65536 : Int32) + (own_rem (own_ushr p2 (2 : Int32)) (1048576 : Int32))) &&& (63 : Int32)))), (.int (p1 + (3 : Int32))), (.ref a0)]) _
  refine own_step (fun t k => XS.i2b X7.here hx rfl (hb hby own_d1_229) rfl k) ?_
  show own_Run p e below T7 (mkF m 230 #[.val (.ref a0), .val (.int p1), .val (.int p2), .val (.int (p2 &&& (3 : Int32))), .val (.int (own_ushr p2 (2 : Int32))), .val (.int ((65536 : Int32) + (own_rem (own_ushr p2 (2 : Int32)) (1048576 : Int32))))] [(.int (((128 : Int32) ||| (((65536 : Int32) + (own_rem (own_ushr p2 (2 : Int32)) (1048576 : Int32))) &&& (63 : Int32)))).toInt8.toInt32), (.int (p1 + (3 : Int32))), (.ref a0)]) _
  obtain ⟨T8, h8, L8, X8, e8, N8, W8, V8, st8⟩ := own_stB X7 hx hZ e7 V7x N7 g0 (j := (p1 + (3 : Int32))) (own_ix (3 : Int32) (by decide) hbd) ((p1 + (3 : Int32))).toNatClampNeg rfl (by first | (rw [hl]; exact own_cl (own_ix (3 : Int32) (by decide) hbd)) | (simp only [List.length_set]; rw [hl]; exact own_cl (own_ix (3 : Int32) (by decide) hbd))) (g := (mkF m 230 #[.val (.ref a0), .val (.int p1), .val (.int p2), .val (.int (p2 &&& (3 : Int32))), .val (.int (own_ushr p2 (2 : Int32))), .val (.int ((65536 : Int32) + (own_rem (own_ushr p2 (2 : Int32)) (1048576 : Int32))))] [(.int (((128 : Int32) ||| (((65536 : Int32) + (own_rem (own_ushr p2 (2 : Int32)) (1048576 : Int32))) &&& (63 : Int32)))).toInt8.toInt32), (.int (p1 + (3 : Int32))), (.ref a0)])) rfl rfl (hb hby own_d1_230)
  have V8x : Arv Z h8 a0 k0 .byte (20 : Int32) ((((vs.set (p1).toNatClampNeg (.int (nar .byte (((240 : Int32) ||| (own_shr ((65536 : Int32) + (own_rem (own_ushr p2 (2 : Int32)) (1048576 : Int32))) (18 : Int32)))).toInt8.toInt32))).set ((p1 + (1 : Int32))).toNatClampNeg (.int (nar .byte (((128 : Int32) ||| ((own_shr ((65536 : Int32) + (own_rem (own_ushr p2 (2 : Int32)) (1048576 : Int32))) (12 : Int32)) &&& (63 : Int32)))).toInt8.toInt32))).set ((p1 + (2 : Int32))).toNatClampNeg (.int (nar .byte (((128 : Int32) ||| ((own_shr ((65536 : Int32) + (own_rem (own_ushr p2 (2 : Int32)) (1048576 : Int32))) (6 : Int32)) &&& (63 : Int32)))).toInt8.toInt32))).set ((p1 + (3 : Int32))).toNatClampNeg (.int (nar .byte (((128 : Int32) ||| (((65536 : Int32) + (own_rem (own_ushr p2 (2 : Int32)) (1048576 : Int32))) &&& (63 : Int32)))).toInt8.toInt32))) (.int (0 : Int32)) := V8
  have Zn8 : n0 ≤ h8.size := Nat.le_trans Zn7 (Keep.of_wr W8).1
  have K8 : Keep h0 h8 [a0] := K7.wr W8 (Or.inl (List.mem_of_getElem? (i := 0) rfl))
  refine own_step st8 ?_
  show own_Run p e below T8 (mkF m 231 #[.val (.ref a0), .val (.int p1), .val (.int p2), .val (.int (p2 &&& (3 : Int32))), .val (.int (own_ushr p2 (2 : Int32))), .val (.int ((65536 : Int32) + (own_rem (own_ushr p2 (2 : Int32)) (1048576 : Int32))))] []) _
  refine own_step (fun t k => XS.iloadN X8.here hx rfl (hb hby own_d1_231) rfl  k) ?_
  show own_Run p e below T8 (mkF m 232 #[.val (.ref a0), .val (.int p1), .val (.int p2), .val (.int (p2 &&& (3 : Int32))), .val (.int (own_ushr p2 (2 : Int32))), .val (.int ((65536 : Int32) + (own_rem (own_ushr p2 (2 : Int32)) (1048576 : Int32))))] [(.int p1)]) _
  refine own_step (fun t k => XS.iconst X8.here hx rfl (hb hby own_d1_232) k) ?_
  show own_Run p e below T8 (mkF m 233 #[.val (.ref a0), .val (.int p1), .val (.int p2), .val (.int (p2 &&& (3 : Int32))), .val (.int (own_ushr p2 (2 : Int32))), .val (.int ((65536 : Int32) + (own_rem (own_ushr p2 (2 : Int32)) (1048576 : Int32))))] [(.int (4 : Int32)), (.int p1)]) _
  refine own_step (fun t k => XS.iadd X8.here hx rfl (hb hby own_d1_233) rfl k) ?_
  show own_Run p e below T8 (mkF m 234 #[.val (.ref a0), .val (.int p1), .val (.int p2), .val (.int (p2 &&& (3 : Int32))), .val (.int (own_ushr p2 (2 : Int32))), .val (.int ((65536 : Int32) + (own_rem (own_ushr p2 (2 : Int32)) (1048576 : Int32))))] [(.int (p1 + (4 : Int32)))]) _
  exact own_retI X8 hx hlk hret (hb hby own_d1_234) (by decide) (by decide) N8 (by rw [e8]; exact ⟨K8, V8x⟩)
def own_r1 (p1 p2 : Int32) : Int32 := (if (p2 &&& (3 : Int32)) = (0 : Int32) then (own_r1k0 p1 p2) else (if (p2 &&& (3 : Int32)) = (1 : Int32) then (own_r1k1 p1 p2) else (if (p2 &&& (3 : Int32)) = (2 : Int32) then (own_r1k2 p1 p2) else (own_r1k3 p1 p2))))
def own_pl0 (vs : List Value) (p1 p2 : Int32) : List Value := (vs.set (p1).toNatClampNeg (.int (nar .byte ((own_rem (own_ushr p2 (2 : Int32)) (128 : Int32))).toInt8.toInt32)))
def own_pl1 (vs : List Value) (p1 p2 : Int32) : List Value := ((vs.set (p1).toNatClampNeg (.int (nar .byte (((192 : Int32) ||| (own_shr ((128 : Int32) + (own_rem (own_ushr p2 (2 : Int32)) (1920 : Int32))) (6 : Int32)))).toInt8.toInt32))).set ((p1 + (1 : Int32))).toNatClampNeg (.int (nar .byte (((128 : Int32) ||| (((128 : Int32) + (own_rem (own_ushr p2 (2 : Int32)) (1920 : Int32))) &&& (63 : Int32)))).toInt8.toInt32)))
def own_pl2 (vs : List Value) (p1 p2 : Int32) : List Value := (((vs.set (p1).toNatClampNeg (.int (nar .byte (((224 : Int32) ||| (own_shr (own_f1k2_j107_L5 p2) (12 : Int32)))).toInt8.toInt32))).set ((p1 + (1 : Int32))).toNatClampNeg (.int (nar .byte (((128 : Int32) ||| ((own_shr (own_f1k2_j107_L5 p2) (6 : Int32)) &&& (63 : Int32)))).toInt8.toInt32))).set ((p1 + (2 : Int32))).toNatClampNeg (.int (nar .byte (((128 : Int32) ||| ((own_f1k2_j107_L5 p2) &&& (63 : Int32)))).toInt8.toInt32)))
def own_pl3 (vs : List Value) (p1 p2 : Int32) : List Value := ((((vs.set (p1).toNatClampNeg (.int (nar .byte (((240 : Int32) ||| (own_shr ((65536 : Int32) + (own_rem (own_ushr p2 (2 : Int32)) (1048576 : Int32))) (18 : Int32)))).toInt8.toInt32))).set ((p1 + (1 : Int32))).toNatClampNeg (.int (nar .byte (((128 : Int32) ||| ((own_shr ((65536 : Int32) + (own_rem (own_ushr p2 (2 : Int32)) (1048576 : Int32))) (12 : Int32)) &&& (63 : Int32)))).toInt8.toInt32))).set ((p1 + (2 : Int32))).toNatClampNeg (.int (nar .byte (((128 : Int32) ||| ((own_shr ((65536 : Int32) + (own_rem (own_ushr p2 (2 : Int32)) (1048576 : Int32))) (6 : Int32)) &&& (63 : Int32)))).toInt8.toInt32))).set ((p1 + (3 : Int32))).toNatClampNeg (.int (nar .byte (((128 : Int32) ||| (((65536 : Int32) + (own_rem (own_ushr p2 (2 : Int32)) (1048576 : Int32))) &&& (63 : Int32)))).toInt8.toInt32)))
def own_pl (vs : List Value) (p1 p2 : Int32) : List Value := (if (p2 &&& (3 : Int32)) = (0 : Int32) then (own_pl0 vs p1 p2) else (if (p2 &&& (3 : Int32)) = (1 : Int32) then (own_pl1 vs p1 p2) else (if (p2 &&& (3 : Int32)) = (2 : Int32) then (own_pl2 vs p1 p2) else (own_pl3 vs p1 p2))))
theorem rm1 (l : Launch) (Z : State) (a00 : Array Value) (hw : ∀ d ∈ tables_1, d.before a00 Z = true) (ws : List Jvm.Cond) (a0 : Addr) (p1 : Int32) (p2 : Int32) (k0 : ClassId) (vs : List Value) (h0 : Heap) (n0 : Nat) (Z0 : n0 ≤ h0.size) (hbd : 0 ≤ p1.toInt ∧ p1.toInt ≤ 16) (hl : vs.length = 20) (g0 : n0 ≤ a0) (V0 : Arv Z h0 a0 k0 .byte (20 : Int32) vs (.int (0 : Int32))) :
    MetFree l (⟨"com/example/fuxi/fuxi/codec/Utf8CodePointCountPinLaw", "put", "([BII)I"⟩ : MethodName) (head1 (Jvm.Cond.code (⟨"com/example/fuxi/fuxi/codec/Utf8CodePointCountPinLaw", "put", "([BII)I"⟩ : MethodName) method_3_code 6 (some .int) :: ws) ({ frames := 0, cells := 0, slots := 0, locals := 0 } : Room)) (fun a U => a = #[(.ref a0), (.int p1), (.int p2)] ∧ Z.Warmed39 U.vm ∧ U.heap = h0) (fun _ _ _ _ _ => True) (fun _ U o U' => ∃ v L, o = .returned v ∧ own_Q n0 (fun h => Keep h0 h [a0] ∧ Arv Z h a0 k0 .byte (20 : Int32) (own_pl vs p1 p2) (.int (0 : Int32))) (some (.int (own_r1 p1 p2))) v U'.heap L ∧ FrameEnd U o U' L ({ frames := 0, cells := 0, slots := 0, locals := 0 } : Room).cells ({ frames := 0, cells := 0, slots := 0, locals := 0 } : Room).slots) := by
  by_cases hc0 : (p2 &&& (3 : Int32)) = (0 : Int32)
  · rw [show own_r1 p1 p2 = own_r1k0 p1 p2 from (if_pos hc0), show own_pl vs p1 p2 = own_pl0 vs p1 p2 from (if_pos hc0)]
    exact rm1k0 l Z a00 hw ws a0 p1 p2 k0 vs h0 n0 Z0 hbd hl g0 hc0 V0
  by_cases hc1 : (p2 &&& (3 : Int32)) = (1 : Int32)
  · rw [show own_r1 p1 p2 = own_r1k1 p1 p2 from ((if_neg hc0).trans (if_pos hc1)), show own_pl vs p1 p2 = own_pl1 vs p1 p2 from ((if_neg hc0).trans (if_pos hc1))]
    exact rm1k1 l Z a00 hw ws a0 p1 p2 k0 vs h0 n0 Z0 hbd hl g0 hc0 hc1 V0
  by_cases hc2 : (p2 &&& (3 : Int32)) = (2 : Int32)
  · rw [show own_r1 p1 p2 = own_r1k2 p1 p2 from ((if_neg hc0).trans ((if_neg hc1).trans (if_pos hc2))), show own_pl vs p1 p2 = own_pl2 vs p1 p2 from ((if_neg hc0).trans ((if_neg hc1).trans (if_pos hc2)))]
    exact rm1k2 l Z a00 hw ws a0 p1 p2 k0 vs h0 n0 Z0 hbd hl g0 hc0 hc1 hc2 V0
  rw [show own_r1 p1 p2 = own_r1k3 p1 p2 from ((if_neg hc0).trans ((if_neg hc1).trans (if_neg hc2))), show own_pl vs p1 p2 = own_pl3 vs p1 p2 from ((if_neg hc0).trans ((if_neg hc1).trans (if_neg hc2)))]
  exact rm1k3 l Z a00 hw ws a0 p1 p2 k0 vs h0 n0 Z0 hbd hl g0 hc0 hc1 hc2 V0
/-- the byte at a place -/
def own_b (vs : List Value) (i : Nat) : Int32 := match vs.getD i (.int (0 : Int32)) with
  | .int x => x
  | _ => 0
def own_cnt (vs : List Value) : Nat → Nat → Int32 → Int32
  | 0, _, c => c
  | n + 1, i, c => own_cnt vs n (i + 1) (if ((own_b vs i) &&& (192 : Int32)) = (128 : Int32) then c else (c + (1 : Int32)))
theorem own_ge {x y : Int32} (hi : 0 ≤ x.toInt ∧ x.toInt + ((0 : Nat) : Int) = y.toInt) : ¬ x < y := by
  rw [Int32.lt_iff_toInt_lt]; omega
theorem own_lt {x y : Int32} {n : Nat} (hi : 0 ≤ x.toInt ∧ x.toInt + ((n + 1 : Nat) : Int) = y.toInt) : x < y := by
  rw [Int32.lt_iff_toInt_lt]; omega
theorem own_iq {x y : Int32} {n : Nat} (hi : 0 ≤ x.toInt ∧ x.toInt + ((n + 1 : Nat) : Int) = y.toInt) (h : y.toInt ≤ 20) : ¬ x < 0 ∧ x < (20 : Int32) := by
  rw [Int32.lt_iff_toInt_lt, Int32.lt_iff_toInt_lt, own_k20, own_k0]; omega
theorem own_bv {Z : State} {h : Heap} {a : Addr} {k : ClassId} {vs : List Value} {j : Int32} (F : Arv Z h a k .byte (20 : Int32) vs (.int (0 : Int32))) (q : ¬ j < 0 ∧ j < (20 : Int32)) : vs.getD j.toNatClampNeg (.int (0 : Int32)) = .int (own_b vs j.toNatClampNeg) := by
  obtain ⟨c, -, -, Sz, -, -, G⟩ := F
  have g := G j.toNatClampNeg (by rw [Sz]; exact own_cl q)
  unfold own_b
  cases hv : vs.getD j.toNatClampNeg (.int (0 : Int32)) with
  | int x => rfl
  | _ => rw [hv] at g; cases g
theorem own_add1 {x y : Int32} {n : Nat} (hi : 0 ≤ x.toInt ∧ x.toInt + ((n + 1 : Nat) : Int) = y.toInt) (h : y.toInt ≤ 20) : (x + (1 : Int32)).toInt = x.toInt + 1 := by
  rw [Jvm.Kit.i32_add (by rw [own_k1]; omega) (by rw [own_k1]; omega), own_k1]
theorem own_cnt_s {vs : List Value} {x y ct : Int32} {n : Nat} (hi : 0 ≤ x.toInt ∧ x.toInt + ((n + 1 : Nat) : Int) = y.toInt) (h : y.toInt ≤ 20) :
    own_cnt vs (n + 1) (x).toNatClampNeg ct = own_cnt vs n (x + (1 : Int32)).toNatClampNeg (if ((own_b vs (x).toNatClampNeg) &&& (192 : Int32)) = (128 : Int32) then ct else (ct + (1 : Int32))) := by
  have e : (x + (1 : Int32)).toNatClampNeg = x.toNatClampNeg + 1 := by
    show (x + (1 : Int32)).toInt.toNat = x.toInt.toNat + 1
    rw [own_add1 hi h]; omega
  rw [e]; rfl
theorem own_nx {x y : Int32} {n : Nat} (hi : 0 ≤ x.toInt ∧ x.toInt + ((n + 1 : Nat) : Int) = y.toInt) (h : y.toInt ≤ 20) : 0 ≤ (x + (1 : Int32)).toInt ∧ (x + (1 : Int32)).toInt + (n : Int) = y.toInt := by
  rw [own_add1 hi h]; omega
theorem own_st {x y : Int32} (h : 0 ≤ x.toInt ∧ x.toInt ≤ y.toInt ∧ y.toInt ≤ 20) : 0 ≤ x.toInt ∧ x.toInt + (((y.toInt - x.toInt).toNat : Nat) : Int) = y.toInt := by omega

theorem own_pn1 : plainName "com/example/fuxi/fuxi/codec/Utf8" = true := by first | (simp [plainName, overriddenIn]; done) | decide +kernel
theorem own_d2_0 : decode prog_15_method_4_code 0 = .ok (.iconst 0, 1) := by decide +kernel
theorem own_d2_1 : decode prog_15_method_4_code 1 = .ok (.istore_n 3, 1) := by decide +kernel
theorem own_d2_2 : decode prog_15_method_4_code 2 = .ok (.iload_n 1, 1) := by decide +kernel
theorem own_d2_3 : decode prog_15_method_4_code 3 = .ok (.istore 4, 2) := by decide +kernel
theorem own_d2_5 : decode prog_15_method_4_code 5 = .ok (.iload 4, 2) := by decide +kernel
theorem own_d2_7 : decode prog_15_method_4_code 7 = .ok (.iload_n 2, 1) := by decide +kernel
theorem own_d2_8 : decode prog_15_method_4_code 8 = .ok (.if_icmp .ge 26, 3) := by decide +kernel
theorem own_d2_11 : decode prog_15_method_4_code 11 = .ok (.aload_n 0, 1) := by decide +kernel
theorem own_d2_12 : decode prog_15_method_4_code 12 = .ok (.iload 4, 2) := by decide +kernel
theorem own_d2_14 : decode prog_15_method_4_code 14 = .ok (.baload, 1) := by decide +kernel
theorem own_d2_15 : decode prog_15_method_4_code 15 = .ok (.sipush 192, 3) := by decide +kernel
theorem own_d2_18 : decode prog_15_method_4_code 18 = .ok (.iand, 1) := by decide +kernel
theorem own_d2_19 : decode prog_15_method_4_code 19 = .ok (.sipush 128, 3) := by decide +kernel
theorem own_d2_22 : decode prog_15_method_4_code 22 = .ok (.if_icmp .eq 6, 3) := by decide +kernel
theorem own_d2_25 : decode prog_15_method_4_code 25 = .ok (.iinc 3 1, 3) := by decide +kernel
theorem own_d2_28 : decode prog_15_method_4_code 28 = .ok (.iinc 4 1, 3) := by decide +kernel
theorem own_d2_31 : decode prog_15_method_4_code 31 = .ok (.goto (-26), 3) := by decide +kernel
theorem own_d2_34 : decode prog_15_method_4_code 34 = .ok (.iload_n 3, 1) := by decide +kernel
theorem own_d2_35 : decode prog_15_method_4_code 35 = .ok (.ireturn, 1) := by decide +kernel
def own_f2_j28_L3 (vs : List Value) (ix : Int32) (ct : Int32) : Int32 := (if ((own_b vs (ix).toNatClampNeg) &&& (192 : Int32)) = (128 : Int32) then ct else (ct + (1 : Int32)))
def own_r2 (p1 : Int32) (p2 : Int32) (vs : List Value) : Int32 := (own_cnt vs (p2.toInt - p1.toInt).toNat (p1).toNatClampNeg (0 : Int32))
theorem own_ef2 (m : MethodId) (a0 : Addr) (p1 : Int32) (p2 : Int32) : entryFrame m #[(.ref a0), (.int p1), (.int p2)] 5 = (mkF m 0 #[.val (.ref a0), .val (.int p1), .val (.int p2), .unset, .unset] []) := by first | (simp [entryFrame, mkF, argsToLocals, Value.category]; done) | rfl
set_option maxRecDepth 65536 in
set_option maxHeartbeats 40000000 in
theorem rm2 (l : Launch) (Z : State) (av0 : Array Value) (hw : ∀ d ∈ tables_1, d.before av0 Z = true) (ws : List Jvm.Cond) (a0 : Addr) (p1 : Int32) (p2 : Int32) (k0 : ClassId) (vs : List Value) (h0 : Heap) (n0 : Nat) (Z0 : n0 ≤ h0.size) (hp : 0 ≤ p1.toInt ∧ p1.toInt ≤ p2.toInt ∧ p2.toInt ≤ 20) (V0 : Arv Z h0 a0 k0 .byte (20 : Int32) vs (.int (0 : Int32))) :
    MetFree l (⟨"com/example/fuxi/fuxi/codec/Utf8", "codePointCount", "([BII)I"⟩ : MethodName) (head1 (Jvm.Cond.code (⟨"com/example/fuxi/fuxi/codec/Utf8", "codePointCount", "([BII)I"⟩ : MethodName) prog_15_method_4_code 5 (some .int) :: ws) ({ frames := 0, cells := 0, slots := 0, locals := 0 } : Room)) (fun a U => a = #[(.ref a0), (.int p1), (.int p2)] ∧ Z.Warmed39 U.vm ∧ U.heap = h0) (fun _ _ _ _ _ => True) (fun _ U o U' => ∃ v L, o = .returned v ∧ own_Q n0 (fun h => h = h0) (some (.int (own_r2 p1 p2 vs))) v U'.heap L ∧ FrameEnd U o U' L ({ frames := 0, cells := 0, slots := 0, locals := 0 } : Room).cells ({ frames := 0, cells := 0, slots := 0, locals := 0 } : Room).slots) := by
  refine MetFree.of_bodySF (plainFor_of_name own_pn1) hisR ?_
  intro p e s m args below meth c s₁ Bd hml0 hP hK
  obtain ⟨rfl, hZ, hh⟩ := hP
  have hx := Bd.exec
  have hby := Bd.bytes
  have hml : c.maxLocals = 5 := hml0
  have hown : s.vm.findClass "com/example/fuxi/fuxi/codec/Utf8" = some m.cls := findClass_of_methodNamed Bd.named
  have hnm := (name_of_methodNamed Bd.named Bd.method).1
  have hret := Bd.returns
  have hlk : meth.locks = false := BodyLoose.notSynchronized Bd
  have X0 : Stand p l e ({ frames := 0, cells := 0, slots := 0, locals := 0 } : Room) s m #[(.ref a0), (.int p1), (.int p2)] below meth c s₁ [] 0 0 := Stand.of_body Bd
  have e0 : s₁.heap = h0 := by rw [← hh, Bd.state]; rfl
  have N0 := Fr.nil n0
  clear Bd hh hK
  have B5 : ∀ (n : Nat) (T : State) (L : List Loc) (ct ix : Int32), Stand p l e ({ frames := 0, cells := 0, slots := 0, locals := 0 } : Room) s m #[(.ref a0), (.int p1), (.int p2)] below meth c T L 0 0 → T.heap = h0 → Fr n0 L → (0 ≤ ix.toInt ∧ ix.toInt + n = p2.toInt) → own_Run p e below T (mkF m 5 #[.val (.ref a0), .val (.int p1), .val (.int p2), .val (.int ct), .val (.int ix)] []) (own_Ret FrameEnd s below ({ frames := 0, cells := 0, slots := 0, locals := 0 } : Room).cells ({ frames := 0, cells := 0, slots := 0, locals := 0 } : Room).slots (own_Q n0 (fun h => h = h0) (some (.int (own_cnt vs n (ix).toNatClampNeg ct))))) := by
    intro n
    induction n with
    | zero =>
      intro T L ct ix X eT N hi
      show own_Run p e below T _ (own_Ret _ s below _ _ (own_Q n0 _ (some (.int ct))))
      show own_Run p e below T (mkF m 5 #[.val (.ref a0), .val (.int p1), .val (.int p2), .val (.int ct), .val (.int ix)] []) _
      refine own_step (fun t k => XS.iload X.here hx rfl (hb hby own_d2_5) rfl  k) ?_
      show own_Run p e below T (mkF m 7 #[.val (.ref a0), .val (.int p1), .val (.int p2), .val (.int ct), .val (.int ix)] [(.int ix)]) _
      refine own_step (fun t k => XS.iloadN X.here hx rfl (hb hby own_d2_7) rfl  k) ?_
      show own_Run p e below T (mkF m 8 #[.val (.ref a0), .val (.int p1), .val (.int p2), .val (.int ct), .val (.int ix)] [(.int p2), (.int ix)]) _
      refine own_step (fun t k => XS.icmpYes X.here hx rfl (pc0 := 8) (pc' := 34) rfl (hb hby own_d2_8) rfl (flt (own_ge hi)).2.1 (by decide) (by decide) k) ?_
      show own_Run p e below T (mkF m 34 #[.val (.ref a0), .val (.int p1), .val (.int p2), .val (.int ct), .val (.int ix)] []) _
      refine own_step (fun t k => XS.iloadN X.here hx rfl (hb hby own_d2_34) rfl  k) ?_
      show own_Run p e below T (mkF m 35 #[.val (.ref a0), .val (.int p1), .val (.int p2), .val (.int ct), .val (.int ix)] [(.int ct)]) _
      exact own_retI X hx hlk hret (hb hby own_d2_35) (by decide) (by decide) N eT
    | succ n ih =>
      intro T L ct ix X eT N hi
      show own_Run p e below T (mkF m 5 #[.val (.ref a0), .val (.int p1), .val (.int p2), .val (.int ct), .val (.int ix)] []) _
      refine own_step (fun t k => XS.iload X.here hx rfl (hb hby own_d2_5) rfl  k) ?_
      show own_Run p e below T (mkF m 7 #[.val (.ref a0), .val (.int p1), .val (.int p2), .val (.int ct), .val (.int ix)] [(.int ix)]) _
      refine own_step (fun t k => XS.iloadN X.here hx rfl (hb hby own_d2_7) rfl  k) ?_
      show own_Run p e below T (mkF m 8 #[.val (.ref a0), .val (.int p1), .val (.int p2), .val (.int ct), .val (.int ix)] [(.int p2), (.int ix)]) _
      refine own_step (fun t k => XS.icmpNo X.here hx rfl (hb hby own_d2_8) rfl (tlt (own_lt hi)).2.1 k) ?_
      show own_Run p e below T (mkF m 11 #[.val (.ref a0), .val (.int p1), .val (.int p2), .val (.int ct), .val (.int ix)] []) _
      refine own_step (fun t k => XS.aloadN X.here hx rfl (hb hby own_d2_11) rfl rfl k) ?_
      show own_Run p e below T (mkF m 12 #[.val (.ref a0), .val (.int p1), .val (.int p2), .val (.int ct), .val (.int ix)] [(.ref a0)]) _
      refine own_step (fun t k => XS.iload X.here hx rfl (hb hby own_d2_12) rfl  k) ?_
      show own_Run p e below T (mkF m 14 #[.val (.ref a0), .val (.int p1), .val (.int p2), .val (.int ct), .val (.int ix)] [(.int ix), (.ref a0)]) _
      refine own_step (own_ldB X hx hZ eT V0 (j := ix) (v := (.int (own_b vs (ix).toNatClampNeg))) (own_iq hi hp.2.2) (own_bv V0 (own_iq hi hp.2.2)) (g := (mkF m 14 #[.val (.ref a0), .val (.int p1), .val (.int p2), .val (.int ct), .val (.int ix)] [(.int ix), (.ref a0)])) rfl rfl (hb hby own_d2_14)) ?_
      show own_Run p e below T (mkF m 15 #[.val (.ref a0), .val (.int p1), .val (.int p2), .val (.int ct), .val (.int ix)] [(.int (own_b vs (ix).toNatClampNeg))]) _
      refine own_step (fun t k => XS.sipush X.here hx rfl (hb hby own_d2_15) k) ?_
      show own_Run p e below T (mkF m 18 #[.val (.ref a0), .val (.int p1), .val (.int p2), .val (.int ct), .val (.int ix)] [(.int (192 : Int32)), (.int (own_b vs (ix).toNatClampNeg))]) _
      refine own_step (fun t k => XS.iand X.here hx rfl (hb hby own_d2_18) rfl k) ?_
      show own_Run p e below T (mkF m 19 #[.val (.ref a0), .val (.int p1), .val (.int p2), .val (.int ct), .val (.int ix)] [(.int ((own_b vs (ix).toNatClampNeg) &&& (192 : Int32)))]) _
      refine own_step (fun t k => XS.sipush X.here hx rfl (hb hby own_d2_19) k) ?_
      show own_Run p e below T (mkF m 22 #[.val (.ref a0), .val (.int p1), .val (.int p2), .val (.int ct), .val (.int ix)] [(.int (128 : Int32)), (.int ((own_b vs (ix).toNatClampNeg) &&& (192 : Int32)))]) _
      obtain ⟨_, st1, rfl⟩ : own_Run p e below T (mkF m 22 #[.val (.ref a0), .val (.int p1), .val (.int p2), .val (.int ct), .val (.int ix)] [(.int (128 : Int32)), (.int ((own_b vs (ix).toNatClampNeg) &&& (192 : Int32)))]) (fun t => t = T.setTop (mkF m 28 #[.val (.ref a0), .val (.int p1), .val (.int p2), .val (.int (own_f2_j28_L3 vs ix ct)), .val (.int ix)] [])) := by
        by_cases hc2 : ((own_b vs (ix).toNatClampNeg) &&& (192 : Int32)) = (128 : Int32)
        · refine own_step (fun t k => XS.icmpYes X.here hx rfl (pc0 := 22) (pc' := 28) rfl (hb hby own_d2_22) rfl (teq hc2).1 (by decide) (by decide) k) ?_
          show own_Run p e below T (mkF m 28 #[.val (.ref a0), .val (.int p1), .val (.int p2), .val (.int ct), .val (.int ix)] []) _
          have hj0 : (own_f2_j28_L3 vs ix ct) = ct := (if_pos hc2)
          exact own_here (by rw [hj0] <;> rfl)
        · refine own_step (fun t k => XS.icmpNo X.here hx rfl (hb hby own_d2_22) rfl (feq hc2).1 k) ?_
          show own_Run p e below T (mkF m 25 #[.val (.ref a0), .val (.int p1), .val (.int p2), .val (.int ct), .val (.int ix)] []) _
          refine own_step (fun t k => XS.iinc X.here hx rfl (hb hby own_d2_25) rfl (l' := #[.val (.ref a0), .val (.int p1), .val (.int p2), .val (.int (ct + (1 : Int32))), .val (.int ix)]) rfl k) ?_
          show own_Run p e below T (mkF m 28 #[.val (.ref a0), .val (.int p1), .val (.int p2), .val (.int (ct + (1 : Int32))), .val (.int ix)] []) _
          have hj0 : (own_f2_j28_L3 vs ix ct) = (ct + (1 : Int32)) := (if_neg hc2)
          exact own_here (by rw [hj0] <;> rfl)
      refine own_tr st1 ?_
      show own_Run p e below T (mkF m 28 #[.val (.ref a0), .val (.int p1), .val (.int p2), .val (.int (own_f2_j28_L3 vs ix ct)), .val (.int ix)] []) _
      refine own_step (fun t k => XS.iinc X.here hx rfl (hb hby own_d2_28) rfl (l' := #[.val (.ref a0), .val (.int p1), .val (.int p2), .val (.int (own_f2_j28_L3 vs ix ct)), .val (.int (ix + (1 : Int32)))]) rfl k) ?_
      show own_Run p e below T (mkF m 31 #[.val (.ref a0), .val (.int p1), .val (.int p2), .val (.int (own_f2_j28_L3 vs ix ct)), .val (.int (ix + (1 : Int32)))] []) _
      refine own_step (fun t k => XS.goto X.here hx rfl (pc0 := 31) (pc' := 5) rfl (hb hby own_d2_31) (by decide) (by decide) k) ?_
      show own_Run p e below T (mkF m 5 #[.val (.ref a0), .val (.int p1), .val (.int p2), .val (.int (own_f2_j28_L3 vs ix ct)), .val (.int (ix + (1 : Int32)))] []) _
      rw [own_cnt_s hi hp.2.2]
      exact ih T L _ _ X eT N (own_nx hi hp.2.2)
  refine own_fin ?_
  refine own_entry (own_ef2 m a0 p1 p2) ?_
  show own_Run p e below s₁ _ (own_Ret _ s below _ _ (own_Q n0 _ (some (.int (own_cnt vs (p2.toInt - p1.toInt).toNat (p1).toNatClampNeg (0 : Int32))))))
  show own_Run p e below s₁ (mkF m 0 #[.val (.ref a0), .val (.int p1), .val (.int p2), .unset, .unset] []) _
  refine own_step (fun t k => XS.iconst X0.here hx rfl (hb hby own_d2_0) k) ?_
  show own_Run p e below s₁ (mkF m 1 #[.val (.ref a0), .val (.int p1), .val (.int p2), .unset, .unset] [(.int (0 : Int32))]) _
  refine own_step (fun t k => XS.istoreN X0.here hx rfl (hb hby own_d2_1) rfl (l' := #[.val (.ref a0), .val (.int p1), .val (.int p2), .val (.int (0 : Int32)), .unset]) rfl k) ?_
  show own_Run p e below s₁ (mkF m 2 #[.val (.ref a0), .val (.int p1), .val (.int p2), .val (.int (0 : Int32)), .unset] []) _
  refine own_step (fun t k => XS.iloadN X0.here hx rfl (hb hby own_d2_2) rfl  k) ?_
  show own_Run p e below s₁ (mkF m 3 #[.val (.ref a0), .val (.int p1), .val (.int p2), .val (.int (0 : Int32)), .unset] [(.int p1)]) _
  refine own_step (fun t k => XS.istore X0.here hx rfl (hb hby own_d2_3) rfl (l' := #[.val (.ref a0), .val (.int p1), .val (.int p2), .val (.int (0 : Int32)), .val (.int p1)]) rfl k) ?_
  show own_Run p e below s₁ (mkF m 5 #[.val (.ref a0), .val (.int p1), .val (.int p2), .val (.int (0 : Int32)), .val (.int p1)] []) _
  exact B5 _ s₁ [] _ _ X0 e0 N0 (own_st hp)
theorem own_pd182 : parseMethodDescriptor "([BII)I" = some ⟨[(.array .byte), .int, .int], some .int⟩ := by decide +kernel
def own_f0_j32_L8 (p5 : Int32) (p0 : Int32) : Int32 := (if (p5 &&& (4 : Int32)) = (0 : Int32) then (0 : Int32) else (own_r1 (0 : Int32) p0))
def own_f0_j32_V0 (p5 : Int32) (p0 : Int32) : List Value := (if (p5 &&& (4 : Int32)) = (0 : Int32) then own_buf0 else (own_pl own_buf0 (0 : Int32) p0))
def own_f0_50 (p5 : Int32) (p0 : Int32) (p1 : Int32) : Int32 := (own_r1 (own_f0_j32_L8 p5 p0) p1)
def own_f0_j52_L8 (p5 : Int32) (p0 : Int32) (p1 : Int32) : Int32 := (if (p5 &&& (3 : Int32)) < (1 : Int32) then (own_f0_j32_L8 p5 p0) else (own_f0_50 p5 p0 p1))
def own_f0_j52_V0 (p5 : Int32) (p0 : Int32) (p1 : Int32) : List Value := (if (p5 &&& (3 : Int32)) < (1 : Int32) then (own_f0_j32_V0 p5 p0) else (own_pl (own_f0_j32_V0 p5 p0) (own_f0_j32_L8 p5 p0) p1))
def own_f0_66 (p5 : Int32) (p0 : Int32) (p1 : Int32) (p2 : Int32) : Int32 := (own_r1 (own_f0_j52_L8 p5 p0 p1) p2)
def own_f0_j68_L8 (p5 : Int32) (p0 : Int32) (p1 : Int32) (p2 : Int32) : Int32 := (if (p5 &&& (3 : Int32)) < (2 : Int32) then (own_f0_j52_L8 p5 p0 p1) else (own_f0_66 p5 p0 p1 p2))
def own_f0_j68_V0 (p5 : Int32) (p0 : Int32) (p1 : Int32) (p2 : Int32) : List Value := (if (p5 &&& (3 : Int32)) < (2 : Int32) then (own_f0_j52_V0 p5 p0 p1) else (own_pl (own_f0_j52_V0 p5 p0 p1) (own_f0_j52_L8 p5 p0 p1) p2))
def own_f0_82 (p5 : Int32) (p0 : Int32) (p1 : Int32) (p2 : Int32) (p3 : Int32) : Int32 := (own_r1 (own_f0_j68_L8 p5 p0 p1 p2) p3)
def own_f0_j84_L8 (p5 : Int32) (p0 : Int32) (p1 : Int32) (p2 : Int32) (p3 : Int32) : Int32 := (if (p5 &&& (3 : Int32)) < (3 : Int32) then (own_f0_j68_L8 p5 p0 p1 p2) else (own_f0_82 p5 p0 p1 p2 p3))
def own_f0_j84_V0 (p5 : Int32) (p0 : Int32) (p1 : Int32) (p2 : Int32) (p3 : Int32) : List Value := (if (p5 &&& (3 : Int32)) < (3 : Int32) then (own_f0_j68_V0 p5 p0 p1 p2) else (own_pl (own_f0_j68_V0 p5 p0 p1 p2) (own_f0_j68_L8 p5 p0 p1 p2) p3))
def own_f0_86 (p5 : Int32) (p0 : Int32) (p1 : Int32) (p2 : Int32) (p3 : Int32) : Int32 := (own_f0_j84_L8 p5 p0 p1 p2 p3)
def own_f0_105 (p5 : Int32) (p0 : Int32) (p1 : Int32) (p2 : Int32) (p3 : Int32) (p4 : Int32) : Int32 := (own_r1 (own_f0_j84_L8 p5 p0 p1 p2 p3) p4)
def own_f0_j107_L8 (p5 : Int32) (p0 : Int32) (p1 : Int32) (p2 : Int32) (p3 : Int32) (p4 : Int32) : Int32 := (if (p5 &&& (8 : Int32)) = (0 : Int32) then (own_f0_j84_L8 p5 p0 p1 p2 p3) else (own_f0_105 p5 p0 p1 p2 p3 p4))
def own_f0_j107_V0 (p5 : Int32) (p0 : Int32) (p1 : Int32) (p2 : Int32) (p3 : Int32) (p4 : Int32) : List Value := (if (p5 &&& (8 : Int32)) = (0 : Int32) then (own_f0_j84_V0 p5 p0 p1 p2 p3) else (own_pl (own_f0_j84_V0 p5 p0 p1 p2 p3) (own_f0_j84_L8 p5 p0 p1 p2 p3) p4))
def own_f0_j126_S0 (p5 : Int32) (p0 : Int32) (p1 : Int32) (p2 : Int32) (p3 : Int32) (p4 : Int32) : Int32 := (if (own_r2 (own_f0_j32_L8 p5 p0) (own_f0_86 p5 p0 p1 p2 p3) (own_f0_j107_V0 p5 p0 p1 p2 p3 p4)) = (p5 &&& (3 : Int32)) then (1 : Int32) else (0 : Int32))
def own_r0 (p0 : Int32) (p1 : Int32) (p2 : Int32) (p3 : Int32) (p4 : Int32) (p5 : Int32) : Int32 := (nar .boolean (own_f0_j126_S0 p5 p0 p1 p2 p3 p4))
theorem own_k2 : (2 : Int32).toInt = 2 := by decide
theorem own_k3 : (3 : Int32).toInt = 3 := by decide
theorem own_k4 : (4 : Int32).toInt = 4 := by decide
theorem own_rb {p : Int32} (x : Int32) (hb : 0 ≤ p.toInt ∧ p.toInt ≤ 16) : p.toInt + 1 ≤ (own_r1 p x).toInt ∧ (own_r1 p x).toInt ≤ p.toInt + 4 := by
  unfold own_r1 own_r1k0 own_r1k1 own_r1k2 own_r1k3
  split
  · rw [own_addk (by decide) hb, own_k1]; omega
  · split
    · rw [own_addk (by decide) hb, own_k2]; omega
    · split
      · rw [own_addk (by decide) hb, own_k3]; omega
      · rw [own_addk (by decide) hb, own_k4]; omega
theorem own_len0 : own_buf0.length = 20 := by simp [own_buf0]
theorem own_pl_len (vs : List Value) (p x : Int32) : (own_pl vs p x).length = vs.length := by
  unfold own_pl own_pl0 own_pl1 own_pl2 own_pl3
  split
  · simp only [List.length_set]
  · split
    · simp only [List.length_set]
    · split <;> simp only [List.length_set]
theorem own_B32 (p5 p0 : Int32) : 0 ≤ (own_f0_j32_L8 p5 p0).toInt ∧ (own_f0_j32_L8 p5 p0).toInt ≤ 4 := by
  unfold own_f0_j32_L8
  have := own_rb (p := 0) p0 (by decide)
  rw [own_k0] at this
  split
  · rw [own_k0]; omega
  · omega
theorem own_bd_own_f0_j32_L8 (p5 p0 : Int32) : 0 ≤ (own_f0_j32_L8 p5 p0).toInt ∧ (own_f0_j32_L8 p5 p0).toInt ≤ 16 := by have := own_B32 p5 p0; omega
theorem own_B52 (p5 p0 p1 : Int32) : (own_f0_j32_L8 p5 p0).toInt ≤ (own_f0_j52_L8 p5 p0 p1).toInt ∧ (own_f0_j52_L8 p5 p0 p1).toInt ≤ 8 := by
  have b := own_B32 p5 p0
  have := own_rb (p := own_f0_j32_L8 p5 p0) p1 (by omega)
  unfold own_f0_j52_L8 own_f0_50
  split <;> omega
theorem own_bd_own_f0_j52_L8 (p5 p0 p1 : Int32) : 0 ≤ (own_f0_j52_L8 p5 p0 p1).toInt ∧ (own_f0_j52_L8 p5 p0 p1).toInt ≤ 16 := by have := own_B32 p5 p0; have := own_B52 p5 p0 p1; omega
theorem own_B68 (p5 p0 p1 p2 : Int32) : (own_f0_j52_L8 p5 p0 p1).toInt ≤ (own_f0_j68_L8 p5 p0 p1 p2).toInt ∧ (own_f0_j68_L8 p5 p0 p1 p2).toInt ≤ 12 := by
  have b := own_bd_own_f0_j52_L8 p5 p0 p1; have b2 := own_B52 p5 p0 p1
  have := own_rb (p := own_f0_j52_L8 p5 p0 p1) p2 b
  unfold own_f0_j68_L8 own_f0_66
  split <;> omega
theorem own_bd_own_f0_j68_L8 (p5 p0 p1 p2 : Int32) : 0 ≤ (own_f0_j68_L8 p5 p0 p1 p2).toInt ∧ (own_f0_j68_L8 p5 p0 p1 p2).toInt ≤ 16 := by have := own_bd_own_f0_j52_L8 p5 p0 p1; have := own_B68 p5 p0 p1 p2; omega
theorem own_B84 (p5 p0 p1 p2 p3 : Int32) : (own_f0_j68_L8 p5 p0 p1 p2).toInt ≤ (own_f0_j84_L8 p5 p0 p1 p2 p3).toInt ∧ (own_f0_j84_L8 p5 p0 p1 p2 p3).toInt ≤ 16 := by
  have b := own_bd_own_f0_j68_L8 p5 p0 p1 p2; have b2 := own_B68 p5 p0 p1 p2
  have := own_rb (p := own_f0_j68_L8 p5 p0 p1 p2) p3 b
  unfold own_f0_j84_L8 own_f0_82
  split <;> omega
theorem own_bd_own_f0_j84_L8 (p5 p0 p1 p2 p3 : Int32) : 0 ≤ (own_f0_j84_L8 p5 p0 p1 p2 p3).toInt ∧ (own_f0_j84_L8 p5 p0 p1 p2 p3).toInt ≤ 16 := by have := own_bd_own_f0_j68_L8 p5 p0 p1 p2; have := own_B84 p5 p0 p1 p2 p3; omega
theorem own_ln_own_f0_j32_V0 (p5 p0 : Int32) : (own_f0_j32_V0 p5 p0).length = 20 := by
  unfold own_f0_j32_V0
  split
  · exact own_len0
  · rw [own_pl_len]; exact own_len0
theorem own_ln_own_f0_j52_V0 (p5 p0 p1 : Int32) : (own_f0_j52_V0 p5 p0 p1).length = 20 := by
  unfold own_f0_j52_V0
  split
  · exact own_ln_own_f0_j32_V0 p5 p0
  · rw [own_pl_len]; exact own_ln_own_f0_j32_V0 p5 p0
theorem own_ln_own_f0_j68_V0 (p5 p0 p1 p2 : Int32) : (own_f0_j68_V0 p5 p0 p1 p2).length = 20 := by
  unfold own_f0_j68_V0
  split
  · exact own_ln_own_f0_j52_V0 p5 p0 p1
  · rw [own_pl_len]; exact own_ln_own_f0_j52_V0 p5 p0 p1
theorem own_ln_own_f0_j84_V0 (p5 p0 p1 p2 p3 : Int32) : (own_f0_j84_V0 p5 p0 p1 p2 p3).length = 20 := by
  unfold own_f0_j84_V0
  split
  · exact own_ln_own_f0_j68_V0 p5 p0 p1 p2
  · rw [own_pl_len]; exact own_ln_own_f0_j68_V0 p5 p0 p1 p2
theorem own_hp (p0 p1 p2 p3 p4 p5 : Int32) : 0 ≤ (own_f0_j32_L8 p5 p0).toInt ∧ (own_f0_j32_L8 p5 p0).toInt ≤ (own_f0_86 p5 p0 p1 p2 p3).toInt ∧ (own_f0_86 p5 p0 p1 p2 p3).toInt ≤ 20 := by
  have := own_B32 p5 p0; have := own_B52 p5 p0 p1; have := own_B68 p5 p0 p1 p2; have := own_B84 p5 p0 p1 p2 p3
  show _ ∧ _ ≤ (own_f0_j84_L8 p5 p0 p1 p2 p3).toInt ∧ (own_f0_j84_L8 p5 p0 p1 p2 p3).toInt ≤ 20
  omega

theorem own_ef0 (m : MethodId) (p0 : Int32) (p1 : Int32) (p2 : Int32) (p3 : Int32) (p4 : Int32) (p5 : Int32) : entryFrame m #[(.int p0), (.int p1), (.int p2), (.int p3), (.int p4), (.int p5)] maxLocals = (mkF m 0 #[.val (.int p0), .val (.int p1), .val (.int p2), .val (.int p3), .val (.int p4), .val (.int p5), .unset, .unset, .unset, .unset, .unset] []) := by first | (simp [entryFrame, mkF, argsToLocals, Value.category, maxLocals]; done) | rfl
set_option maxRecDepth 65536 in
set_option maxHeartbeats 40000000 in
theorem rm0 (l : Launch) (Z : State) (av0 : Array Value) (hw : ∀ d ∈ tables_1, d.before av0 Z = true) (ws : List Jvm.Cond) (p0 : Int32) (p1 : Int32) (p2 : Int32) (p3 : Int32) (p4 : Int32) (p5 : Int32) (h0 : Heap) (n0 : Nat) (Z0 : n0 ≤ h0.size) :
    MetFree l x (head1 (Jvm.Cond.code x code maxLocals ret :: ws) room_1) (fun a U => a = #[(.int p0), (.int p1), (.int p2), (.int p3), (.int p4), (.int p5)] ∧ Z.Warmed39 U.vm ∧ U.heap = h0) (fun _ _ _ _ _ => True) (fun _ U o U' => ∃ v L, o = .returned v ∧ own_Q n0 (fun _ => True) (some (.int (own_r0 p0 p1 p2 p3 p4 p5))) v U'.heap L ∧ FrameEnd U o U' L room_1.cells room_1.slots) := by
  refine MetFree.of_bodySF (plainFor_of_name own_pn0) hisR ?_
  intro p e s m args below meth c s₁ Bd hml0 hP hK
  obtain ⟨rfl, hZ, hh⟩ := hP
  have hx := Bd.exec
  have hby := Bd.bytes
  have hml : c.maxLocals = 11 := hml0
  have hown : s.vm.findClass "com/example/fuxi/fuxi/codec/Utf8CodePointCountPinLaw" = some m.cls := findClass_of_methodNamed Bd.named
  have hnm := (name_of_methodNamed Bd.named Bd.method).1
  have hret := Bd.returns
  have hlk : meth.locks = false := BodyLoose.notSynchronized Bd
  have X0 : Stand p l e room_1 s m #[(.int p0), (.int p1), (.int p2), (.int p3), (.int p4), (.int p5)] below meth c s₁ [] 0 0 := Stand.of_body Bd
  have e0 : s₁.heap = h0 := by rw [← hh, Bd.state]; rfl
  have N0 := Fr.nil n0
  clear Bd hh hK
  refine own_fin ?_
  refine own_entry (own_ef0 m p0 p1 p2 p3 p4 p5) ?_
  show own_Run p e below s₁ _ (own_Ret _ s below _ _ (own_Q n0 _ (some (.int (nar .boolean (own_f0_j126_S0 p5 p0 p1 p2 p3 p4))))))
  show own_Run p e below s₁ (mkF m 0 #[.val (.int p0), .val (.int p1), .val (.int p2), .val (.int p3), .val (.int p4), .val (.int p5), .unset, .unset, .unset, .unset, .unset] []) _
  refine own_step (fun t k => XS.bipush X0.here hx rfl (hb hby at_0) k) ?_
  show own_Run p e below s₁ (mkF m 2 #[.val (.int p0), .val (.int p1), .val (.int p2), .val (.int p3), .val (.int p4), .val (.int p5), .unset, .unset, .unset, .unset, .unset] [(.int (20 : Int32))]) _
  obtain ⟨T20, h20, k20, X20, e20, E20, A20, st20⟩ := newP X0 hx hZ (hw _ (List.mem_of_getElem? (i := 0) rfl)) e0 (g := (mkF m 2 #[.val (.int p0), .val (.int p1), .val (.int p2), .val (.int p3), .val (.int p4), .val (.int p5), .unset, .unset, .unset, .unset, .unset] [(.int (20 : Int32))])) rfl (hb hby at_2) rfl (by decide) (cap := 20) (by decide) (by decide) (by decide) (by decide)
  obtain ⟨b20, g20⟩ : ∃ z, z = h0.size := ⟨_, rfl⟩
  rw [← g20] at A20 st20
  have geb20 : n0 ≤ b20 := Nat.le_trans Z0 (Nat.le_of_eq g20.symm)
  have Zn20 : n0 ≤ h20.size := Nat.le_trans Z0 E20.1
  have V20 : Arv Z h20 b20 k20 .byte (20 : Int32) own_buf0 (.int (0 : Int32)) := (Arv.new A20 (by decide)).pad (pad_rep [] (.int (0 : Int32)) 20)
  refine own_step st20 ?_
  show own_Run p e below T20 (mkF m 4 #[.val (.int p0), .val (.int p1), .val (.int p2), .val (.int p3), .val (.int p4), .val (.int p5), .unset, .unset, .unset, .unset, .unset] [(.ref b20)]) _
  refine own_step (fun t k => XS.astore X20.here hx rfl (hb hby at_4) rfl rfl (l' := #[.val (.int p0), .val (.int p1), .val (.int p2), .val (.int p3), .val (.int p4), .val (.int p5), .val (.ref b20), .unset, .unset, .unset, .unset]) rfl k) ?_
  show own_Run p e below T20 (mkF m 6 #[.val (.int p0), .val (.int p1), .val (.int p2), .val (.int p3), .val (.int p4), .val (.int p5), .val (.ref b20), .unset, .unset, .unset, .unset] []) _
  refine own_step (fun t k => XS.iload X20.here hx rfl (hb hby at_6) rfl  k) ?_
  show own_Run p e below T20 (mkF m 8 #[.val (.int p0), .val (.int p1), .val (.int p2), .val (.int p3), .val (.int p4), .val (.int p5), .val (.ref b20), .unset, .unset, .unset, .unset] [(.int p5)]) _
  refine own_step (fun t k => XS.iconst X20.here hx rfl (hb hby at_8) k) ?_
  show own_Run p e below T20 (mkF m 9 #[.val (.int p0), .val (.int p1), .val (.int p2), .val (.int p3), .val (.int p4), .val (.int p5), .val (.ref b20), .unset, .unset, .unset, .unset] [(.int (3 : Int32)), (.int p5)]) _
  refine own_step (fun t k => XS.iand X20.here hx rfl (hb hby at_9) rfl k) ?_
  show own_Run p e below T20 (mkF m 10 #[.val (.int p0), .val (.int p1), .val (.int p2), .val (.int p3), .val (.int p4), .val (.int p5), .val (.ref b20), .unset, .unset, .unset, .unset] [(.int (p5 &&& (3 : Int32)))]) _
  refine own_step (fun t k => XS.istore X20.here hx rfl (hb hby at_10) rfl (l' := #[.val (.int p0), .val (.int p1), .val (.int p2), .val (.int p3), .val (.int p4), .val (.int p5), .val (.ref b20), .val (.int (p5 &&& (3 : Int32))), .unset, .unset, .unset]) rfl k) ?_
  show own_Run p e below T20 (mkF m 12 #[.val (.int p0), .val (.int p1), .val (.int p2), .val (.int p3), .val (.int p4), .val (.int p5), .val (.ref b20), .val (.int (p5 &&& (3 : Int32))), .unset, .unset, .unset] []) _
  refine own_step (fun t k => XS.iconst X20.here hx rfl (hb hby at_12) k) ?_
  show own_Run p e below T20 (mkF m 13 #[.val (.int p0), .val (.int p1), .val (.int p2), .val (.int p3), .val (.int p4), .val (.int p5), .val (.ref b20), .val (.int (p5 &&& (3 : Int32))), .unset, .unset, .unset] [(.int (0 : Int32))]) _
  refine own_step (fun t k => XS.istore X20.here hx rfl (hb hby at_13) rfl (l' := #[.val (.int p0), .val (.int p1), .val (.int p2), .val (.int p3), .val (.int p4), .val (.int p5), .val (.ref b20), .val (.int (p5 &&& (3 : Int32))), .val (.int (0 : Int32)), .unset, .unset]) rfl k) ?_
  show own_Run p e below T20 (mkF m 15 #[.val (.int p0), .val (.int p1), .val (.int p2), .val (.int p3), .val (.int p4), .val (.int p5), .val (.ref b20), .val (.int (p5 &&& (3 : Int32))), .val (.int (0 : Int32)), .unset, .unset] []) _
  refine own_step (fun t k => XS.iload X20.here hx rfl (hb hby at_15) rfl  k) ?_
  show own_Run p e below T20 (mkF m 17 #[.val (.int p0), .val (.int p1), .val (.int p2), .val (.int p3), .val (.int p4), .val (.int p5), .val (.ref b20), .val (.int (p5 &&& (3 : Int32))), .val (.int (0 : Int32)), .unset, .unset] [(.int p5)]) _
  refine own_step (fun t k => XS.iconst X20.here hx rfl (hb hby at_17) k) ?_
  show own_Run p e below T20 (mkF m 18 #[.val (.int p0), .val (.int p1), .val (.int p2), .val (.int p3), .val (.int p4), .val (.int p5), .val (.ref b20), .val (.int (p5 &&& (3 : Int32))), .val (.int (0 : Int32)), .unset, .unset] [(.int (4 : Int32)), (.int p5)]) _
  refine own_step (fun t k => XS.iand X20.here hx rfl (hb hby at_18) rfl k) ?_
  show own_Run p e below T20 (mkF m 19 #[.val (.int p0), .val (.int p1), .val (.int p2), .val (.int p3), .val (.int p4), .val (.int p5), .val (.ref b20), .val (.int (p5 &&& (3 : Int32))), .val (.int (0 : Int32)), .unset, .unset] [(.int (p5 &&& (4 : Int32)))]) _
  obtain ⟨_, st21, T21, L21, h21, rfl, X21, e21, N21, Zn21, F21_0⟩ : own_Run p e below T20 (mkF m 19 #[.val (.int p0), .val (.int p1), .val (.int p2), .val (.int p3), .val (.int p4), .val (.int p5), .val (.ref b20), .val (.int (p5 &&& (3 : Int32))), .val (.int (0 : Int32)), .unset, .unset] [(.int (p5 &&& (4 : Int32)))]) (fun t => ∃ (T' : State) (L' : List Loc) (h' : Heap), t = T'.setTop (mkF m 32 #[.val (.int p0), .val (.int p1), .val (.int p2), .val (.int p3), .val (.int p4), .val (.int p5), .val (.ref b20), .val (.int (p5 &&& (3 : Int32))), .val (.int (own_f0_j32_L8 p5 p0)), .unset, .unset] []) ∧ Stand p l e room_1 s m #[(.int p0), (.int p1), (.int p2), (.int p3), (.int p4), (.int p5)] below meth c T' L' 1 20 ∧ T'.heap = h' ∧ Fr n0 L' ∧ n0 ≤ h'.size ∧ Arv Z h' b20 k20 .byte (20 : Int32) (own_f0_j32_V0 p5 p0) (.int (0 : Int32))) := by
    by_cases hc22 : (p5 &&& (4 : Int32)) = (0 : Int32)
    · refine own_step (fun t k => XS.ifYes X20.here hx rfl (pc0 := 19) (pc' := 32) rfl (hb hby at_19) rfl ((if0 _ _).trans (teq hc22).1) (by decide) (by decide) k) ?_
      show own_Run p e below T20 (mkF m 32 #[.val (.int p0), .val (.int p1), .val (.int p2), .val (.int p3), .val (.int p4), .val (.int p5), .val (.ref b20), .val (.int (p5 &&& (3 : Int32))), .val (.int (0 : Int32)), .unset, .unset] []) _
      have hj0 : (own_f0_j32_L8 p5 p0) = (0 : Int32) := (if_pos hc22)
      have hj1 : (own_f0_j32_V0 p5 p0) = own_buf0 := (if_pos hc22)
      exact own_here ⟨T20, _, _, (by rw [hj0] <;> rfl), X20, e20, N0, Zn20, (by rw [hj1]; exact V20)⟩
    · refine own_step (fun t k => XS.ifNo X20.here hx rfl (hb hby at_19) rfl ((if0 _ _).trans (feq hc22).1) k) ?_
      show own_Run p e below T20 (mkF m 22 #[.val (.int p0), .val (.int p1), .val (.int p2), .val (.int p3), .val (.int p4), .val (.int p5), .val (.ref b20), .val (.int (p5 &&& (3 : Int32))), .val (.int (0 : Int32)), .unset, .unset] []) _
      refine own_step (fun t k => XS.aload X20.here hx rfl (hb hby at_22) rfl rfl k) ?_
      show own_Run p e below T20 (mkF m 24 #[.val (.int p0), .val (.int p1), .val (.int p2), .val (.int p3), .val (.int p4), .val (.int p5), .val (.ref b20), .val (.int (p5 &&& (3 : Int32))), .val (.int (0 : Int32)), .unset, .unset] [(.ref b20)]) _
      refine own_step (fun t k => XS.iload X20.here hx rfl (hb hby at_24) rfl  k) ?_
      show own_Run p e below T20 (mkF m 26 #[.val (.int p0), .val (.int p1), .val (.int p2), .val (.int p3), .val (.int p4), .val (.int p5), .val (.ref b20), .val (.int (p5 &&& (3 : Int32))), .val (.int (0 : Int32)), .unset, .unset] [(.int (0 : Int32)), (.ref b20)]) _
      refine own_step (fun t k => XS.iloadN X20.here hx rfl (hb hby at_26) rfl  k) ?_
      show own_Run p e below T20 (mkF m 27 #[.val (.int p0), .val (.int p1), .val (.int p2), .val (.int p3), .val (.int p4), .val (.int p5), .val (.ref b20), .val (.int (p5 &&& (3 : Int32))), .val (.int (0 : Int32)), .unset, .unset] [(.int p0), (.int (0 : Int32)), (.ref b20)]) _
      obtain ⟨_, _, ⟨T23, L23, kq23, nq23⟩, -, X23, ⟨Lc23, hQ23, lq23, yq23, zq23⟩, st23⟩ := Jvm.LawKit.callS X20 hx (y := (⟨"com/example/fuxi/fuxi/codec/Utf8CodePointCountPinLaw", "put", "([BII)I"⟩ : MethodName)) hown (mvT hZ (hw _ (List.mem_of_getElem? (i := 1) rfl))) (mvT hZ (hw _ (List.mem_of_getElem? (i := 2) rfl))) (mvT hZ (hw _ (List.mem_of_getElem? (i := 3) rfl))) (mvT hZ (hw _ (List.mem_of_getElem? (i := 4) rfl))) (by decide) (backOf (W := 0) (rm1 l Z av0 hw [] b20 (0 : Int32) p0 k20 own_buf0 h20 n0 Zn20 (by decide) own_len0 geb20 V20) hZ (hw _ (List.mem_of_getElem? (i := 4) rfl)) (hw _ (List.mem_of_getElem? (i := 3) rfl)) (by decide) (by decide)) (g := (mkF m 27 #[.val (.int p0), .val (.int p1), .val (.int p2), .val (.int p3), .val (.int p4), .val (.int p5), .val (.ref b20), .val (.int (p5 &&& (3 : Int32))), .val (.int (0 : Int32)), .unset, .unset] [(.int p0), (.int (0 : Int32)), (.ref b20)])) rfl (by rw [hml]; rfl) (argsL := [(.ref b20), (.int (0 : Int32)), (.int p0)]) (rest := []) (lenOf own_pd182 rfl) rfl (by show 2 * 0 + _ ≤ _; exact Nat.le_of_eq rfl) (hb hby at_27) (fun _ _ => ⟨rfl, e20, (by decide : 1 + 0 ≤ _), (by decide : 20 + 0 ≤ _)⟩)
      dsimp only [Pt.U, Pt.locs, Pt.cells, Pt.slots] at X23 lq23 yq23 zq23 st23 hQ23
      subst lq23 yq23 zq23
      obtain ⟨rfl, N23q, K23, P23_0⟩ := hQ23
      have N23 := Fr.app N0 N23q
      have Zn23 : n0 ≤ T23.heap.size := Nat.le_trans Zn20 K23.1
      have P23_0x : Arv Z T23.heap b20 k20 .byte (20 : Int32) (own_pl own_buf0 (0 : Int32) p0) (.int (0 : Int32)) := P23_0
      refine own_step st23 ?_
      show own_Run p e below T23 (mkF m 30 #[.val (.int p0), .val (.int p1), .val (.int p2), .val (.int p3), .val (.int p4), .val (.int p5), .val (.ref b20), .val (.int (p5 &&& (3 : Int32))), .val (.int (0 : Int32)), .unset, .unset] [(.int (own_r1 (0 : Int32) p0))]) _
      refine own_step (fun t k => XS.istore X23.here hx rfl (hb hby at_30) rfl (l' := #[.val (.int p0), .val (.int p1), .val (.int p2), .val (.int p3), .val (.int p4), .val (.int p5), .val (.ref b20), .val (.int (p5 &&& (3 : Int32))), .val (.int (own_r1 (0 : Int32) p0)), .unset, .unset]) rfl k) ?_
      show own_Run p e below T23 (mkF m 32 #[.val (.int p0), .val (.int p1), .val (.int p2), .val (.int p3), .val (.int p4), .val (.int p5), .val (.ref b20), .val (.int (p5 &&& (3 : Int32))), .val (.int (own_r1 (0 : Int32) p0)), .unset, .unset] []) _
      have hj0 : (own_f0_j32_L8 p5 p0) = (own_r1 (0 : Int32) p0) := (if_neg hc22)
      have hj1 : (own_f0_j32_V0 p5 p0) = (own_pl own_buf0 (0 : Int32) p0) := (if_neg hc22)
      exact own_here ⟨T23, _, _, (by rw [hj0] <;> rfl), X23, rfl, N23, Zn23, (by rw [hj1]; exact P23_0x)⟩
  refine own_tr st21 ?_
  show own_Run p e below T21 (mkF m 32 #[.val (.int p0), .val (.int p1), .val (.int p2), .val (.int p3), .val (.int p4), .val (.int p5), .val (.ref b20), .val (.int (p5 &&& (3 : Int32))), .val (.int (own_f0_j32_L8 p5 p0)), .unset, .unset] []) _
  refine own_step (fun t k => XS.iload X21.here hx rfl (hb hby at_32) rfl  k) ?_
  show own_Run p e below T21 (mkF m 34 #[.val (.int p0), .val (.int p1), .val (.int p2), .val (.int p3), .val (.int p4), .val (.int p5), .val (.ref b20), .val (.int (p5 &&& (3 : Int32))), .val (.int (own_f0_j32_L8 p5 p0)), .unset, .unset] [(.int (own_f0_j32_L8 p5 p0))]) _
  refine own_step (fun t k => XS.istore X21.here hx rfl (hb hby at_34) rfl (l' := #[.val (.int p0), .val (.int p1), .val (.int p2), .val (.int p3), .val (.int p4), .val (.int p5), .val (.ref b20), .val (.int (p5 &&& (3 : Int32))), .val (.int (own_f0_j32_L8 p5 p0)), .val (.int (own_f0_j32_L8 p5 p0)), .unset]) rfl k) ?_
  show own_Run p e below T21 (mkF m 36 #[.val (.int p0), .val (.int p1), .val (.int p2), .val (.int p3), .val (.int p4), .val (.int p5), .val (.ref b20), .val (.int (p5 &&& (3 : Int32))), .val (.int (own_f0_j32_L8 p5 p0)), .val (.int (own_f0_j32_L8 p5 p0)), .unset] []) _
  refine own_step (fun t k => XS.iload X21.here hx rfl (hb hby at_36) rfl  k) ?_
  show own_Run p e below T21 (mkF m 38 #[.val (.int p0), .val (.int p1), .val (.int p2), .val (.int p3), .val (.int p4), .val (.int p5), .val (.ref b20), .val (.int (p5 &&& (3 : Int32))), .val (.int (own_f0_j32_L8 p5 p0)), .val (.int (own_f0_j32_L8 p5 p0)), .unset] [(.int (p5 &&& (3 : Int32)))]) _
  refine own_step (fun t k => XS.iconst X21.here hx rfl (hb hby at_38) k) ?_
  show own_Run p e below T21 (mkF m 39 #[.val (.int p0), .val (.int p1), .val (.int p2), .val (.int p3), .val (.int p4), .val (.int p5), .val (.ref b20), .val (.int (p5 &&& (3 : Int32))), .val (.int (own_f0_j32_L8 p5 p0)), .val (.int (own_f0_j32_L8 p5 p0)), .unset] [(.int (1 : Int32)), (.int (p5 &&& (3 : Int32)))]) _
  obtain ⟨_, st24, T24, L24, h24, rfl, X24, e24, N24, Zn24, F24_0⟩ : own_Run p e below T21 (mkF m 39 #[.val (.int p0), .val (.int p1), .val (.int p2), .val (.int p3), .val (.int p4), .val (.int p5), .val (.ref b20), .val (.int (p5 &&& (3 : Int32))), .val (.int (own_f0_j32_L8 p5 p0)), .val (.int (own_f0_j32_L8 p5 p0)), .unset] [(.int (1 : Int32)), (.int (p5 &&& (3 : Int32)))]) (fun t => ∃ (T' : State) (L' : List Loc) (h' : Heap), t = T'.setTop (mkF m 52 #[.val (.int p0), .val (.int p1), .val (.int p2), .val (.int p3), .val (.int p4), .val (.int p5), .val (.ref b20), .val (.int (p5 &&& (3 : Int32))), .val (.int (own_f0_j52_L8 p5 p0 p1)), .val (.int (own_f0_j32_L8 p5 p0)), .unset] []) ∧ Stand p l e room_1 s m #[(.int p0), (.int p1), (.int p2), (.int p3), (.int p4), (.int p5)] below meth c T' L' 1 20 ∧ T'.heap = h' ∧ Fr n0 L' ∧ n0 ≤ h'.size ∧ Arv Z h' b20 k20 .byte (20 : Int32) (own_f0_j52_V0 p5 p0 p1) (.int (0 : Int32))) := by
    by_cases hc25 : (p5 &&& (3 : Int32)) < (1 : Int32)
    · refine own_step (fun t k => XS.icmpYes X21.here hx rfl (pc0 := 39) (pc' := 52) rfl (hb hby at_39) rfl (tlt hc25).1 (by decide) (by decide) k) ?_
      show own_Run p e below T21 (mkF m 52 #[.val (.int p0), .val (.int p1), .val (.int p2), .val (.int p3), .val (.int p4), .val (.int p5), .val (.ref b20), .val (.int (p5 &&& (3 : Int32))), .val (.int (own_f0_j32_L8 p5 p0)), .val (.int (own_f0_j32_L8 p5 p0)), .unset] []) _
      have hj0 : (own_f0_j52_L8 p5 p0 p1) = (own_f0_j32_L8 p5 p0) := (if_pos hc25)
      have hj1 : (own_f0_j52_V0 p5 p0 p1) = (own_f0_j32_V0 p5 p0) := (if_pos hc25)
      exact own_here ⟨T21, _, _, (by rw [hj0] <;> rfl), X21, e21, N21, Zn21, (by rw [hj1]; exact F21_0)⟩
    · refine own_step (fun t k => XS.icmpNo X21.here hx rfl (hb hby at_39) rfl (flt hc25).1 k) ?_
      show own_Run p e below T21 (mkF m 42 #[.val (.int p0), .val (.int p1), .val (.int p2), .val (.int p3), .val (.int p4), .val (.int p5), .val (.ref b20), .val (.int (p5 &&& (3 : Int32))), .val (.int (own_f0_j32_L8 p5 p0)), .val (.int (own_f0_j32_L8 p5 p0)), .unset] []) _
      refine own_step (fun t k => XS.aload X21.here hx rfl (hb hby at_42) rfl rfl k) ?_
      show own_Run p e below T21 (mkF m 44 #[.val (.int p0), .val (.int p1), .val (.int p2), .val (.int p3), .val (.int p4), .val (.int p5), .val (.ref b20), .val (.int (p5 &&& (3 : Int32))), .val (.int (own_f0_j32_L8 p5 p0)), .val (.int (own_f0_j32_L8 p5 p0)), .unset] [(.ref b20)]) _
      refine own_step (fun t k => XS.iload X21.here hx rfl (hb hby at_44) rfl  k) ?_
      show own_Run p e below T21 (mkF m 46 #[.val (.int p0), .val (.int p1), .val (.int p2), .val (.int p3), .val (.int p4), .val (.int p5), .val (.ref b20), .val (.int (p5 &&& (3 : Int32))), .val (.int (own_f0_j32_L8 p5 p0)), .val (.int (own_f0_j32_L8 p5 p0)), .unset] [(.int (own_f0_j32_L8 p5 p0)), (.ref b20)]) _
      refine own_step (fun t k => XS.iloadN X21.here hx rfl (hb hby at_46) rfl  k) ?_
      show own_Run p e below T21 (mkF m 47 #[.val (.int p0), .val (.int p1), .val (.int p2), .val (.int p3), .val (.int p4), .val (.int p5), .val (.ref b20), .val (.int (p5 &&& (3 : Int32))), .val (.int (own_f0_j32_L8 p5 p0)), .val (.int (own_f0_j32_L8 p5 p0)), .unset] [(.int p1), (.int (own_f0_j32_L8 p5 p0)), (.ref b20)]) _
      obtain ⟨_, _, ⟨T26, L26, kq26, nq26⟩, -, X26, ⟨Lc26, hQ26, lq26, yq26, zq26⟩, st26⟩ := Jvm.LawKit.callS X21 hx (y := (⟨"com/example/fuxi/fuxi/codec/Utf8CodePointCountPinLaw", "put", "([BII)I"⟩ : MethodName)) hown (mvT hZ (hw _ (List.mem_of_getElem? (i := 1) rfl))) (mvT hZ (hw _ (List.mem_of_getElem? (i := 2) rfl))) (mvT hZ (hw _ (List.mem_of_getElem? (i := 3) rfl))) (mvT hZ (hw _ (List.mem_of_getElem? (i := 4) rfl))) (by decide) (backOf (W := 0) (rm1 l Z av0 hw [] b20 (own_f0_j32_L8 p5 p0) p1 k20 (own_f0_j32_V0 p5 p0) h21 n0 Zn21 (own_bd_own_f0_j32_L8 p5 p0) (own_ln_own_f0_j32_V0 p5 p0) geb20 F21_0) hZ (hw _ (List.mem_of_getElem? (i := 4) rfl)) (hw _ (List.mem_of_getElem? (i := 3) rfl)) (by decide) (by decide)) (g := (mkF m 47 #[.val (.int p0), .val (.int p1), .val (.int p2), .val (.int p3), .val (.int p4), .val (.int p5), .val (.ref b20), .val (.int (p5 &&& (3 : Int32))), .val (.int (own_f0_j32_L8 p5 p0)), .val (.int (own_f0_j32_L8 p5 p0)), .unset] [(.int p1), (.int (own_f0_j32_L8 p5 p0)), (.ref b20)])) rfl (by rw [hml]; rfl) (argsL := [(.ref b20), (.int (own_f0_j32_L8 p5 p0)), (.int p1)]) (rest := []) (lenOf own_pd182 rfl) rfl (by show 2 * 0 + _ ≤ _; exact Nat.le_of_eq rfl) (hb hby at_47) (fun _ _ => ⟨rfl, e21, (by decide : 1 + 0 ≤ _), (by decide : 20 + 0 ≤ _)⟩)
      dsimp only [Pt.U, Pt.locs, Pt.cells, Pt.slots] at X26 lq26 yq26 zq26 st26 hQ26
      subst lq26 yq26 zq26
      obtain ⟨rfl, N26q, K26, P26_0⟩ := hQ26
      have N26 := Fr.app N21 N26q
      have Zn26 : n0 ≤ T26.heap.size := Nat.le_trans Zn21 K26.1
      have P26_0x : Arv Z T26.heap b20 k20 .byte (20 : Int32) (own_pl (own_f0_j32_V0 p5 p0) (own_f0_j32_L8 p5 p0) p1) (.int (0 : Int32)) := P26_0
      refine own_step st26 ?_
      show own_Run p e below T26 (mkF m 50 #[.val (.int p0), .val (.int p1), .val (.int p2), .val (.int p3), .val (.int p4), .val (.int p5), .val (.ref b20), .val (.int (p5 &&& (3 : Int32))), .val (.int (own_f0_j32_L8 p5 p0)), .val (.int (own_f0_j32_L8 p5 p0)), .unset] [(.int (own_r1 (own_f0_j32_L8 p5 p0) p1))]) _
      refine own_step (fun t k => XS.istore X26.here hx rfl (hb hby at_50) rfl (l' := #[.val (.int p0), .val (.int p1), .val (.int p2), .val (.int p3), .val (.int p4), .val (.int p5), .val (.ref b20), .val (.int (p5 &&& (3 : Int32))), .val (.int (own_f0_50 p5 p0 p1)), .val (.int (own_f0_j32_L8 p5 p0)), .unset]) rfl k) ?_
      show own_Run p e below T26 (mkF m 52 #[.val (.int p0), .val (.int p1), .val (.int p2), .val (.int p3), .val (.int p4), .val (.int p5), .val (.ref b20), .val (.int (p5 &&& (3 : Int32))), .val (.int (own_f0_50 p5 p0 p1)), .val (.int (own_f0_j32_L8 p5 p0)), .unset] []) _
      have hj0 : (own_f0_j52_L8 p5 p0 p1) = (own_f0_50 p5 p0 p1) := (if_neg hc25)
      have hj1 : (own_f0_j52_V0 p5 p0 p1) = (own_pl (own_f0_j32_V0 p5 p0) (own_f0_j32_L8 p5 p0) p1) := (if_neg hc25)
      exact own_here ⟨T26, _, _, (by rw [hj0] <;> rfl), X26, rfl, N26, Zn26, (by rw [hj1]; exact P26_0x)⟩
  refine own_tr st24 ?_
  show own_Run p e below T24 (mkF m 52 #[.val (.int p0), .val (.int p1), .val (.int p2), .val (.int p3), .val (.int p4), .val (.int p5), .val (.ref b20), .val (.int (p5 &&& (3 : Int32))), .val (.int (own_f0_j52_L8 p5 p0 p1)), .val (.int (own_f0_j32_L8 p5 p0)), .unset] []) _
  refine own_step (fun t k => XS.iload X24.here hx rfl (hb hby at_52) rfl  k) ?_
  show own_Run p e below T24 (mkF m 54 #[.val (.int p0), .val (.int p1), .val (.int p2), .val (.int p3), .val (.int p4), .val (.int p5), .val (.ref b20), .val (.int (p5 &&& (3 : Int32))), .val (.int (own_f0_j52_L8 p5 p0 p1)), .val (.int (own_f0_j32_L8 p5 p0)), .unset] [(.int (p5 &&& (3 : Int32)))]) _
  refine own_step (fun t k => XS.iconst X24.here hx rfl (hb hby at_54) k) ?_
  show own_Run p e below T24 (mkF m 55 #[.val (.int p0), .val (.int p1), .val (.int p2), .val (.int p3), .val (.int p4), .val (.int p5), .val (.ref b20), .val (.int (p5 &&& (3 : Int32))), .val (.int (own_f0_j52_L8 p5 p0 p1)), .val (.int (own_f0_j32_L8 p5 p0)), .unset] [(.int (2 : Int32)), (.int (p5 &&& (3 : Int32)))]) _
  obtain ⟨_, st27, T27, L27, h27, rfl, X27, e27, N27, Zn27, F27_0⟩ : own_Run p e below T24 (mkF m 55 #[.val (.int p0), .val (.int p1), .val (.int p2), .val (.int p3), .val (.int p4), .val (.int p5), .val (.ref b20), .val (.int (p5 &&& (3 : Int32))), .val (.int (own_f0_j52_L8 p5 p0 p1)), .val (.int (own_f0_j32_L8 p5 p0)), .unset] [(.int (2 : Int32)), (.int (p5 &&& (3 : Int32)))]) (fun t => ∃ (T' : State) (L' : List Loc) (h' : Heap), t = T'.setTop (mkF m 68 #[.val (.int p0), .val (.int p1), .val (.int p2), .val (.int p3), .val (.int p4), .val (.int p5), .val (.ref b20), .val (.int (p5 &&& (3 : Int32))), .val (.int (own_f0_j68_L8 p5 p0 p1 p2)), .val (.int (own_f0_j32_L8 p5 p0)), .unset] []) ∧ Stand p l e room_1 s m #[(.int p0), (.int p1), (.int p2), (.int p3), (.int p4), (.int p5)] below meth c T' L' 1 20 ∧ T'.heap = h' ∧ Fr n0 L' ∧ n0 ≤ h'.size ∧ Arv Z h' b20 k20 .byte (20 : Int32) (own_f0_j68_V0 p5 p0 p1 p2) (.int (0 : Int32))) := by
    by_cases hc28 : (p5 &&& (3 : Int32)) < (2 : Int32)
    · refine own_step (fun t k => XS.icmpYes X24.here hx rfl (pc0 := 55) (pc' := 68) rfl (hb hby at_55) rfl (tlt hc28).1 (by decide) (by decide) k) ?_
      show own_Run p e below T24 (mkF m 68 #[.val (.int p0), .val (.int p1), .val (.int p2), .val (.int p3), .val (.int p4), .val (.int p5), .val (.ref b20), .val (.int (p5 &&& (3 : Int32))), .val (.int (own_f0_j52_L8 p5 p0 p1)), .val (.int (own_f0_j32_L8 p5 p0)), .unset] []) _
      have hj0 : (own_f0_j68_L8 p5 p0 p1 p2) = (own_f0_j52_L8 p5 p0 p1) := (if_pos hc28)
      have hj1 : (own_f0_j68_V0 p5 p0 p1 p2) = (own_f0_j52_V0 p5 p0 p1) := (if_pos hc28)
      exact own_here ⟨T24, _, _, (by rw [hj0] <;> rfl), X24, e24, N24, Zn24, (by rw [hj1]; exact F24_0)⟩
    · refine own_step (fun t k => XS.icmpNo X24.here hx rfl (hb hby at_55) rfl (flt hc28).1 k) ?_
      show own_Run p e below T24 (mkF m 58 #[.val (.int p0), .val (.int p1), .val (.int p2), .val (.int p3), .val (.int p4), .val (.int p5), .val (.ref b20), .val (.int (p5 &&& (3 : Int32))), .val (.int (own_f0_j52_L8 p5 p0 p1)), .val (.int (own_f0_j32_L8 p5 p0)), .unset] []) _
      refine own_step (fun t k => XS.aload X24.here hx rfl (hb hby at_58) rfl rfl k) ?_
      show own_Run p e below T24 (mkF m 60 #[.val (.int p0), .val (.int p1), .val (.int p2), .val (.int p3), .val (.int p4), .val (.int p5), .val (.ref b20), .val (.int (p5 &&& (3 : Int32))), .val (.int (own_f0_j52_L8 p5 p0 p1)), .val (.int (own_f0_j32_L8 p5 p0)), .unset] [(.ref b20)]) _
      refine own_step (fun t k => XS.iload X24.here hx rfl (hb hby at_60) rfl  k) ?_
      show own_Run p e below T24 (mkF m 62 #[.val (.int p0), .val (.int p1), .val (.int p2), .val (.int p3), .val (.int p4), .val (.int p5), .val (.ref b20), .val (.int (p5 &&& (3 : Int32))), .val (.int (own_f0_j52_L8 p5 p0 p1)), .val (.int (own_f0_j32_L8 p5 p0)), .unset] [(.int (own_f0_j52_L8 p5 p0 p1)), (.ref b20)]) _
      refine own_step (fun t k => XS.iloadN X24.here hx rfl (hb hby at_62) rfl  k) ?_
      show own_Run p e below T24 (mkF m 63 #[.val (.int p0), .val (.int p1), .val (.int p2), .val (.int p3), .val (.int p4), .val (.int p5), .val (.ref b20), .val (.int (p5 &&& (3 : Int32))), .val (.int (own_f0_j52_L8 p5 p0 p1)), .val (.int (own_f0_j32_L8 p5 p0)), .unset] [(.int p2), (.int (own_f0_j52_L8 p5 p0 p1)), (.ref b20)]) _
      obtain ⟨_, _, ⟨T29, L29, kq29, nq29⟩, -, X29, ⟨Lc29, hQ29, lq29, yq29, zq29⟩, st29⟩ := Jvm.LawKit.callS X24 hx (y := (⟨"com/example/fuxi/fuxi/codec/Utf8CodePointCountPinLaw", "put", "([BII)I"⟩ : MethodName)) hown (mvT hZ (hw _ (List.mem_of_getElem? (i := 1) rfl))) (mvT hZ (hw _ (List.mem_of_getElem? (i := 2) rfl))) (mvT hZ (hw _ (List.mem_of_getElem? (i := 3) rfl))) (mvT hZ (hw _ (List.mem_of_getElem? (i := 4) rfl))) (by decide) (backOf (W := 0) (rm1 l Z av0 hw [] b20 (own_f0_j52_L8 p5 p0 p1) p2 k20 (own_f0_j52_V0 p5 p0 p1) h24 n0 Zn24 (own_bd_own_f0_j52_L8 p5 p0 p1) (own_ln_own_f0_j52_V0 p5 p0 p1) geb20 F24_0) hZ (hw _ (List.mem_of_getElem? (i := 4) rfl)) (hw _ (List.mem_of_getElem? (i := 3) rfl)) (by decide) (by decide)) (g := (mkF m 63 #[.val (.int p0), .val (.int p1), .val (.int p2), .val (.int p3), .val (.int p4), .val (.int p5), .val (.ref b20), .val (.int (p5 &&& (3 : Int32))), .val (.int (own_f0_j52_L8 p5 p0 p1)), .val (.int (own_f0_j32_L8 p5 p0)), .unset] [(.int p2), (.int (own_f0_j52_L8 p5 p0 p1)), (.ref b20)])) rfl (by rw [hml]; rfl) (argsL := [(.ref b20), (.int (own_f0_j52_L8 p5 p0 p1)), (.int p2)]) (rest := []) (lenOf own_pd182 rfl) rfl (by show 2 * 0 + _ ≤ _; exact Nat.le_of_eq rfl) (hb hby at_63) (fun _ _ => ⟨rfl, e24, (by decide : 1 + 0 ≤ _), (by decide : 20 + 0 ≤ _)⟩)
      dsimp only [Pt.U, Pt.locs, Pt.cells, Pt.slots] at X29 lq29 yq29 zq29 st29 hQ29
      subst lq29 yq29 zq29
      obtain ⟨rfl, N29q, K29, P29_0⟩ := hQ29
      have N29 := Fr.app N24 N29q
      have Zn29 : n0 ≤ T29.heap.size := Nat.le_trans Zn24 K29.1
      have P29_0x : Arv Z T29.heap b20 k20 .byte (20 : Int32) (own_pl (own_f0_j52_V0 p5 p0 p1) (own_f0_j52_L8 p5 p0 p1) p2) (.int (0 : Int32)) := P29_0
      refine own_step st29 ?_
      show own_Run p e below T29 (mkF m 66 #[.val (.int p0), .val (.int p1), .val (.int p2), .val (.int p3), .val (.int p4), .val (.int p5), .val (.ref b20), .val (.int (p5 &&& (3 : Int32))), .val (.int (own_f0_j52_L8 p5 p0 p1)), .val (.int (own_f0_j32_L8 p5 p0)), .unset] [(.int (own_r1 (own_f0_j52_L8 p5 p0 p1) p2))]) _
      refine own_step (fun t k => XS.istore X29.here hx rfl (hb hby at_66) rfl (l' := #[.val (.int p0), .val (.int p1), .val (.int p2), .val (.int p3), .val (.int p4), .val (.int p5), .val (.ref b20), .val (.int (p5 &&& (3 : Int32))), .val (.int (own_f0_66 p5 p0 p1 p2)), .val (.int (own_f0_j32_L8 p5 p0)), .unset]) rfl k) ?_
      show own_Run p e below T29 (mkF m 68 #[.val (.int p0), .val (.int p1), .val (.int p2), .val (.int p3), .val (.int p4), .val (.int p5), .val (.ref b20), .val (.int (p5 &&& (3 : Int32))), .val (.int (own_f0_66 p5 p0 p1 p2)), .val (.int (own_f0_j32_L8 p5 p0)), .unset] []) _
      have hj0 : (own_f0_j68_L8 p5 p0 p1 p2) = (own_f0_66 p5 p0 p1 p2) := (if_neg hc28)
      have hj1 : (own_f0_j68_V0 p5 p0 p1 p2) = (own_pl (own_f0_j52_V0 p5 p0 p1) (own_f0_j52_L8 p5 p0 p1) p2) := (if_neg hc28)
      exact own_here ⟨T29, _, _, (by rw [hj0] <;> rfl), X29, rfl, N29, Zn29, (by rw [hj1]; exact P29_0x)⟩
  refine own_tr st27 ?_
  show own_Run p e below T27 (mkF m 68 #[.val (.int p0), .val (.int p1), .val (.int p2), .val (.int p3), .val (.int p4), .val (.int p5), .val (.ref b20), .val (.int (p5 &&& (3 : Int32))), .val (.int (own_f0_j68_L8 p5 p0 p1 p2)), .val (.int (own_f0_j32_L8 p5 p0)), .unset] []) _
  refine own_step (fun t k => XS.iload X27.here hx rfl (hb hby at_68) rfl  k) ?_
  show own_Run p e below T27 (mkF m 70 #[.val (.int p0), .val (.int p1), .val (.int p2), .val (.int p3), .val (.int p4), .val (.int p5), .val (.ref b20), .val (.int (p5 &&& (3 : Int32))), .val (.int (own_f0_j68_L8 p5 p0 p1 p2)), .val (.int (own_f0_j32_L8 p5 p0)), .unset] [(.int (p5 &&& (3 : Int32)))]) _
  refine own_step (fun t k => XS.iconst X27.here hx rfl (hb hby at_70) k) ?_
  show own_Run p e below T27 (mkF m 71 #[.val (.int p0), .val (.int p1), .val (.int p2), .val (.int p3), .val (.int p4), .val (.int p5), .val (.ref b20), .val (.int (p5 &&& (3 : Int32))), .val (.int (own_f0_j68_L8 p5 p0 p1 p2)), .val (.int (own_f0_j32_L8 p5 p0)), .unset] [(.int (3 : Int32)), (.int (p5 &&& (3 : Int32)))]) _
  obtain ⟨_, st30, T30, L30, h30, rfl, X30, e30, N30, Zn30, F30_0⟩ : own_Run p e below T27 (mkF m 71 #[.val (.int p0), .val (.int p1), .val (.int p2), .val (.int p3), .val (.int p4), .val (.int p5), .val (.ref b20), .val (.int (p5 &&& (3 : Int32))), .val (.int (own_f0_j68_L8 p5 p0 p1 p2)), .val (.int (own_f0_j32_L8 p5 p0)), .unset] [(.int (3 : Int32)), (.int (p5 &&& (3 : Int32)))]) (fun t => ∃ (T' : State) (L' : List Loc) (h' : Heap), t = T'.setTop (mkF m 84 #[.val (.int p0), .val (.int p1), .val (.int p2), .val (.int p3), .val (.int p4), .val (.int p5), .val (.ref b20), .val (.int (p5 &&& (3 : Int32))), .val (.int (own_f0_j84_L8 p5 p0 p1 p2 p3)), .val (.int (own_f0_j32_L8 p5 p0)), .unset] []) ∧ Stand p l e room_1 s m #[(.int p0), (.int p1), (.int p2), (.int p3), (.int p4), (.int p5)] below meth c T' L' 1 20 ∧ T'.heap = h' ∧ Fr n0 L' ∧ n0 ≤ h'.size ∧ Arv Z h' b20 k20 .byte (20 : Int32) (own_f0_j84_V0 p5 p0 p1 p2 p3) (.int (0 : Int32))) := by
    by_cases hc31 : (p5 &&& (3 : Int32)) < (3 : Int32)
    · refine own_step (fun t k => XS.icmpYes X27.here hx rfl (pc0 := 71) (pc' := 84) rfl (hb hby at_71) rfl (tlt hc31).1 (by decide) (by decide) k) ?_
      show own_Run p e below T27 (mkF m 84 #[.val (.int p0), .val (.int p1), .val (.int p2), .val (.int p3), .val (.int p4), .val (.int p5), .val (.ref b20), .val (.int (p5 &&& (3 : Int32))), .val (.int (own_f0_j68_L8 p5 p0 p1 p2)), .val (.int (own_f0_j32_L8 p5 p0)), .unset] []) _
      have hj0 : (own_f0_j84_L8 p5 p0 p1 p2 p3) = (own_f0_j68_L8 p5 p0 p1 p2) := (if_pos hc31)
      have hj1 : (own_f0_j84_V0 p5 p0 p1 p2 p3) = (own_f0_j68_V0 p5 p0 p1 p2) := (if_pos hc31)
      exact own_here ⟨T27, _, _, (by rw [hj0] <;> rfl), X27, e27, N27, Zn27, (by rw [hj1]; exact F27_0)⟩
    · refine own_step (fun t k => XS.icmpNo X27.here hx rfl (hb hby at_71) rfl (flt hc31).1 k) ?_
      show own_Run p e below T27 (mkF m 74 #[.val (.int p0), .val (.int p1), .val (.int p2), .val (.int p3), .val (.int p4), .val (.int p5), .val (.ref b20), .val (.int (p5 &&& (3 : Int32))), .val (.int (own_f0_j68_L8 p5 p0 p1 p2)), .val (.int (own_f0_j32_L8 p5 p0)), .unset] []) _
      refine own_step (fun t k => XS.aload X27.here hx rfl (hb hby at_74) rfl rfl k) ?_
      show own_Run p e below T27 (mkF m 76 #[.val (.int p0), .val (.int p1), .val (.int p2), .val (.int p3), .val (.int p4), .val (.int p5), .val (.ref b20), .val (.int (p5 &&& (3 : Int32))), .val (.int (own_f0_j68_L8 p5 p0 p1 p2)), .val (.int (own_f0_j32_L8 p5 p0)), .unset] [(.ref b20)]) _
      refine own_step (fun t k => XS.iload X27.here hx rfl (hb hby at_76) rfl  k) ?_
      show own_Run p e below T27 (mkF m 78 #[.val (.int p0), .val (.int p1), .val (.int p2), .val (.int p3), .val (.int p4), .val (.int p5), .val (.ref b20), .val (.int (p5 &&& (3 : Int32))), .val (.int (own_f0_j68_L8 p5 p0 p1 p2)), .val (.int (own_f0_j32_L8 p5 p0)), .unset] [(.int (own_f0_j68_L8 p5 p0 p1 p2)), (.ref b20)]) _
      refine own_step (fun t k => XS.iloadN X27.here hx rfl (hb hby at_78) rfl  k) ?_
      show own_Run p e below T27 (mkF m 79 #[.val (.int p0), .val (.int p1), .val (.int p2), .val (.int p3), .val (.int p4), .val (.int p5), .val (.ref b20), .val (.int (p5 &&& (3 : Int32))), .val (.int (own_f0_j68_L8 p5 p0 p1 p2)), .val (.int (own_f0_j32_L8 p5 p0)), .unset] [(.int p3), (.int (own_f0_j68_L8 p5 p0 p1 p2)), (.ref b20)]) _
      obtain ⟨_, _, ⟨T32, L32, kq32, nq32⟩, -, X32, ⟨Lc32, hQ32, lq32, yq32, zq32⟩, st32⟩ := Jvm.LawKit.callS X27 hx (y := (⟨"com/example/fuxi/fuxi/codec/Utf8CodePointCountPinLaw", "put", "([BII)I"⟩ : MethodName)) hown (mvT hZ (hw _ (List.mem_of_getElem? (i := 1) rfl))) (mvT hZ (hw _ (List.mem_of_getElem? (i := 2) rfl))) (mvT hZ (hw _ (List.mem_of_getElem? (i := 3) rfl))) (mvT hZ (hw _ (List.mem_of_getElem? (i := 4) rfl))) (by decide) (backOf (W := 0) (rm1 l Z av0 hw [] b20 (own_f0_j68_L8 p5 p0 p1 p2) p3 k20 (own_f0_j68_V0 p5 p0 p1 p2) h27 n0 Zn27 (own_bd_own_f0_j68_L8 p5 p0 p1 p2) (own_ln_own_f0_j68_V0 p5 p0 p1 p2) geb20 F27_0) hZ (hw _ (List.mem_of_getElem? (i := 4) rfl)) (hw _ (List.mem_of_getElem? (i := 3) rfl)) (by decide) (by decide)) (g := (mkF m 79 #[.val (.int p0), .val (.int p1), .val (.int p2), .val (.int p3), .val (.int p4), .val (.int p5), .val (.ref b20), .val (.int (p5 &&& (3 : Int32))), .val (.int (own_f0_j68_L8 p5 p0 p1 p2)), .val (.int (own_f0_j32_L8 p5 p0)), .unset] [(.int p3), (.int (own_f0_j68_L8 p5 p0 p1 p2)), (.ref b20)])) rfl (by rw [hml]; rfl) (argsL := [(.ref b20), (.int (own_f0_j68_L8 p5 p0 p1 p2)), (.int p3)]) (rest := []) (lenOf own_pd182 rfl) rfl (by show 2 * 0 + _ ≤ _; exact Nat.le_of_eq rfl) (hb hby at_79) (fun _ _ => ⟨rfl, e27, (by decide : 1 + 0 ≤ _), (by decide : 20 + 0 ≤ _)⟩)
      dsimp only [Pt.U, Pt.locs, Pt.cells, Pt.slots] at X32 lq32 yq32 zq32 st32 hQ32
      subst lq32 yq32 zq32
      obtain ⟨rfl, N32q, K32, P32_0⟩ := hQ32
      have N32 := Fr.app N27 N32q
      have Zn32 : n0 ≤ T32.heap.size := Nat.le_trans Zn27 K32.1
      have P32_0x : Arv Z T32.heap b20 k20 .byte (20 : Int32) (own_pl (own_f0_j68_V0 p5 p0 p1 p2) (own_f0_j68_L8 p5 p0 p1 p2) p3) (.int (0 : Int32)) := P32_0
      refine own_step st32 ?_
      show own_Run p e below T32 (mkF m 82 #[.val (.int p0), .val (.int p1), .val (.int p2), .val (.int p3), .val (.int p4), .val (.int p5), .val (.ref b20), .val (.int (p5 &&& (3 : Int32))), .val (.int (own_f0_j68_L8 p5 p0 p1 p2)), .val (.int (own_f0_j32_L8 p5 p0)), .unset] [(.int (own_r1 (own_f0_j68_L8 p5 p0 p1 p2) p3))]) _
      refine own_step (fun t k => XS.istore X32.here hx rfl (hb hby at_82) rfl (l' := #[.val (.int p0), .val (.int p1), .val (.int p2), .val (.int p3), .val (.int p4), .val (.int p5), .val (.ref b20), .val (.int (p5 &&& (3 : Int32))), .val (.int (own_f0_82 p5 p0 p1 p2 p3)), .val (.int (own_f0_j32_L8 p5 p0)), .unset]) rfl k) ?_
      show own_Run p e below T32 (mkF m 84 #[.val (.int p0), .val (.int p1), .val (.int p2), .val (.int p3), .val (.int p4), .val (.int p5), .val (.ref b20), .val (.int (p5 &&& (3 : Int32))), .val (.int (own_f0_82 p5 p0 p1 p2 p3)), .val (.int (own_f0_j32_L8 p5 p0)), .unset] []) _
      have hj0 : (own_f0_j84_L8 p5 p0 p1 p2 p3) = (own_f0_82 p5 p0 p1 p2 p3) := (if_neg hc31)
      have hj1 : (own_f0_j84_V0 p5 p0 p1 p2 p3) = (own_pl (own_f0_j68_V0 p5 p0 p1 p2) (own_f0_j68_L8 p5 p0 p1 p2) p3) := (if_neg hc31)
      exact own_here ⟨T32, _, _, (by rw [hj0] <;> rfl), X32, rfl, N32, Zn32, (by rw [hj1]; exact P32_0x)⟩
  refine own_tr st30 ?_
  show own_Run p e below T30 (mkF m 84 #[.val (.int p0), .val (.int p1), .val (.int p2), .val (.int p3), .val (.int p4), .val (.int p5), .val (.ref b20), .val (.int (p5 &&& (3 : Int32))), .val (.int (own_f0_j84_L8 p5 p0 p1 p2 p3)), .val (.int (own_f0_j32_L8 p5 p0)), .unset] []) _
  refine own_step (fun t k => XS.iload X30.here hx rfl (hb hby at_84) rfl  k) ?_
  show own_Run p e below T30 (mkF m 86 #[.val (.int p0), .val (.int p1), .val (.int p2), .val (.int p3), .val (.int p4), .val (.int p5), .val (.ref b20), .val (.int (p5 &&& (3 : Int32))), .val (.int (own_f0_j84_L8 p5 p0 p1 p2 p3)), .val (.int (own_f0_j32_L8 p5 p0)), .unset] [(.int (own_f0_j84_L8 p5 p0 p1 p2 p3))]) _
  refine own_step (fun t k => XS.istore X30.here hx rfl (hb hby at_86) rfl (l' := #[.val (.int p0), .val (.int p1), .val (.int p2), .val (.int p3), .val (.int p4), .val (.int p5), .val (.ref b20), .val (.int (p5 &&& (3 : Int32))), .val (.int (own_f0_j84_L8 p5 p0 p1 p2 p3)), .val (.int (own_f0_j32_L8 p5 p0)), .val (.int (own_f0_86 p5 p0 p1 p2 p3))]) rfl k) ?_
  show own_Run p e below T30 (mkF m 88 #[.val (.int p0), .val (.int p1), .val (.int p2), .val (.int p3), .val (.int p4), .val (.int p5), .val (.ref b20), .val (.int (p5 &&& (3 : Int32))), .val (.int (own_f0_j84_L8 p5 p0 p1 p2 p3)), .val (.int (own_f0_j32_L8 p5 p0)), .val (.int (own_f0_86 p5 p0 p1 p2 p3))] []) _
  refine own_step (fun t k => XS.iload X30.here hx rfl (hb hby at_88) rfl  k) ?_
  show own_Run p e below T30 (mkF m 90 #[.val (.int p0), .val (.int p1), .val (.int p2), .val (.int p3), .val (.int p4), .val (.int p5), .val (.ref b20), .val (.int (p5 &&& (3 : Int32))), .val (.int (own_f0_j84_L8 p5 p0 p1 p2 p3)), .val (.int (own_f0_j32_L8 p5 p0)), .val (.int (own_f0_86 p5 p0 p1 p2 p3))] [(.int p5)]) _
  refine own_step (fun t k => XS.bipush X30.here hx rfl (hb hby at_90) k) ?_
  show own_Run p e below T30 (mkF m 92 #[.val (.int p0), .val (.int p1), .val (.int p2), .val (.int p3), .val (.int p4), .val (.int p5), .val (.ref b20), .val (.int (p5 &&& (3 : Int32))), .val (.int (own_f0_j84_L8 p5 p0 p1 p2 p3)), .val (.int (own_f0_j32_L8 p5 p0)), .val (.int (own_f0_86 p5 p0 p1 p2 p3))] [(.int (8 : Int32)), (.int p5)]) _
  refine own_step (fun t k => XS.iand X30.here hx rfl (hb hby at_92) rfl k) ?_
  show own_Run p e below T30 (mkF m 93 #[.val (.int p0), .val (.int p1), .val (.int p2), .val (.int p3), .val (.int p4), .val (.int p5), .val (.ref b20), .val (.int (p5 &&& (3 : Int32))), .val (.int (own_f0_j84_L8 p5 p0 p1 p2 p3)), .val (.int (own_f0_j32_L8 p5 p0)), .val (.int (own_f0_86 p5 p0 p1 p2 p3))] [(.int (p5 &&& (8 : Int32)))]) _
  obtain ⟨_, st33, T33, L33, h33, rfl, X33, e33, N33, Zn33, F33_0⟩ : own_Run p e below T30 (mkF m 93 #[.val (.int p0), .val (.int p1), .val (.int p2), .val (.int p3), .val (.int p4), .val (.int p5), .val (.ref b20), .val (.int (p5 &&& (3 : Int32))), .val (.int (own_f0_j84_L8 p5 p0 p1 p2 p3)), .val (.int (own_f0_j32_L8 p5 p0)), .val (.int (own_f0_86 p5 p0 p1 p2 p3))] [(.int (p5 &&& (8 : Int32)))]) (fun t => ∃ (T' : State) (L' : List Loc) (h' : Heap), t = T'.setTop (mkF m 107 #[.val (.int p0), .val (.int p1), .val (.int p2), .val (.int p3), .val (.int p4), .val (.int p5), .val (.ref b20), .val (.int (p5 &&& (3 : Int32))), .val (.int (own_f0_j107_L8 p5 p0 p1 p2 p3 p4)), .val (.int (own_f0_j32_L8 p5 p0)), .val (.int (own_f0_86 p5 p0 p1 p2 p3))] []) ∧ Stand p l e room_1 s m #[(.int p0), (.int p1), (.int p2), (.int p3), (.int p4), (.int p5)] below meth c T' L' 1 20 ∧ T'.heap = h' ∧ Fr n0 L' ∧ n0 ≤ h'.size ∧ Arv Z h' b20 k20 .byte (20 : Int32) (own_f0_j107_V0 p5 p0 p1 p2 p3 p4) (.int (0 : Int32))) := by
    by_cases hc34 : (p5 &&& (8 : Int32)) = (0 : Int32)
    · refine own_step (fun t k => XS.ifYes X30.here hx rfl (pc0 := 93) (pc' := 107) rfl (hb hby at_93) rfl ((if0 _ _).trans (teq hc34).1) (by decide) (by decide) k) ?_
      show own_Run p e below T30 (mkF m 107 #[.val (.int p0), .val (.int p1), .val (.int p2), .val (.int p3), .val (.int p4), .val (.int p5), .val (.ref b20), .val (.int (p5 &&& (3 : Int32))), .val (.int (own_f0_j84_L8 p5 p0 p1 p2 p3)), .val (.int (own_f0_j32_L8 p5 p0)), .val (.int (own_f0_86 p5 p0 p1 p2 p3))] []) _
      have hj0 : (own_f0_j107_L8 p5 p0 p1 p2 p3 p4) = (own_f0_j84_L8 p5 p0 p1 p2 p3) := (if_pos hc34)
      have hj1 : (own_f0_j107_V0 p5 p0 p1 p2 p3 p4) = (own_f0_j84_V0 p5 p0 p1 p2 p3) := (if_pos hc34)
      exact own_here ⟨T30, _, _, (by rw [hj0] <;> rfl), X30, e30, N30, Zn30, (by rw [hj1]; exact F30_0)⟩
    · refine own_step (fun t k => XS.ifNo X30.here hx rfl (hb hby at_93) rfl ((if0 _ _).trans (feq hc34).1) k) ?_
      show own_Run p e below T30 (mkF m 96 #[.val (.int p0), .val (.int p1), .val (.int p2), .val (.int p3), .val (.int p4), .val (.int p5), .val (.ref b20), .val (.int (p5 &&& (3 : Int32))), .val (.int (own_f0_j84_L8 p5 p0 p1 p2 p3)), .val (.int (own_f0_j32_L8 p5 p0)), .val (.int (own_f0_86 p5 p0 p1 p2 p3))] []) _
      refine own_step (fun t k => XS.aload X30.here hx rfl (hb hby at_96) rfl rfl k) ?_
      show own_Run p e below T30 (mkF m 98 #[.val (.int p0), .val (.int p1), .val (.int p2), .val (.int p3), .val (.int p4), .val (.int p5), .val (.ref b20), .val (.int (p5 &&& (3 : Int32))), .val (.int (own_f0_j84_L8 p5 p0 p1 p2 p3)), .val (.int (own_f0_j32_L8 p5 p0)), .val (.int (own_f0_86 p5 p0 p1 p2 p3))] [(.ref b20)]) _
      refine own_step (fun t k => XS.iload X30.here hx rfl (hb hby at_98) rfl  k) ?_
      show own_Run p e below T30 (mkF m 100 #[.val (.int p0), .val (.int p1), .val (.int p2), .val (.int p3), .val (.int p4), .val (.int p5), .val (.ref b20), .val (.int (p5 &&& (3 : Int32))), .val (.int (own_f0_j84_L8 p5 p0 p1 p2 p3)), .val (.int (own_f0_j32_L8 p5 p0)), .val (.int (own_f0_86 p5 p0 p1 p2 p3))] [(.int (own_f0_j84_L8 p5 p0 p1 p2 p3)), (.ref b20)]) _
      refine own_step (fun t k => XS.iload X30.here hx rfl (hb hby at_100) rfl  k) ?_
      show own_Run p e below T30 (mkF m 102 #[.val (.int p0), .val (.int p1), .val (.int p2), .val (.int p3), .val (.int p4), .val (.int p5), .val (.ref b20), .val (.int (p5 &&& (3 : Int32))), .val (.int (own_f0_j84_L8 p5 p0 p1 p2 p3)), .val (.int (own_f0_j32_L8 p5 p0)), .val (.int (own_f0_86 p5 p0 p1 p2 p3))] [(.int p4), (.int (own_f0_j84_L8 p5 p0 p1 p2 p3)), (.ref b20)]) _
      obtain ⟨_, _, ⟨T35, L35, kq35, nq35⟩, -, X35, ⟨Lc35, hQ35, lq35, yq35, zq35⟩, st35⟩ := Jvm.LawKit.callS X30 hx (y := (⟨"com/example/fuxi/fuxi/codec/Utf8CodePointCountPinLaw", "put", "([BII)I"⟩ : MethodName)) hown (mvT hZ (hw _ (List.mem_of_getElem? (i := 1) rfl))) (mvT hZ (hw _ (List.mem_of_getElem? (i := 2) rfl))) (mvT hZ (hw _ (List.mem_of_getElem? (i := 3) rfl))) (mvT hZ (hw _ (List.mem_of_getElem? (i := 4) rfl))) (by decide) (backOf (W := 0) (rm1 l Z av0 hw [] b20 (own_f0_j84_L8 p5 p0 p1 p2 p3) p4 k20 (own_f0_j84_V0 p5 p0 p1 p2 p3) h30 n0 Zn30 (own_bd_own_f0_j84_L8 p5 p0 p1 p2 p3) (own_ln_own_f0_j84_V0 p5 p0 p1 p2 p3) geb20 F30_0) hZ (hw _ (List.mem_of_getElem? (i := 4) rfl)) (hw _ (List.mem_of_getElem? (i := 3) rfl)) (by decide) (by decide)) (g := (mkF m 102 #[.val (.int p0), .val (.int p1), .val (.int p2), .val (.int p3), .val (.int p4), .val (.int p5), .val (.ref b20), .val (.int (p5 &&& (3 : Int32))), .val (.int (own_f0_j84_L8 p5 p0 p1 p2 p3)), .val (.int (own_f0_j32_L8 p5 p0)), .val (.int (own_f0_86 p5 p0 p1 p2 p3))] [(.int p4), (.int (own_f0_j84_L8 p5 p0 p1 p2 p3)), (.ref b20)])) rfl (by rw [hml]; rfl) (argsL := [(.ref b20), (.int (own_f0_j84_L8 p5 p0 p1 p2 p3)), (.int p4)]) (rest := []) (lenOf own_pd182 rfl) rfl (by show 2 * 0 + _ ≤ _; exact Nat.le_of_eq rfl) (hb hby at_102) (fun _ _ => ⟨rfl, e30, (by decide : 1 + 0 ≤ _), (by decide : 20 + 0 ≤ _)⟩)
      dsimp only [Pt.U, Pt.locs, Pt.cells, Pt.slots] at X35 lq35 yq35 zq35 st35 hQ35
      subst lq35 yq35 zq35
      obtain ⟨rfl, N35q, K35, P35_0⟩ := hQ35
      have N35 := Fr.app N30 N35q
      have Zn35 : n0 ≤ T35.heap.size := Nat.le_trans Zn30 K35.1
      have P35_0x : Arv Z T35.heap b20 k20 .byte (20 : Int32) (own_pl (own_f0_j84_V0 p5 p0 p1 p2 p3) (own_f0_j84_L8 p5 p0 p1 p2 p3) p4) (.int (0 : Int32)) := P35_0
      refine own_step st35 ?_
      show own_Run p e below T35 (mkF m 105 #[.val (.int p0), .val (.int p1), .val (.int p2), .val (.int p3), .val (.int p4), .val (.int p5), .val (.ref b20), .val (.int (p5 &&& (3 : Int32))), .val (.int (own_f0_j84_L8 p5 p0 p1 p2 p3)), .val (.int (own_f0_j32_L8 p5 p0)), .val (.int (own_f0_86 p5 p0 p1 p2 p3))] [(.int (own_r1 (own_f0_j84_L8 p5 p0 p1 p2 p3) p4))]) _
      refine own_step (fun t k => XS.istore X35.here hx rfl (hb hby at_105) rfl (l' := #[.val (.int p0), .val (.int p1), .val (.int p2), .val (.int p3), .val (.int p4), .val (.int p5), .val (.ref b20), .val (.int (p5 &&& (3 : Int32))), .val (.int (own_f0_105 p5 p0 p1 p2 p3 p4)), .val (.int (own_f0_j32_L8 p5 p0)), .val (.int (own_f0_86 p5 p0 p1 p2 p3))]) rfl k) ?_
      show own_Run p e below T35 (mkF m 107 #[.val (.int p0), .val (.int p1), .val (.int p2), .val (.int p3), .val (.int p4), .val (.int p5), .val (.ref b20), .val (.int (p5 &&& (3 : Int32))), .val (.int (own_f0_105 p5 p0 p1 p2 p3 p4)), .val (.int (own_f0_j32_L8 p5 p0)), .val (.int (own_f0_86 p5 p0 p1 p2 p3))] []) _
      have hj0 : (own_f0_j107_L8 p5 p0 p1 p2 p3 p4) = (own_f0_105 p5 p0 p1 p2 p3 p4) := (if_neg hc34)
      have hj1 : (own_f0_j107_V0 p5 p0 p1 p2 p3 p4) = (own_pl (own_f0_j84_V0 p5 p0 p1 p2 p3) (own_f0_j84_L8 p5 p0 p1 p2 p3) p4) := (if_neg hc34)
      exact own_here ⟨T35, _, _, (by rw [hj0] <;> rfl), X35, rfl, N35, Zn35, (by rw [hj1]; exact P35_0x)⟩
  refine own_tr st33 ?_
  show own_Run p e below T33 (mkF m 107 #[.val (.int p0), .val (.int p1), .val (.int p2), .val (.int p3), .val (.int p4), .val (.int p5), .val (.ref b20), .val (.int (p5 &&& (3 : Int32))), .val (.int (own_f0_j107_L8 p5 p0 p1 p2 p3 p4)), .val (.int (own_f0_j32_L8 p5 p0)), .val (.int (own_f0_86 p5 p0 p1 p2 p3))] []) _
  refine own_step (fun t k => XS.aload X33.here hx rfl (hb hby at_107) rfl rfl k) ?_
  show own_Run p e below T33 (mkF m 109 #[.val (.int p0), .val (.int p1), .val (.int p2), .val (.int p3), .val (.int p4), .val (.int p5), .val (.ref b20), .val (.int (p5 &&& (3 : Int32))), .val (.int (own_f0_j107_L8 p5 p0 p1 p2 p3 p4)), .val (.int (own_f0_j32_L8 p5 p0)), .val (.int (own_f0_86 p5 p0 p1 p2 p3))] [(.ref b20)]) _
  refine own_step (fun t k => XS.iload X33.here hx rfl (hb hby at_109) rfl  k) ?_
  show own_Run p e below T33 (mkF m 111 #[.val (.int p0), .val (.int p1), .val (.int p2), .val (.int p3), .val (.int p4), .val (.int p5), .val (.ref b20), .val (.int (p5 &&& (3 : Int32))), .val (.int (own_f0_j107_L8 p5 p0 p1 p2 p3 p4)), .val (.int (own_f0_j32_L8 p5 p0)), .val (.int (own_f0_86 p5 p0 p1 p2 p3))] [(.int (own_f0_j32_L8 p5 p0)), (.ref b20)]) _
  refine own_step (fun t k => XS.iload X33.here hx rfl (hb hby at_111) rfl  k) ?_
  show own_Run p e below T33 (mkF m 113 #[.val (.int p0), .val (.int p1), .val (.int p2), .val (.int p3), .val (.int p4), .val (.int p5), .val (.ref b20), .val (.int (p5 &&& (3 : Int32))), .val (.int (own_f0_j107_L8 p5 p0 p1 p2 p3 p4)), .val (.int (own_f0_j32_L8 p5 p0)), .val (.int (own_f0_86 p5 p0 p1 p2 p3))] [(.int (own_f0_86 p5 p0 p1 p2 p3)), (.int (own_f0_j32_L8 p5 p0)), (.ref b20)]) _
  obtain ⟨_, _, ⟨T36, L36, kq36, nq36⟩, -, X36, ⟨Lc36, hQ36, lq36, yq36, zq36⟩, st36⟩ := Jvm.LawKit.callS X33 hx (y := (⟨"com/example/fuxi/fuxi/codec/Utf8", "codePointCount", "([BII)I"⟩ : MethodName)) hown (mvT hZ (hw _ (List.mem_of_getElem? (i := 9) rfl))) (mvT hZ (hw _ (List.mem_of_getElem? (i := 10) rfl))) (mvT hZ (hw _ (List.mem_of_getElem? (i := 11) rfl))) (mvT hZ (hw _ (List.mem_of_getElem? (i := 12) rfl))) (by decide) (backOf (W := 0) (rm2 l Z av0 hw [] b20 (own_f0_j32_L8 p5 p0) (own_f0_86 p5 p0 p1 p2 p3) k20 (own_f0_j107_V0 p5 p0 p1 p2 p3 p4) h33 n0 Zn33 (own_hp p0 p1 p2 p3 p4 p5) F33_0) hZ (hw _ (List.mem_of_getElem? (i := 12) rfl)) (hw _ (List.mem_of_getElem? (i := 11) rfl)) (by decide) (by decide)) (g := (mkF m 113 #[.val (.int p0), .val (.int p1), .val (.int p2), .val (.int p3), .val (.int p4), .val (.int p5), .val (.ref b20), .val (.int (p5 &&& (3 : Int32))), .val (.int (own_f0_j107_L8 p5 p0 p1 p2 p3 p4)), .val (.int (own_f0_j32_L8 p5 p0)), .val (.int (own_f0_86 p5 p0 p1 p2 p3))] [(.int (own_f0_86 p5 p0 p1 p2 p3)), (.int (own_f0_j32_L8 p5 p0)), (.ref b20)])) rfl (by rw [hml]; rfl) (argsL := [(.ref b20), (.int (own_f0_j32_L8 p5 p0)), (.int (own_f0_86 p5 p0 p1 p2 p3))]) (rest := []) (lenOf own_pd182 rfl) rfl (by show 2 * 0 + _ ≤ _; exact Nat.le_of_eq rfl) (hb hby at_113) (fun _ _ => ⟨rfl, e33, (by decide : 1 + 0 ≤ _), (by decide : 20 + 0 ≤ _)⟩)
  dsimp only [Pt.U, Pt.locs, Pt.cells, Pt.slots] at X36 lq36 yq36 zq36 st36 hQ36
  subst lq36 yq36 zq36
  obtain ⟨rfl, N36q, e36⟩ := hQ36
  have N36 := Fr.app N33 N36q
  refine own_step st36 ?_
  show own_Run p e below T36 (mkF m 116 #[.val (.int p0), .val (.int p1), .val (.int p2), .val (.int p3), .val (.int p4), .val (.int p5), .val (.ref b20), .val (.int (p5 &&& (3 : Int32))), .val (.int (own_f0_j107_L8 p5 p0 p1 p2 p3 p4)), .val (.int (own_f0_j32_L8 p5 p0)), .val (.int (own_f0_86 p5 p0 p1 p2 p3))] [(.int (own_r2 (own_f0_j32_L8 p5 p0) (own_f0_86 p5 p0 p1 p2 p3) (own_f0_j107_V0 p5 p0 p1 p2 p3 p4)))]) _
  refine own_step (fun t k => XS.iload X36.here hx rfl (hb hby at_116) rfl  k) ?_
  show own_Run p e below T36 (mkF m 118 #[.val (.int p0), .val (.int p1), .val (.int p2), .val (.int p3), .val (.int p4), .val (.int p5), .val (.ref b20), .val (.int (p5 &&& (3 : Int32))), .val (.int (own_f0_j107_L8 p5 p0 p1 p2 p3 p4)), .val (.int (own_f0_j32_L8 p5 p0)), .val (.int (own_f0_86 p5 p0 p1 p2 p3))] [(.int (p5 &&& (3 : Int32))), (.int (own_r2 (own_f0_j32_L8 p5 p0) (own_f0_86 p5 p0 p1 p2 p3) (own_f0_j107_V0 p5 p0 p1 p2 p3 p4)))]) _
  obtain ⟨_, st37, rfl⟩ : own_Run p e below T36 (mkF m 118 #[.val (.int p0), .val (.int p1), .val (.int p2), .val (.int p3), .val (.int p4), .val (.int p5), .val (.ref b20), .val (.int (p5 &&& (3 : Int32))), .val (.int (own_f0_j107_L8 p5 p0 p1 p2 p3 p4)), .val (.int (own_f0_j32_L8 p5 p0)), .val (.int (own_f0_86 p5 p0 p1 p2 p3))] [(.int (p5 &&& (3 : Int32))), (.int (own_r2 (own_f0_j32_L8 p5 p0) (own_f0_86 p5 p0 p1 p2 p3) (own_f0_j107_V0 p5 p0 p1 p2 p3 p4)))]) (fun t => t = T36.setTop (mkF m 126 #[.val (.int p0), .val (.int p1), .val (.int p2), .val (.int p3), .val (.int p4), .val (.int p5), .val (.ref b20), .val (.int (p5 &&& (3 : Int32))), .val (.int (own_f0_j107_L8 p5 p0 p1 p2 p3 p4)), .val (.int (own_f0_j32_L8 p5 p0)), .val (.int (own_f0_86 p5 p0 p1 p2 p3))] [(.int (own_f0_j126_S0 p5 p0 p1 p2 p3 p4))])) := by
    by_cases hc38 : (own_r2 (own_f0_j32_L8 p5 p0) (own_f0_86 p5 p0 p1 p2 p3) (own_f0_j107_V0 p5 p0 p1 p2 p3 p4)) = (p5 &&& (3 : Int32))
    · refine own_step (fun t k => XS.icmpNo X36.here hx rfl (hb hby at_118) rfl (teq hc38).2 k) ?_
      show own_Run p e below T36 (mkF m 121 #[.val (.int p0), .val (.int p1), .val (.int p2), .val (.int p3), .val (.int p4), .val (.int p5), .val (.ref b20), .val (.int (p5 &&& (3 : Int32))), .val (.int (own_f0_j107_L8 p5 p0 p1 p2 p3 p4)), .val (.int (own_f0_j32_L8 p5 p0)), .val (.int (own_f0_86 p5 p0 p1 p2 p3))] []) _
      refine own_step (fun t k => XS.iconst X36.here hx rfl (hb hby at_121) k) ?_
      show own_Run p e below T36 (mkF m 122 #[.val (.int p0), .val (.int p1), .val (.int p2), .val (.int p3), .val (.int p4), .val (.int p5), .val (.ref b20), .val (.int (p5 &&& (3 : Int32))), .val (.int (own_f0_j107_L8 p5 p0 p1 p2 p3 p4)), .val (.int (own_f0_j32_L8 p5 p0)), .val (.int (own_f0_86 p5 p0 p1 p2 p3))] [(.int (1 : Int32))]) _
      refine own_step (fun t k => XS.goto X36.here hx rfl (pc0 := 122) (pc' := 126) rfl (hb hby at_122) (by decide) (by decide) k) ?_
      show own_Run p e below T36 (mkF m 126 #[.val (.int p0), .val (.int p1), .val (.int p2), .val (.int p3), .val (.int p4), .val (.int p5), .val (.ref b20), .val (.int (p5 &&& (3 : Int32))), .val (.int (own_f0_j107_L8 p5 p0 p1 p2 p3 p4)), .val (.int (own_f0_j32_L8 p5 p0)), .val (.int (own_f0_86 p5 p0 p1 p2 p3))] [(.int (1 : Int32))]) _
      have hj0 : (own_f0_j126_S0 p5 p0 p1 p2 p3 p4) = (1 : Int32) := (if_pos hc38)
      exact own_here (by rw [hj0] <;> rfl)
    · refine own_step (fun t k => XS.icmpYes X36.here hx rfl (pc0 := 118) (pc' := 125) rfl (hb hby at_118) rfl (feq hc38).2 (by decide) (by decide) k) ?_
      show own_Run p e below T36 (mkF m 125 #[.val (.int p0), .val (.int p1), .val (.int p2), .val (.int p3), .val (.int p4), .val (.int p5), .val (.ref b20), .val (.int (p5 &&& (3 : Int32))), .val (.int (own_f0_j107_L8 p5 p0 p1 p2 p3 p4)), .val (.int (own_f0_j32_L8 p5 p0)), .val (.int (own_f0_86 p5 p0 p1 p2 p3))] []) _
      refine own_step (fun t k => XS.iconst X36.here hx rfl (hb hby at_125) k) ?_
      show own_Run p e below T36 (mkF m 126 #[.val (.int p0), .val (.int p1), .val (.int p2), .val (.int p3), .val (.int p4), .val (.int p5), .val (.ref b20), .val (.int (p5 &&& (3 : Int32))), .val (.int (own_f0_j107_L8 p5 p0 p1 p2 p3 p4)), .val (.int (own_f0_j32_L8 p5 p0)), .val (.int (own_f0_86 p5 p0 p1 p2 p3))] [(.int (0 : Int32))]) _
      have hj0 : (own_f0_j126_S0 p5 p0 p1 p2 p3 p4) = (0 : Int32) := (if_neg hc38)
      exact own_here (by rw [hj0] <;> rfl)
  refine own_tr st37 ?_
  show own_Run p e below T36 (mkF m 126 #[.val (.int p0), .val (.int p1), .val (.int p2), .val (.int p3), .val (.int p4), .val (.int p5), .val (.ref b20), .val (.int (p5 &&& (3 : Int32))), .val (.int (own_f0_j107_L8 p5 p0 p1 p2 p3 p4)), .val (.int (own_f0_j32_L8 p5 p0)), .val (.int (own_f0_86 p5 p0 p1 p2 p3))] [(.int (own_f0_j126_S0 p5 p0 p1 p2 p3 p4))]) _
  exact own_retZ X36 hx hlk hret (hb hby at_126) (by decide) (by decide) N36 trivial
theorem own_se (v : BitVec 32) {i : Nat} (h : i < 8) : ((v.signExtend 8).signExtend 32).getLsbD i = v.getLsbD i := by
  rw [BitVec.getLsbD_signExtend, BitVec.getLsbD_signExtend, if_pos h, if_pos (by omega : i < 32)]
  simp [h, (by omega : i < 32)]
theorem own_hi192 : ∀ i : Fin 32, 8 ≤ i.val → (192#32).getLsbD i.val = false := by decide
theorem own_low8 (x : Int32) : (nar .byte x.toInt8.toInt32) &&& (192 : Int32) = x &&& (192 : Int32) := by
  apply Int32.toBitVec_inj.mp
  show (((((x.toBitVec.signExtend 8).signExtend 32).signExtend 8).signExtend 32) &&& 192#32) = x.toBitVec &&& 192#32
  apply BitVec.eq_of_getLsbD_eq
  intro i hi
  rw [BitVec.getLsbD_and, BitVec.getLsbD_and]
  by_cases h : i < 8
  · rw [own_se _ h, own_se _ h]
  · rw [own_hi192 ⟨i, hi⟩ (by show 8 ≤ i; omega), Bool.and_false, Bool.and_false]
theorem own_ld {m : Int32} (y : Int32) (hm : m &&& (192 : Int32) = (192 : Int32)) : ((nar .byte ((m ||| y)).toInt8.toInt32) &&& (192 : Int32)) = (192 : Int32) := by
  rw [own_low8]
  have h1 := congrArg Int32.toBitVec hm
  apply Int32.toBitVec_inj.mp
  rw [Int32.toBitVec_and] at h1 ⊢
  rw [Int32.toBitVec_or]
  apply BitVec.eq_of_getLsbD_eq
  intro i hi
  have h2 := congrArg (fun z => BitVec.getLsbD z i) h1
  simp only [BitVec.getLsbD_and, BitVec.getLsbD_or] at h2 ⊢
  revert h2
  cases m.toBitVec.getLsbD i <;> cases y.toBitVec.getLsbD i <;> cases (192 : Int32).toBitVec.getLsbD i <;> simp
theorem own_bits : ∀ i : Fin 32, ∀ b : Bool, (((128#32).getLsbD i.val || (b && (63#32).getLsbD i.val)) && (192#32).getLsbD i.val) = (128#32).getLsbD i.val := by decide
theorem own_ctn (y : Int32) : ((nar .byte (((128 : Int32) ||| (y &&& (63 : Int32)))).toInt8.toInt32) &&& (192 : Int32)) = (128 : Int32) := by
  rw [own_low8]
  apply Int32.toBitVec_inj.mp
  show ((128#32 ||| (y.toBitVec &&& 63#32)) &&& 192#32) = 128#32
  apply BitVec.eq_of_getLsbD_eq
  intro i hi
  rw [BitVec.getLsbD_and, BitVec.getLsbD_or, BitVec.getLsbD_and]
  exact own_bits ⟨i, hi⟩ _
theorem own_us2 (x : Int32) : 0 ≤ (own_ushr x (2 : Int32)).toInt := by
  have q : (own_ushr x (2 : Int32)).toBitVec = x.toBitVec >>> 2 := by
    show x.toBitVec >>> (((2 : Int32) &&& 31).toUInt32.toBitVec % 32#32) = _
    rw [BitVec.ushiftRight_eq']; rfl
  have n : (own_ushr x (2 : Int32)).toBitVec.toNat < 2 ^ 31 := by
    rw [q, BitVec.toNat_ushiftRight, Nat.shiftRight_eq_div_pow]
    have := x.toBitVec.isLt
    omega
  show 0 ≤ (own_ushr x (2 : Int32)).toBitVec.toInt
  rw [BitVec.toInt_eq_toNat_cond, if_pos (by omega)]; omega
theorem own_asc (x : Int32) : ¬ ((nar .byte ((own_rem (own_ushr x (2 : Int32)) (128 : Int32))).toInt8.toInt32) &&& (192 : Int32)) = (128 : Int32) := by
  rw [own_low8]
  have r := own_rem_nn (x := own_ushr x (2 : Int32)) (y := 128) (own_us2 x) (by decide)
  have e : (128 : Int32).toInt = 128 := by decide
  rw [e] at r
  generalize own_rem (own_ushr x (2 : Int32)) (128 : Int32) = y at r ⊢
  have b : y.toBitVec.toNat < 128 := by
    have e1 : y.toInt = y.toBitVec.toInt := rfl
    rw [e1, BitVec.toInt_eq_toNat_cond] at r
    have := y.toBitVec.isLt
    split at r <;> omega
  intro h
  have h1 := congrArg (fun z => BitVec.getLsbD (Int32.toBitVec z) 7) h
  simp only [Int32.toBitVec_and, BitVec.getLsbD_and] at h1
  have t : (128 : Int32).toBitVec.getLsbD 7 = true := by decide
  have f : y.toBitVec.getLsbD 7 = false := Nat.testBit_lt_two_pow (by omega)
  rw [t, f] at h1
  simp at h1
theorem own_b_set (vs : List Value) (i j : Nat) (v : Int32) (hi : i < vs.length) : own_b (vs.set i (.int v)) j = if i = j then v else own_b vs j := by
  unfold own_b
  simp only [List.getD_eq_getElem?_getD]
  by_cases h : i = j
  · subst h; rw [if_pos rfl, List.getElem?_set_self hi]; rfl
  · rw [if_neg h, List.getElem?_set_ne h]
theorem own_cnt_app (vs : List Value) : ∀ (n m i : Nat) (c : Int32), own_cnt vs (n + m) i c = own_cnt vs m (i + n) (own_cnt vs n i c)
  | 0, m, i, c => by rw [Nat.zero_add]; rfl
  | n + 1, m, i, c => by
    rw [Nat.add_right_comm]
    show own_cnt vs (n + m) (i + 1) _ = own_cnt vs m (i + (n + 1)) (own_cnt vs n (i + 1) _)
    rw [own_cnt_app vs n m (i + 1), Nat.add_assoc i 1 n, Nat.add_comm 1 n]
theorem own_cnt_congr {vs us : List Value} : ∀ (n i : Nat) (c : Int32), (∀ j, i ≤ j → j < i + n → own_b vs j = own_b us j) → own_cnt vs n i c = own_cnt us n i c
  | 0, i, c, _ => rfl
  | n + 1, i, c, h => by
    show own_cnt vs n (i + 1) _ = own_cnt us n (i + 1) _
    rw [h i (Nat.le_refl i) (by omega)]
    exact own_cnt_congr n (i + 1) _ fun j h1 h2 => h j (by omega) (by omega)
theorem own_pk {p k : Int32} {n : Nat} (hn : k.toInt = n) (hk : n ≤ 4) (hb : 0 ≤ p.toInt ∧ p.toInt ≤ 16) : (p + k).toNatClampNeg = p.toNatClampNeg + n := by
  show (p + k).toInt.toNat = p.toInt.toNat + n
  rw [own_addk (by omega) hb]; omega
theorem own_pP {p : Int32} (hb : 0 ≤ p.toInt ∧ p.toInt ≤ 16) : p.toNatClampNeg ≤ 16 := by
  show p.toInt.toNat ≤ 16
  omega
/-- one step of the count -/
theorem own_c_yes {vs : List Value} {n i : Nat} {c : Int32} (h : ¬ ((own_b vs i) &&& (192 : Int32)) = (128 : Int32)) : own_cnt vs (n + 1) i c = own_cnt vs n (i + 1) (c + 1) := by
  show own_cnt vs n (i + 1) (if _ then _ else _) = _
  rw [if_neg h]
theorem own_c_no {vs : List Value} {n i : Nat} {c : Int32} (h : ((own_b vs i) &&& (192 : Int32)) = (128 : Int32)) : own_cnt vs (n + 1) i c = own_cnt vs n (i + 1) c := by
  show own_cnt vs n (i + 1) (if _ then _ else _) = _
  rw [if_pos h]
theorem own_192 : ¬ (192 : Int32) = (128 : Int32) := by decide
theorem own_put {vs : List Value} {p : Int32} (x : Int32) (hb : 0 ≤ p.toInt ∧ p.toInt ≤ 16) (hl : vs.length = 20) :
    (∀ j, j < p.toNatClampNeg → own_b (own_pl vs p x) j = own_b vs j) ∧ ∀ c, own_cnt (own_pl vs p x) ((own_r1 p x).toInt - p.toInt).toNat p.toNatClampNeg c = c + 1 := by
  have P := own_pP hb
  have e1 : (p + (1 : Int32)).toNatClampNeg = p.toNatClampNeg + 1 := own_pk (n := 1) (by decide) (by omega) hb
  have e2 : (p + (2 : Int32)).toNatClampNeg = p.toNatClampNeg + 2 := own_pk (n := 2) (by decide) (by omega) hb
  have e3 : (p + (3 : Int32)).toNatClampNeg = p.toNatClampNeg + 3 := own_pk (n := 3) (by decide) (by omega) hb
  by_cases h0 : (x &&& (3 : Int32)) = (0 : Int32)
  · have r : own_r1 p x = p + 1 := if_pos h0
    have l : own_pl vs p x = own_pl0 vs p x := if_pos h0
    have n : ((own_r1 p x).toInt - p.toInt).toNat = 1 := by rw [r, own_addk (by decide) hb, own_k1]; omega
    rw [n, l]; unfold own_pl0
    refine ⟨fun j hj => ?_, fun c => ?_⟩
    · rw [own_b_set _ _ _ _ (by omega), if_neg (by omega)]
    · rw [own_c_yes (by rw [own_b_set _ _ _ _ (by omega), if_pos rfl]; exact own_asc x)]; rfl
  · by_cases h1 : (x &&& (3 : Int32)) = (1 : Int32)
    · have r : own_r1 p x = p + 2 := (if_neg h0).trans (if_pos h1)
      have l : own_pl vs p x = own_pl1 vs p x := (if_neg h0).trans (if_pos h1)
      have n : ((own_r1 p x).toInt - p.toInt).toNat = 2 := by rw [r, own_addk (by decide) hb, own_k2]; omega
      rw [n, l]; unfold own_pl1; rw [e1]
      refine ⟨fun j hj => ?_, fun c => ?_⟩
      · rw [own_b_set _ _ _ _ (by simp only [List.length_set]; omega), if_neg (by omega), own_b_set _ _ _ _ (by omega), if_neg (by omega)]
      · rw [own_c_yes (by rw [own_b_set _ _ _ _ (by simp only [List.length_set]; omega), if_neg (by omega), own_b_set _ _ _ _ (by omega), if_pos rfl, own_ld _ (by decide)]; exact own_192),
          own_c_no (by rw [own_b_set _ _ _ _ (by simp only [List.length_set]; omega), if_pos rfl]; exact own_ctn _)]; rfl
    · by_cases h2 : (x &&& (3 : Int32)) = (2 : Int32)
      · have r : own_r1 p x = p + 3 := (if_neg h0).trans ((if_neg h1).trans (if_pos h2))
        have l : own_pl vs p x = own_pl2 vs p x := (if_neg h0).trans ((if_neg h1).trans (if_pos h2))
        have n : ((own_r1 p x).toInt - p.toInt).toNat = 3 := by rw [r, own_addk (by decide) hb, own_k3]; omega
        rw [n, l]; unfold own_pl2; rw [e1, e2]
        refine ⟨fun j hj => ?_, fun c => ?_⟩
        · rw [own_b_set _ _ _ _ (by simp only [List.length_set]; omega), if_neg (by omega), own_b_set _ _ _ _ (by simp only [List.length_set]; omega), if_neg (by omega), own_b_set _ _ _ _ (by omega), if_neg (by omega)]
        · rw [own_c_yes (by rw [own_b_set _ _ _ _ (by simp only [List.length_set]; omega), if_neg (by omega), own_b_set _ _ _ _ (by simp only [List.length_set]; omega), if_neg (by omega), own_b_set _ _ _ _ (by omega), if_pos rfl, own_ld _ (by decide)]; exact own_192),
            own_c_no (by rw [own_b_set _ _ _ _ (by simp only [List.length_set]; omega), if_neg (by omega), own_b_set _ _ _ _ (by simp only [List.length_set]; omega), if_pos rfl]; exact own_ctn _),
            own_c_no (by rw [own_b_set _ _ _ _ (by simp only [List.length_set]; omega), if_pos (by omega)]; exact own_ctn _)]; rfl
      · have r : own_r1 p x = p + 4 := (if_neg h0).trans ((if_neg h1).trans (if_neg h2))
        have l : own_pl vs p x = own_pl3 vs p x := (if_neg h0).trans ((if_neg h1).trans (if_neg h2))
        have n : ((own_r1 p x).toInt - p.toInt).toNat = 4 := by rw [r, own_addk (by decide) hb, own_k4]; omega
        rw [n, l]; unfold own_pl3; rw [e1, e2, e3]
        refine ⟨fun j hj => ?_, fun c => ?_⟩
        · rw [own_b_set _ _ _ _ (by simp only [List.length_set]; omega), if_neg (by omega), own_b_set _ _ _ _ (by simp only [List.length_set]; omega), if_neg (by omega), own_b_set _ _ _ _ (by simp only [List.length_set]; omega), if_neg (by omega), own_b_set _ _ _ _ (by omega), if_neg (by omega)]
        · rw [own_c_yes (by rw [own_b_set _ _ _ _ (by simp only [List.length_set]; omega), if_neg (by omega), own_b_set _ _ _ _ (by simp only [List.length_set]; omega), if_neg (by omega), own_b_set _ _ _ _ (by simp only [List.length_set]; omega), if_neg (by omega), own_b_set _ _ _ _ (by omega), if_pos rfl, own_ld _ (by decide)]; exact own_192),
            own_c_no (by rw [own_b_set _ _ _ _ (by simp only [List.length_set]; omega), if_neg (by omega), own_b_set _ _ _ _ (by simp only [List.length_set]; omega), if_neg (by omega), own_b_set _ _ _ _ (by simp only [List.length_set]; omega), if_pos rfl]; exact own_ctn _),
            own_c_no (by rw [own_b_set _ _ _ _ (by simp only [List.length_set]; omega), if_neg (by omega), own_b_set _ _ _ _ (by simp only [List.length_set]; omega), if_pos (by omega)]; exact own_ctn _),
            own_c_no (by rw [own_b_set _ _ _ _ (by simp only [List.length_set]; omega), if_pos (by omega)]; exact own_ctn _)]; rfl
/-- the count from a to b -/
def own_N (vs : List Value) (a b : Int32) : Int32 := own_cnt vs (b.toInt - a.toInt).toNat a.toNatClampNeg 0
theorem own_N_below {vs : List Value} {a b p : Int32} (x : Int32) (ha : 0 ≤ a.toInt) (hab : a.toInt ≤ b.toInt) (hbp : b.toInt ≤ p.toInt) (hb : 0 ≤ p.toInt ∧ p.toInt ≤ 16) (hl : vs.length = 20) : own_N (own_pl vs p x) a b = own_N vs a b := by
  unfold own_N
  refine own_cnt_congr _ _ _ fun j h1 h2 => (own_put x hb hl).1 j ?_
  have q1 : a.toNatClampNeg = a.toInt.toNat := rfl
  have q2 : p.toNatClampNeg = p.toInt.toNat := rfl
  omega
theorem own_N_put {vs : List Value} {a b : Int32} (x : Int32) (ha : 0 ≤ a.toInt) (hab : a.toInt ≤ b.toInt) (hb : b.toInt ≤ 16) (hl : vs.length = 20) : own_N (own_pl vs b x) a (own_r1 b x) = own_N vs a b + 1 := by
  have hB : 0 ≤ b.toInt ∧ b.toInt ≤ 16 := ⟨by omega, hb⟩
  have q := own_rb x hB
  have e : ((own_r1 b x).toInt - a.toInt).toNat = (b.toInt - a.toInt).toNat + ((own_r1 b x).toInt - b.toInt).toNat := by omega
  have i : a.toNatClampNeg + (b.toInt - a.toInt).toNat = b.toNatClampNeg := by
    have q1 : a.toNatClampNeg = a.toInt.toNat := rfl
    have q2 : b.toNatClampNeg = b.toInt.toNat := rfl
    omega
  unfold own_N
  rw [e, own_cnt_app, i, (own_put x hB hl).2]
  exact congrArg (· + 1) (own_N_below x ha hab (Int.le_refl _) hB hl)
theorem own_N_self (vs : List Value) (a : Int32) : own_N vs a a = 0 := by
  unfold own_N; rw [show (a.toInt - a.toInt).toNat = 0 by omega]; rfl
theorem own_n3 (x : Int32) : (x &&& (3 : Int32)) = (0 : Int32) ∨ (x &&& (3 : Int32)) = (1 : Int32) ∨ (x &&& (3 : Int32)) = (2 : Int32) ∨ (x &&& (3 : Int32)) = (3 : Int32) := by
  have h : (x &&& (3 : Int32)).toInt = x.toInt % 2 ^ 2 := Jvm.Kit.i32_mask x 3 (k := 2) (by decide) (by decide)
  have q : x.toInt % 2 ^ 2 = 0 ∨ x.toInt % 2 ^ 2 = 1 ∨ x.toInt % 2 ^ 2 = 2 ∨ x.toInt % 2 ^ 2 = 3 := by omega
  rcases q with q | q | q | q
  · exact Or.inl (Int32.toInt_inj.mp (by rw [h, q]; rfl))
  · exact Or.inr (Or.inl (Int32.toInt_inj.mp (by rw [h, q]; rfl)))
  · exact Or.inr (Or.inr (Or.inl (Int32.toInt_inj.mp (by rw [h, q]; rfl))))
  · exact Or.inr (Or.inr (Or.inr (Int32.toInt_inj.mp (by rw [h, q]; rfl))))
theorem own_plain (p0 p1 p2 p3 p4 p5 : Int32) : own_r0 p0 p1 p2 p3 p4 p5 = 1 := by
  have b32 := own_B32 p5 p0; have b52 := own_B52 p5 p0 p1; have b68 := own_B68 p5 p0 p1 p2; have b84 := own_B84 p5 p0 p1 p2 p3
  have c52 : own_N (own_f0_j52_V0 p5 p0 p1) (own_f0_j32_L8 p5 p0) (own_f0_j52_L8 p5 p0 p1) = if (p5 &&& (3 : Int32)) < (1 : Int32) then 0 else 1 := by
    unfold own_f0_j52_V0 own_f0_j52_L8 own_f0_50
    by_cases h : (p5 &&& (3 : Int32)) < (1 : Int32)
    · rw [if_pos h, if_pos h, if_pos h]; exact own_N_self _ _
    · rw [if_neg h, if_neg h, if_neg h, own_N_put p1 (by omega) (by omega) (by omega) (own_ln_own_f0_j32_V0 p5 p0), own_N_self]; rfl
  have c68 : own_N (own_f0_j68_V0 p5 p0 p1 p2) (own_f0_j32_L8 p5 p0) (own_f0_j68_L8 p5 p0 p1 p2) = if (p5 &&& (3 : Int32)) < (2 : Int32) then (if (p5 &&& (3 : Int32)) < (1 : Int32) then 0 else 1) else (if (p5 &&& (3 : Int32)) < (1 : Int32) then (0 : Int32) else 1) + 1 := by
    unfold own_f0_j68_V0 own_f0_j68_L8 own_f0_66
    by_cases h : (p5 &&& (3 : Int32)) < (2 : Int32)
    · rw [if_pos h, if_pos h, if_pos h]; exact c52
    · rw [if_neg h, if_neg h, if_neg h, own_N_put p2 (by omega) (by omega) (by omega) (own_ln_own_f0_j52_V0 p5 p0 p1), c52]
  have c84 : own_N (own_f0_j84_V0 p5 p0 p1 p2 p3) (own_f0_j32_L8 p5 p0) (own_f0_j84_L8 p5 p0 p1 p2 p3) = (p5 &&& (3 : Int32)) := by
    have k : (if (p5 &&& (3 : Int32)) < (3 : Int32) then (if (p5 &&& (3 : Int32)) < (2 : Int32) then (if (p5 &&& (3 : Int32)) < (1 : Int32) then 0 else 1) else (if (p5 &&& (3 : Int32)) < (1 : Int32) then (0 : Int32) else 1) + 1) else (if (p5 &&& (3 : Int32)) < (2 : Int32) then (if (p5 &&& (3 : Int32)) < (1 : Int32) then (0 : Int32) else 1) else (if (p5 &&& (3 : Int32)) < (1 : Int32) then (0 : Int32) else 1) + 1) + 1) = (p5 &&& (3 : Int32)) := by
      rcases own_n3 p5 with h | h | h | h <;> rw [h] <;> decide
    rw [← k]
    unfold own_f0_j84_V0 own_f0_j84_L8 own_f0_82
    by_cases h : (p5 &&& (3 : Int32)) < (3 : Int32)
    · rw [if_pos h, if_pos h, if_pos h]; exact c68
    · rw [if_neg h, if_neg h, if_neg h, own_N_put p3 (by omega) (by omega) (by omega) (own_ln_own_f0_j68_V0 p5 p0 p1 p2), c68]
  have c107 : own_r2 (own_f0_j32_L8 p5 p0) (own_f0_86 p5 p0 p1 p2 p3) (own_f0_j107_V0 p5 p0 p1 p2 p3 p4) = (p5 &&& (3 : Int32)) := by
    show own_N (own_f0_j107_V0 p5 p0 p1 p2 p3 p4) (own_f0_j32_L8 p5 p0) (own_f0_j84_L8 p5 p0 p1 p2 p3) = _
    unfold own_f0_j107_V0
    by_cases h : (p5 &&& (8 : Int32)) = (0 : Int32)
    · rw [if_pos h]; exact c84
    · rw [if_neg h, own_N_below p4 (by omega) (by omega) (Int.le_refl _) (by omega) (own_ln_own_f0_j84_V0 p5 p0 p1 p2 p3)]; exact c84
  unfold own_r0 own_f0_j126_S0; rw [if_pos c107]; rfl

set_option maxRecDepth 65536 in
set_option maxHeartbeats 40000000 in
theorem own_comes {Post : Tables → Env → Array Value → State → Outcome → State → Prop} (hpost : ∀ tb e args s v u, (limb_1_1.after args s (.returned v) u = true ∧ limb_1_2.after args s (.returned v) u = true ∧ True) → FrameEnd s (.returned v) u (Jvm.fieldLocs frame_1_writes args s ++ Jvm.arrayLocs frame_1_arrays args s ++ Jvm.staticLocs frame_1_statics s) 16 128 → Post tb e args s (.returned v) u) :
    ArmFor flags0 classFile x code maxLocals ret World_1 tables_1 room_1 Calls_1 rest_1 Pre_1 Post := by
  intro l hfl _ _ p e ha hc hk s m args below hf hA hF happ hP
  obtain ⟨hcalls, hrest, hpre⟩ := hP
  obtain ⟨-, -, -, hnamed, -, -, -, hat⟩ := (Spec.applies_iff hf).mp happ
  obtain ⟨hg, hn⟩ := and_e (Cond.before_iff.mp (show (Jvm.Cond.and given_1 narrow_1).before args s = true from hpre))
  obtain ⟨gc, g0⟩ := and_e hg
  obtain ⟨v0, g1⟩ := and_e g0
  obtain ⟨v1, g2⟩ := and_e g1
  obtain ⟨v2, g3⟩ := and_e g2
  obtain ⟨v3, g4⟩ := and_e g3
  obtain ⟨v4, g5⟩ := and_e g4
  obtain ⟨w0, w1, w2, w3, w4, w5, rfl⟩ : ∃ w0 w1 w2 w3 w4 w5 : Value, args = #[w0, w1, w2, w3, w4, w5] := by
    have hs : args.size = 6 := by simpa [Cond.value, given_1] using gc
    obtain ⟨L⟩ := args
    match L, hs with
    | [w0, w1, w2, w3, w4, w5], _ => exact ⟨w0, w1, w2, w3, w4, w5, rfl⟩
  have hw := fun d (hd : d ∈ tables_1) => atoms_spec (ws := Jvm.Cond.code x code maxLocals ret :: tables_1) hat d (List.mem_cons_of_mem _ hd)
  obtain ⟨i0, ei0⟩ := is_v v0
  obtain rfl : w0 = (.int i0) := Option.some.inj ei0
  obtain ⟨i1, ei1⟩ := is_v v1
  obtain rfl : w1 = (.int i1) := Option.some.inj ei1
  obtain ⟨i2, ei2⟩ := is_v v2
  obtain rfl : w2 = (.int i2) := Option.some.inj ei2
  obtain ⟨i3, ei3⟩ := is_v v3
  obtain rfl : w3 = (.int i3) := Option.some.inj ei3
  obtain ⟨i4, ei4⟩ := is_v v4
  obtain rfl : w4 = (.int i4) := Option.some.inj ei4
  obtain ⟨i5, ei5⟩ := is_v g5
  obtain rfl : w5 = (.int i5) := Option.some.inj ei5
  obtain ⟨n, o, h1, h2, h3, _, L, rfl, ⟨rfl, N, -⟩, hq⟩ := rm0 l s _ hw tables_1 i0 i1 i2 i3 i4 i5  s.heap s.heap.size (Nat.le_refl _)  p e ha hc hk s m _ below hf ((Spec.applies_iff_loose hf).mp happ).1 ⟨rfl, State.Warmed39.refl s, rfl⟩ trivial
  have hv : own_r0 i0 i1 i2 i3 i4 i5 = 1 := own_plain i0 i1 i2 i3 i4 i5
  refine ⟨n, _, h1, h2, h3, hpost _ _ _ _ _ _ ⟨Cond.after_iff.mpr rfl, Cond.after_iff.mpr (eq_i res_at (Term.int_eval (1)) (congrArg Value.int hv)), trivial⟩ ⟨hq.1, hq.2.1, (hq.2.2.sift fun y hy => Or.inr (N y hy)).mono (by decide) (by decide)⟩⟩
theorem main_1_1 : Claimed_1_1 := own_comes fun _ _ _ _ _ _ h hF => ⟨h.1, hF⟩
theorem main_1_2 : Claimed_1_2 := own_comes fun _ _ _ _ _ _ h hF => ⟨h.2.1, hF⟩
end Jvm.Pilot.@@N@@
namespace Jvm.Pilot.@@N@@
open Jvm Jvm.ClassFile Sem Op Lib Jvm.Free Jvm.Stand Jvm.Pilot.@@N@@.Jvm.D
/-! MADE BY PROGRAM (witnessworld.py) out of the Statement's table words and the real class files: 9 classes; the members and pool entries that the words name. The judged class is class 1, her method 1. -/
namespace start1
open Jvm.ClassFile
def u (s : String) : CpInfo := .utf8 (stringToUtf16 s)
/-- a pool by its gaps: so many unusable entries, then the entry; so many at the end -/
def gap : Nat → List CpInfo → List CpInfo
  | 0, r => r
  | n + 1, r => .unusable :: gap n r
def poolList (es : List (Nat × CpInfo)) (last : Nat) : List CpInfo := es.foldr (fun e r => gap e.1 (e.2 :: r)) (gap last [])
def pool (es : List (Nat × CpInfo)) (last : Nat) : Array CpInfo := ⟨poolList es last⟩
def fileOf (pool : Array CpInfo) (this : Nat) (attrs : Array Attribute := #[]) (ms : Array MethodInfo := #[]) (fl : Nat := 33) (sup : Nat := 0) (ifs : Array Nat := #[]) (fds : Array FieldInfo := #[]) : ClassFile where
  minorVersion := 0
  majorVersion := 65
  constantPool := pool
  accessFlags := fl
  thisClass := this
  superClass := sup
  interfaces := ifs
  fields := fds
  methods := ms
  attributes := attrs
def plain (name : String) (sup : Option ClassId) : Class where
  name := name
  kind := .ordinary
  loader := none
  accessFlags := 33
  super := sup
  interfaces := #[]
  cf := none
  fields := #[]
  methods := #[]
  instanceTypes := #[]
  staticTypes := #[]
  resolved := #[]
  callSites := []
  init := .initialized
  statics := none
  mirror := none

def pool0 : Array CpInfo := pool [(5, u "<init>"), (0, u "()V"), (1, .class_ 10), (1, u "java/lang/Object")] 113

def k0m0 : Method := { name := "<init>", desc := "()V", sig := { parameters := [], returnType := none }, accessFlags := 1, code := none }
/-- java/lang/Object -/
def k0 : Class := { plain "java/lang/Object" none with
  accessFlags := 33
  interfaces := #[]
  cf := some (fileOf pool0 8 #[] #[{ accessFlags := 1, nameIndex := 5, descriptorIndex := 6, attributes := #[] }] 33 0 #[] #[])
  fields := #[]
  methods := #[k0m0]
  instanceTypes := #[]
  staticTypes := #[]
  resolved := Array.replicate 124 none
  statics := none }

def pool1 : Array CpInfo := pool [(2, .class_ 4), (1, u "java/lang/Object"), (0, u "<init>"), (0, u "()V"), (0, .methodref 8 9), (0, .class_ 10), (0, .nameAndType 11 12), (0, u "com/example/fuxi/fuxi/codec/Utf8CodePointCountPinLaw"), (0, u "put"), (0, u "([BII)I"), (0, .methodref 14 15), (0, .class_ 16), (0, .nameAndType 17 12), (0, u "com/example/fuxi/fuxi/codec/Utf8"), (0, u "codePointCount"), (0, .integer 61440), (0, .integer 55296), (0, .integer 65536), (0, .integer 1048576), (2, u "law"), (0, u "(IIIIII)Z")] 5

def k1m0 : Method := { name := "<init>", desc := "()V", sig := { parameters := [], returnType := none }, accessFlags := 2, code := none }
def k1c1 : Code := { maxStack := 3, maxLocals := 11, code := code, exceptionTable := #[], attributes := #[] }
def k1m1 : Method := { name := "law", desc := "(IIIIII)Z", sig := { parameters := [.int, .int, .int, .int, .int, .int], returnType := some .boolean }, accessFlags := 9, code := some k1c1 }
def k1c2 : Code := { maxStack := 5, maxLocals := 6, code := method_3_code, exceptionTable := #[], attributes := #[] }
def k1m2 : Method := { name := "put", desc := "([BII)I", sig := { parameters := [(.array .byte), .int, .int], returnType := some .int }, accessFlags := 10, code := some k1c2 }
/-- com/example/fuxi/fuxi/codec/Utf8CodePointCountPinLaw -/
def k1 : Class := { plain "com/example/fuxi/fuxi/codec/Utf8CodePointCountPinLaw" (some 0) with
  accessFlags := 49
  interfaces := #[]
  cf := some (fileOf pool1 8 #[] #[{ accessFlags := 2, nameIndex := 5, descriptorIndex := 6, attributes := #[] }, { accessFlags := 9, nameIndex := 24, descriptorIndex := 25, attributes := #[] }, { accessFlags := 10, nameIndex := 11, descriptorIndex := 12, attributes := #[] }] 49 2 #[] #[])
  fields := #[]
  methods := #[k1m0, k1m1, k1m2]
  instanceTypes := #[]
  staticTypes := #[]
  resolved := Array.replicate 31 none
  statics := none }

def pool2 : Array CpInfo := pool [(2, .class_ 4), (1, u "java/lang/Object"), (0, u "<init>"), (0, u "()V"), (1, .class_ 10), (1, u "com/example/fuxi/fuxi/codec/Utf8"), (0, u "LEADS"), (0, u "[I"), (116, u "NO_SEQUENCE"), (0, u "I"), (1, u "LATER"), (5, u "codePointCount"), (0, u "([BII)I")] 40

def k2m0 : Method := { name := "<init>", desc := "()V", sig := { parameters := [], returnType := none }, accessFlags := 2, code := none }
def k2c1 : Code := { maxStack := 2, maxLocals := 5, code := prog_15_method_4_code, exceptionTable := #[], attributes := #[] }
def k2m1 : Method := { name := "codePointCount", desc := "([BII)I", sig := { parameters := [(.array .byte), .int, .int], returnType := some .int }, accessFlags := 9, code := some k2c1 }
/-- com/example/fuxi/fuxi/codec/Utf8 -/
def k2 : Class := { plain "com/example/fuxi/fuxi/codec/Utf8" (some 0) with
  accessFlags := 49
  interfaces := #[]
  cf := some (fileOf pool2 8 #[] #[{ accessFlags := 2, nameIndex := 5, descriptorIndex := 6, attributes := #[] }, { accessFlags := 9, nameIndex := 138, descriptorIndex := 139, attributes := #[] }] 49 2 #[] #[{ accessFlags := 26, nameIndex := 129, descriptorIndex := 130, attributes := #[] }, { accessFlags := 26, nameIndex := 11, descriptorIndex := 12, attributes := #[] }, { accessFlags := 26, nameIndex := 132, descriptorIndex := 130, attributes := #[] }])
  fields := #[{ name := "NO_SEQUENCE", type := .int, accessFlags := 26, slot := 0, constantValue := 0 }, { name := "LEADS", type := (.array .int), accessFlags := 26, slot := 1, constantValue := 0 }, { name := "LATER", type := .int, accessFlags := 26, slot := 2, constantValue := 0 }]
  methods := #[k2m0, k2m1]
  instanceTypes := #[]
  staticTypes := #[.int, (.array .int), .int]
  resolved := Array.replicate 180 none
  statics := none }

def pool3 : Array CpInfo := pool [(1, u "java/lang/Cloneable"), (0, .class_ 1), (0, u "java/lang/Object"), (0, .class_ 3)] 3

/-- java/lang/Cloneable -/
def k3 : Class := { plain "java/lang/Cloneable" (some 0) with
  accessFlags := 1537
  interfaces := #[]
  cf := some (fileOf pool3 2 #[] #[] 1537 4 #[] #[])
  fields := #[]
  methods := #[]
  instanceTypes := #[]
  staticTypes := #[]
  resolved := Array.replicate 8 none
  statics := none }

def pool4 : Array CpInfo := pool [(1, u "java/io/Serializable"), (0, .class_ 1), (0, u "java/lang/Object"), (0, .class_ 3)] 3

/-- java/io/Serializable -/
def k4 : Class := { plain "java/io/Serializable" (some 0) with
  accessFlags := 1537
  interfaces := #[]
  cf := some (fileOf pool4 2 #[] #[] 1537 4 #[] #[])
  fields := #[]
  methods := #[]
  instanceTypes := #[]
  staticTypes := #[]
  resolved := Array.replicate 8 none
  statics := none }

/-- the primitive byte -/
def k5 : Class := { plain "byte" none with kind := .primitive 'B', accessFlags := 0x411 }
/-- [B -/
def k6 : Class := { plain "[B" (some 0) with kind := .array 5 .byte, interfaces := #[3, 4], accessFlags := 1041 }

/-- the primitive int -/
def k7 : Class := { plain "int" none with kind := .primitive 'I', accessFlags := 0x411 }
/-- [I -/
def k8 : Class := { plain "[I" (some 0) with kind := .array 7 .int, interfaces := #[3, 4], accessFlags := 1041 }

def heap : Heap := #[]
def classes : Array Class := #[k0, k1, k2, k3, k4, k5, k6, k7, k8]
def interned : List (Array UInt16 × Addr) := []
def slotsUsed : Nat := 0
def theMethod : MethodId := ⟨1, 1⟩
def args0 : Array Value := #[.int 5, .int 6, .int 7, .int 8, .int 9, .int 15]
def aboutOver (below : List Frame) : State where
  vm := { classes := classes, interned := interned.toArray }
  heap := heap
  slotsUsed := slotsUsed
  threads := #[{ frames := .invoking theMethod args0 :: below }]
def below0 : List Frame := [.native { method := ⟨0, 0⟩, args := #[] }]
def about1 : State := aboutOver below0
def p0 : Program := .bare "" "" ""
def e0 : Env := launch0.env 0 0 0
theorem w_frames : about1.frames = Frame.invoking theMethod args0 :: below0 := rfl
set_option maxRecDepth 65536 in
theorem w_args : argsFit about1.vm theMethod args0 = true := by decide +kernel
set_option maxRecDepth 65536 in
theorem w_heap : heapFits about1 = true := by decide +kernel
set_option maxRecDepth 65536 in
theorem w_runnable : about1.curStatus? = some .runnable := by decide +kernel
set_option maxRecDepth 65536 in
theorem w_alone : about1.alone = true := by decide +kernel
set_option maxRecDepth 65536 in
theorem w_named : about1.methodNamed? x = some theMethod := by decide +kernel
set_option maxRecDepth 65536 in
theorem w_hears : about1.hears theMethod below0 = true := by decide +kernel
set_option maxRecDepth 65536 in
theorem w_ripe : about1.ripe theMethod args0 below0 = true := by decide +kernel
theorem w_running : about1.status = .running := rfl
set_option maxRecDepth 65536 in
theorem w_room : about1.hasRoom e0.platform room_1 = true :=
  launch0.hasRoom_least _ room_1 (by decide +kernel) (by decide +kernel) (by decide +kernel) (by decide +kernel) (by decide +kernel) (by decide +kernel)
theorem allAtoms_all (ts : List Jvm.Cond) (a : Array Jvm.Value) (st : Jvm.State) : (allAtoms ts).before a st = ts.all (fun c => c.before a st) := by
  induction ts with
  | nil => rfl
  | cons c t ih =>
    show (Jvm.Cond.and c (allAtoms t)).before a st = _
    rw [Jvm.Cond.before_and, ih, List.all_cons]
def words1 : List Jvm.Cond := Jvm.Cond.code x code maxLocals ret :: tables_1
/-- a 'code' word, met by the world's own term for the bytes: nothing is compared byte by byte -/
theorem code_word {y : MethodName} {bytes : ByteArray} {mx : Nat} {rt : Option FieldType} {a : Array Value} {s : State} {m : MethodId} {meth : Method} {c : Code} (h1 : s.methodNamed? y = some m) (h2 : s.vm.method? m = some meth) (h3 : meth.code = some c) (h4 : c.code = bytes)
    (h5 : (c.maxLocals == mx && c.exceptionTable.isEmpty && decide (c.maxStack ≤ mostOperands) && decide (meth.sig.returnType = rt) && !meth.locks && decide (parseMethodDescriptor y.desc = some meth.sig)) = true) : (Jvm.Cond.code y bytes mx rt).before a s = true := by
  simp only [Bool.and_eq_true, beq_iff_eq, Bool.not_eq_true', decide_eq_true_eq] at h5
  obtain ⟨⟨⟨⟨⟨g1, g2⟩, g3⟩, g4⟩, g5⟩, g6⟩ := h5
  simp [Cond.before, Cond.holds, Cond.value, h1, h2, h3, h4, g1, g2, g3, g4, g5, g6]
def isCode : Jvm.Cond → Bool
  | .code _ _ _ _ => true
  | _ => false
theorem all_split {L : List Jvm.Cond} {P : Jvm.Cond → Bool} (h1 : L.all (fun c => isCode c || P c) = true) (h2 : ∀ c ∈ L.filter isCode, P c = true) : L.all P = true := by
  refine List.all_eq_true.mpr fun c hc => ?_
  have h := List.all_eq_true.mp h1 c hc
  rcases Bool.eq_false_or_eq_true (isCode c) with hi | hi
  · exact h2 c (List.mem_filter.mpr ⟨hc, hi⟩)
  · simpa [hi] using h
set_option maxRecDepth 65536 in
theorem w_c0 : (Jvm.Cond.code x code maxLocals ret).before args0 about1 = true := code_word (m := ⟨1, 1⟩) (meth := k1m1) (c := k1c1) (by decide +kernel) rfl rfl rfl (by decide +kernel)
set_option maxRecDepth 65536 in
theorem w_c1 : (Jvm.Cond.code ({ cls := "com/example/fuxi/fuxi/codec/Utf8CodePointCountPinLaw", name := "put", desc := "([BII)I" } : Jvm.MethodName) method_3_code (6 : Nat) (Option.some Jvm.ClassFile.FieldType.int)).before args0 about1 = true := code_word (m := ⟨1, 2⟩) (meth := k1m2) (c := k1c2) (by decide +kernel) rfl rfl rfl (by decide +kernel)
set_option maxRecDepth 65536 in
theorem w_c2 : (Jvm.Cond.code ({ cls := "com/example/fuxi/fuxi/codec/Utf8", name := "codePointCount", desc := "([BII)I" } : Jvm.MethodName) prog_15_method_4_code (5 : Nat) (Option.some Jvm.ClassFile.FieldType.int)).before args0 about1 = true := code_word (m := ⟨2, 1⟩) (meth := k2m1) (c := k2c1) (by decide +kernel) rfl rfl rfl (by decide +kernel)
def codes1 : List Jvm.Cond := [Jvm.Cond.code x code maxLocals ret, Jvm.Cond.code ({ cls := "com/example/fuxi/fuxi/codec/Utf8CodePointCountPinLaw", name := "put", desc := "([BII)I" } : Jvm.MethodName) method_3_code (6 : Nat) (Option.some Jvm.ClassFile.FieldType.int), Jvm.Cond.code ({ cls := "com/example/fuxi/fuxi/codec/Utf8", name := "codePointCount", desc := "([BII)I" } : Jvm.MethodName) prog_15_method_4_code (5 : Nat) (Option.some Jvm.ClassFile.FieldType.int)]
set_option maxRecDepth 65536 in
theorem codes_eq : words1.filter isCode = codes1 := rfl
theorem w_codes : ∀ c ∈ words1.filter isCode, c.before args0 about1 = true := by
  rw [codes_eq]
  intro c hc
  simp only [codes1, List.mem_cons, List.not_mem_nil, or_false] at hc
  rcases hc with rfl | rfl | rfl
  · exact w_c0
  · exact w_c1
  · exact w_c2
set_option maxRecDepth 65536 in
theorem w_t1 : words1.all (fun c => isCode c || c.before args0 about1) = true := by decide +kernel
theorem w_tables : (allAtoms (Jvm.Cond.code x code maxLocals ret :: tables_1)).before args0 about1 = true := by
  rw [allAtoms_all]
  show words1.all (fun c => c.before args0 about1) = true
  refine all_split ?_ w_codes
  rw [w_t1]
set_option maxRecDepth 65536 in
theorem w_case : (Jvm.Cond.and given_1 narrow_1).before args0 about1 = true := by decide +kernel
theorem w_applies : (headSpec (Jvm.Cond.code x code maxLocals ret :: tables_1) room_1).applies x e0.platform about1 = true :=
  (Spec.applies_iff w_frames).mpr ⟨w_running, w_runnable, w_alone, w_named, w_hears, w_ripe, w_room, w_tables⟩
theorem atStart : AtStart classFile x code maxLocals ret World_1 tables_1 room_1 Calls_1 rest_1 Pre_1 launch0 p0 e0 about1 theMethod args0 below0 :=
  ⟨lists_1, trivial, launch0.admits_env _ _ _, launch0.least_env, fairChoices_fair.cas, fairChoices_fair.clock, w_frames, w_args, w_heap, w_applies, trivial, trivial, w_case⟩
end start1
theorem witness_1 : WitnessClaimed_1 := ⟨start1.p0, start1.e0, start1.about1, start1.theMethod, start1.args0, start1.below0, start1.atStart⟩
end Jvm.Pilot.@@N@@
