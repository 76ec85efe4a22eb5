import JvmDerived
import JvmDerived.Pilot.@@N@@Statement
import JvmDerived.Pilot.@@N@@Code
set_option linter.unusedVariables false
set_option linter.unusedSimpArgs false
@@BLOCK:NumsL.lean.txt@@
namespace Jvm.RoadKit
open Sem ClassFile Op Lib Jvm.Stand Jvm.Free Jvm.LawKit
section New
variable {p : Program} {l : Launch} {e : Env} {R : Room} {s : State} {m : MethodId} {args : Array Value} {below : List Frame} {meth : Method} {c : Code} {T : State} {locs : List Loc} {cells slots : Nat}
theorem retI (X : Stand p l e R s m args below meth c T locs cells slots) (hx : p.tables.exec = Jvm.exec) {pc : Nat} {Ls : Array Slot} {z : Int32} {rest : List Value} (hret : meth.sig.returnType = some .int) (hd : decode c.code pc = .ok (.ireturn, 1)) {fs : List Frame}
    (hl : ∀ (f : JFrame) (acts : List Action), f.method = m → f.locked = none → f.entered = [] → (doReturn e (T.setTop f) acts (some (.int z))).1 = T.setFrames fs) : Steps p.tables e below (T.setTop (mkF m pc Ls (.int z :: rest))) (T.setFrames fs) := by
  have hm' : T.vm.method? m = some meth := X.method'
  have hn : narrow .int (.int z) = .int z := rfl
  show Steps p.tables e below (T.setTop { method := m, pc := pc, locals := Ls, stack := _ :: rest, locked := none }) _
  jvm_step X.here [X.here.top, hx, hd, hm', hret, hn]
  first | (intro acts; rw [hl _ acts rfl rfl rfl]) | rw [hl _ _ rfl rfl rfl]
  exact Steps.refl _
end New
end Jvm.RoadKit
namespace Jvm.Pilot.@@N@@
open Jvm Jvm.ClassFile Sem Op Lib Jvm.Free Jvm.Stand Jvm.LawKit Jvm.RoadKit Bundle Jvm.Pilot.@@N@@.Jvm.D
/-! own: Java's shifts and remainders, written short -/
def own_shl (x y : Int32) : Int32 := x <<< (y &&& 31)
def own_shr (x y : Int32) : Int32 := x >>> (y &&& 31)
def own_ushr (x y : Int32) : Int32 := (x.toUInt32 >>> (y &&& 31).toUInt32).toInt32
def own_shlL (x : Int64) (y : Int32) : Int64 := x <<< (y &&& 0x3f).toInt64
def own_shrL (x : Int64) (y : Int32) : Int64 := x >>> (y &&& 0x3f).toInt64
def own_ushrL (x : Int64) (y : Int32) : Int64 := (x.toUInt64 >>> (y &&& 0x3f).toInt64.toUInt64).toInt64
def own_rem (x y : Int32) : Int32 := x - (x / y) * y
def own_remL (x y : Int64) : Int64 := x - (x / y) * y
theorem own_rem_nn {x y : Int32} (hx : 0 ≤ x.toInt) (hy : 0 < y.toInt) : (own_rem x y).toInt = x.toInt % y.toInt := by
  have hd : (x / y).toInt = x.toInt / y.toInt := by
    rw [Jvm.Kit.i32_div (by omega), Int.tdiv_eq_ediv_of_nonneg hx]
  have b1 := Int.emod_add_mul_ediv x.toInt y.toInt
  have b2 := Int.emod_nonneg x.toInt (by omega : y.toInt ≠ 0)
  have b3 := Int.emod_lt_of_pos x.toInt hy
  have b4 : 0 ≤ x.toInt / y.toInt := Int.ediv_nonneg hx (by omega)
  have hX := Int32.toInt_lt x
  have b5 : 0 ≤ y.toInt * (x.toInt / y.toInt) := Int.mul_nonneg (by omega) b4
  have hm : ((x / y) * y).toInt = y.toInt * (x.toInt / y.toInt) := by
    rw [Jvm.Kit.i32_mul (by rw [hd, Int.mul_comm]; omega) (by rw [hd, Int.mul_comm]; omega), hd, Int.mul_comm]
  unfold own_rem
  rw [Jvm.Kit.i32_sub (by rw [hm]; omega) (by rw [hm]; omega), hm]; omega
/-! own: a run from a frame to what 'Post' says -/
section OwnRun
variable {p : Program} {l : Launch} {e : Env} {R : Room} {s : State} {m : MethodId} {args : Array Value} {below : List Frame} {meth : Method} {c : Code} {T T' : State} {locs : List Loc} {cells slots : Nat} {g g' : JFrame} {Post : State → Prop} {n0 : Nat} {P : Heap → Prop} {C S : Nat} {Z : State} {h : Heap} {a : Addr} {k : ClassId} {n j : Int32} {vs : List Value} {d v : Value} {E : State → Outcome → State → List Loc → Nat → Nat → Prop}
def own_Run (p : Program) (e : Env) (below : List Frame) (T : State) (g : JFrame) (Post : State → Prop) : Prop := ∃ t, Steps p.tables e below (T.setTop g) t ∧ Post t
theorem own_step (st : ∀ t, Steps p.tables e below (T'.setTop g') t → Steps p.tables e below (T.setTop g) t) (h : own_Run p e below T' g' Post) : own_Run p e below T g Post := h.imp fun t k => ⟨st t k.1, k.2⟩
theorem own_tr (st : Steps p.tables e below (T.setTop g) (T'.setTop g')) (h : own_Run p e below T' g' Post) : own_Run p e below T g Post := h.imp fun t k => ⟨st.trans k.1, k.2⟩
theorem own_here (h : Post (T.setTop g)) : own_Run p e below T g Post := ⟨_, Steps.refl _, h⟩
theorem own_entry {Q : State → Prop} (q : g = g') (h : own_Run p e below T g' Q) : own_Run p e below T g Q := q ▸ h
def own_Q (n0 : Nat) (P : Heap → Prop) (w : Option Value) : Option Value → Heap → List Loc → Prop := fun v h L => v = w ∧ Fr n0 L ∧ P h
def own_Ret (E : State → Outcome → State → List Loc → Nat → Nat → Prop) (U : State) (below : List Frame) (C S : Nat) (Q : Option Value → Heap → List Loc → Prop) : State → Prop := fun t => t.status = .running ∧ ∃ o, Ended t below o ∧ ∃ v L, o = .returned v ∧ Q v t.heap L ∧ E U o t L C S
theorem own_fin {Q : Option Value → Heap → List Loc → Prop} (h : own_Run p e below T g (own_Ret E s below C S Q)) : ∃ s₂ o, Steps p.tables e below (T.setTop g) s₂ ∧ s₂.status = .running ∧ Ended s₂ below o ∧ ∃ v L, o = .returned v ∧ Q v s₂.heap L ∧ E s o s₂ L C S := by
  obtain ⟨t, st, hr, o, he, r⟩ := h; exact ⟨t, o, st, hr, he, r⟩
theorem own_vi {x y : Int32} (q : x = y) (h : own_Run p e below T g (own_Ret E s below C S (own_Q n0 P (some (.int y))))) : own_Run p e below T g (own_Ret E s below C S (own_Q n0 P (some (.int x)))) := q ▸ h
theorem own_vj {x y : Int64} (q : x = y) (h : own_Run p e below T g (own_Ret E s below C S (own_Q n0 P (some (.long y))))) : own_Run p e below T g (own_Ret E s below C S (own_Q n0 P (some (.long x)))) := q ▸ h
theorem own_leave {w : Option Value} (X : Stand p l e R s m args below meth c T locs cells slots) (hv : meth.sig.returnType = none → w = none) (hlk : meth.locks = false) (hC : cells ≤ C) (hS : slots ≤ S) (N : Fr n0 locs) (hP : P T.heap)
    (st : ∀ fs, (∀ (f : JFrame) (acts : List Action), f.method = m → f.locked = none → f.entered = [] → (doReturn e (T.setTop f) acts w).1 = T.setFrames fs) → Steps p.tables e below (T.setTop g) (T.setFrames fs)) : own_Run p e below T g (own_Ret FrameEnd s below C S (own_Q n0 P w)) := by
  obtain ⟨fs, hr, hrun, hended, hW, hsame⟩ := X.leave (v := w) hv hlk
  exact ⟨_, st fs hr, hrun, _, hended, _, _, rfl, ⟨rfl, N, hP⟩, ⟨_, rfl⟩, hW, hsame.mono hC hS⟩
theorem own_retZ (X : Stand p l e R s m args below meth c T locs cells slots) (hx : p.tables.exec = Jvm.exec) (hlk : meth.locks = false) {pc : Nat} {Ls : Array Slot} {z : Int32} {rest : List Value} (hret : meth.sig.returnType = some .boolean) (hd : decode c.code pc = .ok (.ireturn, 1)) (hC : cells ≤ C) (hS : slots ≤ S) (N : Fr n0 locs) (hP : P T.heap) :
    own_Run p e below T (mkF m pc Ls (.int z :: rest)) (own_Ret FrameEnd s below C S (own_Q n0 P (some (.int (nar .boolean z))))) :=
  own_leave X (fun q => by rw [hret] at q; cases q) hlk hC hS N hP fun fs hr => retN X hx (t := .boolean) hret (by simp) hd hr
theorem own_retI (X : Stand p l e R s m args below meth c T locs cells slots) (hx : p.tables.exec = Jvm.exec) (hlk : meth.locks = false) {pc : Nat} {Ls : Array Slot} {z : Int32} {rest : List Value} (hret : meth.sig.returnType = some .int) (hd : decode c.code pc = .ok (.ireturn, 1)) (hC : cells ≤ C) (hS : slots ≤ S) (N : Fr n0 locs) (hP : P T.heap) :
    own_Run p e below T (mkF m pc Ls (.int z :: rest)) (own_Ret FrameEnd s below C S (own_Q n0 P (some (.int z)))) :=
  own_leave X (fun q => by rw [hret] at q; cases q) hlk hC hS N hP fun fs hr => retI X hx hret hd hr
theorem own_retJ (X : Stand p l e R s m args below meth c T locs cells slots) (hx : p.tables.exec = Jvm.exec) (hlk : meth.locks = false) {pc : Nat} {Ls : Array Slot} {z : Int64} (hret : meth.sig.returnType = some .long) (hd : decode c.code pc = .ok (.lreturn, 1)) (hC : cells ≤ C) (hS : slots ≤ S) (N : Fr n0 locs) (hP : P T.heap) :
    own_Run p e below T (mkF m pc Ls [.long z]) (own_Ret FrameEnd s below C S (own_Q n0 P (some (.long z)))) :=
  own_leave X (fun q => by rw [hret] at q; cases q) hlk hC hS N hP fun fs hr => X.lreturnOut hx hret hd hr
theorem own_retD (X : Stand p l e R s m args below meth c T locs cells slots) (hx : p.tables.exec = Jvm.exec) (hlk : meth.locks = false) {pc : Nat} {Ls : Array Slot} {z : UInt64} {rest : List Value} (hret : meth.sig.returnType = some .double) (hd : decode c.code pc = .ok (.dreturn, 1)) (hC : cells ≤ C) (hS : slots ≤ S) (N : Fr n0 locs) (hP : P T.heap) :
    own_Run p e below T (mkF m pc Ls (.double z :: rest)) (own_Ret FrameEnd s below C S (own_Q n0 P (some (.double z)))) :=
  own_leave X (fun q => by rw [hret] at q; cases q) hlk hC hS N hP fun fs hr => retOut X hx (i := .dreturn) hret rfl (Or.inr (Or.inr (Or.inl ⟨rfl, rfl, z, rfl⟩))) hd hr
theorem own_retV (X : Stand p l e R s m args below meth c T locs cells slots) (hx : p.tables.exec = Jvm.exec) (hlk : meth.locks = false) {pc : Nat} {Ls : Array Slot} (hret : meth.sig.returnType = none) (hd : decode c.code pc = .ok (.return_, 1)) (hC : cells ≤ C) (hS : slots ≤ S) (N : Fr n0 locs) (hP : P T.heap) :
    own_Run p e below T (mkF m pc Ls []) (own_Ret FrameEnd s below C S (own_Q n0 P none)) :=
  own_leave X (fun _ => rfl) hlk hC hS N hP fun fs hr => X.returnOut hx hret hd hr
theorem own_retA (X : Stand p l e R s m args below meth c T locs cells slots) (hx : p.tables.exec = Jvm.exec) (hlk : meth.locks = false) {pc : Nat} {Ls : Array Slot} {w : Value} {t : FieldType} (hret : meth.sig.returnType = some t) (ht : t.isReference = true) (hw : w.isRef = true) (hd : decode c.code pc = .ok (.areturn, 1)) (hC : cells ≤ C) (hS : slots ≤ S) (N : Fr n0 locs) (hP : P T.heap) :
    own_Run p e below T (mkF m pc Ls [w]) (own_Ret FrameEnd s below C S (own_Q n0 P (some w))) :=
  own_leave X (fun q => by rw [hret] at q; cases q) hlk hC hS N hP fun fs hr => X.areturnOut hx hw hret ht hd hr
/-! own: the same where the walk may have loaded a String constant (the tables may hold a new pair) -/
theorem own_mixW {U t : State} {o : Outcome} {L : List Loc} {k n k' n' : Nat} (h : ReturnedEndW U o t L k n) (hk : k ≤ k') (hn : n ≤ n') : ReturnedEndW U o t L k' n' := ⟨h.1, h.2.1, h.2.2.1, h.2.2.2.mono hk hn⟩
theorem own_leaveW {vm₁ : Vm} {n : Nat} {w : Option Value} (X : Stand p l e R (s.setVm vm₁) m args below meth c T locs cells slots) (hS : s.Since vm₁ n) (hn : n ≤ T.heap.size) (hv : meth.sig.returnType = none → w = none) (hlk : meth.locks = false) (hC : cells ≤ C) (hSl : slots ≤ S) (N : Fr n0 locs) (hP : P T.heap)
    (st : ∀ fs, (∀ (f : JFrame) (acts : List Action), f.method = m → f.locked = none → f.entered = [] → (doReturn e (T.setTop f) acts w).1 = T.setFrames fs) → Steps p.tables e below (T.setTop g) (T.setFrames fs)) : own_Run p e below T g (own_Ret ReturnedEndW s below C S (own_Q n0 P w)) := by
  obtain ⟨fs, hr, hrun, hended, hW⟩ := X.leaveW hS hn (v := w) hv hlk
  exact ⟨_, st fs hr, hrun, _, hended, _, _, rfl, ⟨rfl, N, hP⟩, own_mixW hW hC hSl⟩
theorem own_retZW {vm₁ : Vm} {n : Nat} (X : Stand p l e R (s.setVm vm₁) m args below meth c T locs cells slots) (hx : p.tables.exec = Jvm.exec) (hlk : meth.locks = false) {pc : Nat} {Ls : Array Slot} {z : Int32} {rest : List Value} (hret : meth.sig.returnType = some .boolean) (hd : decode c.code pc = .ok (.ireturn, 1)) (hC : cells ≤ C) (hSl : slots ≤ S) (N : Fr n0 locs) (hP : P T.heap) (hS : s.Since vm₁ n) (hn : n ≤ T.heap.size) :
    own_Run p e below T (mkF m pc Ls (.int z :: rest)) (own_Ret ReturnedEndW s below C S (own_Q n0 P (some (.int (nar .boolean z))))) :=
  own_leaveW X hS hn (fun q => by rw [hret] at q; cases q) hlk hC hSl N hP fun fs hr => retN X hx (t := .boolean) hret (by simp) hd hr
theorem own_retVW {vm₁ : Vm} {n : Nat} (X : Stand p l e R (s.setVm vm₁) m args below meth c T locs cells slots) (hx : p.tables.exec = Jvm.exec) (hlk : meth.locks = false) {pc : Nat} {Ls : Array Slot} (hret : meth.sig.returnType = none) (hd : decode c.code pc = .ok (.return_, 1)) (hC : cells ≤ C) (hSl : slots ≤ S) (N : Fr n0 locs) (hP : P T.heap) (hS : s.Since vm₁ n) (hn : n ≤ T.heap.size) :
    own_Run p e below T (mkF m pc Ls []) (own_Ret ReturnedEndW s below C S (own_Q n0 P none)) :=
  own_leaveW X hS hn (fun _ => rfl) hlk hC hSl N hP fun fs hr => X.returnOut hx hret hd hr
/-- no static's home -/
def own_Pl (h : Heap) (a : Addr) : Prop := ∃ c : Cell, h[a]? = some c ∧ c.vm.isStatics = false
theorem own_plV {ty : FieldType} (F : Arv Z h a k ty n vs d) : own_Pl h a := by obtain ⟨c, A, -⟩ := F; exact ⟨c, A.1, A.plain⟩
theorem own_plE {Cn : String} (F : Exa Z h a Cn) : own_Pl h a := by obtain ⟨c, kk, h1, -, -, h4, -⟩ := F; exact ⟨c, h1, h4⟩
theorem own_keepS {h' : Heap} {ws : List Addr} {Cn fn dn : String} (F : Sta Z h Cn fn dn v) (K : Keep h h' ws) (A : ∀ a ∈ ws, own_Pl h a) : Sta Z h' Cn fn dn v := by
  obtain ⟨cf, i, kk, f, st, cell, h1, h2, h3, h4, h5, h6, h7⟩ := F
  refine ⟨cf, i, kk, f, st, cell, h1, h2, h3, h4, K.2.1 st cell h5 (fun hm => ?_), h6, h7⟩
  obtain ⟨c, q1, q2⟩ := A st hm
  cases h5.symm.trans q1; rw [q2] at h6; cases h6
/-! own: an array's component, by its Arv -/
theorem own_ldI (X : Stand p l e R s m args below meth c T locs cells slots) (hx : p.tables.exec = Jvm.exec) (hZ : Z.Warmed39 s.vm) (eT : T.heap = h) (F : Arv Z h a k .int n vs d) (q : ¬ j < 0 ∧ j < n) (u : vs.getD j.toNatClampNeg d = v) (hg : g.method = m) {rest : List Value} (hs : g.stack = .int j :: .ref a :: rest) (hd : decode c.code g.pc = .ok (.iaload, 1)) :
    ∀ t, Steps p.tables e below (T.setTop { g with pc := g.pc + 1, stack := v :: rest }) t → Steps p.tables e below (T.setTop g) t := by
  obtain ⟨cl, Ar, -, Sz, -, Hs, -⟩ := F
  exact fun t kt => X.iaload hx (by rw [eT]; exact Ar.1) (State.isArrayOf_alike hZ.alike Ar.2.1) Ar.2.2 (inb_of Sz q) (Hs.at (inb_of Sz q) u) hg hs hd t kt
theorem own_ldJ (X : Stand p l e R s m args below meth c T locs cells slots) (hx : p.tables.exec = Jvm.exec) (hZ : Z.Warmed39 s.vm) (eT : T.heap = h) (F : Arv Z h a k .long n vs d) (q : ¬ j < 0 ∧ j < n) (u : vs.getD j.toNatClampNeg d = v) (hg : g.method = m) {rest : List Value} (hs : g.stack = .int j :: .ref a :: rest) (hd : decode c.code g.pc = .ok (.laload, 1)) :
    ∀ t, Steps p.tables e below (T.setTop { g with pc := g.pc + 1, stack := v :: rest }) t → Steps p.tables e below (T.setTop g) t := by
  obtain ⟨cl, Ar, -, Sz, -, Hs, -⟩ := F
  exact fun t kt => X.laload hx (by rw [eT]; exact Ar.1) (State.isArrayOf_alike hZ.alike Ar.2.1) Ar.2.2 (inb_of Sz q) (Hs.at (inb_of Sz q) u) hg hs hd t kt
theorem own_ldB (X : Stand p l e R s m args below meth c T locs cells slots) (hx : p.tables.exec = Jvm.exec) (hZ : Z.Warmed39 s.vm) (eT : T.heap = h) (F : Arv Z h a k .byte n vs d) (q : ¬ j < 0 ∧ j < n) (u : vs.getD j.toNatClampNeg d = v) (hg : g.method = m) {rest : List Value} (hs : g.stack = .int j :: .ref a :: rest) (hd : decode c.code g.pc = .ok (.baload, 1)) :
    ∀ t, Steps p.tables e below (T.setTop { g with pc := g.pc + 1, stack := v :: rest }) t → Steps p.tables e below (T.setTop g) t := by
  obtain ⟨cl, Ar, -, Sz, -, Hs, -⟩ := F
  exact fun t kt => X.baloadBytes hx (by rw [eT]; exact Ar.1) (State.isArrayOf_alike hZ.alike Ar.2.1) Ar.2.2 (inb_of Sz q) (Hs.at (inb_of Sz q) u) hg hs hd t kt
theorem own_len (X : Stand p l e R s m args below meth c T locs cells slots) (hx : p.tables.exec = Jvm.exec) (hZ : Z.Warmed39 s.vm) (eT : T.heap = h) {ty : FieldType} (F : Arv Z h a k ty n vs d) (hg : g.method = m) {rest : List Value} (hs : g.stack = .ref a :: rest) (hd : decode c.code g.pc = .ok (.arraylength, 1)) :
    ∀ t, Steps p.tables e below (T.setTop { g with pc := g.pc + 1, stack := .int n :: rest }) t → Steps p.tables e below (T.setTop g) t := by
  obtain ⟨cl, Ar, -, Sz, Ng, -, -⟩ := F
  intro t kt
  refine X.arraylength hx (by rw [eT]; exact Ar.1) (State.isArrayOf_alike hZ.alike Ar.2.1) hg hs hd t ?_
  rw [len_of Sz Ng]; exact kt
theorem own_stI (X : Stand p l e R s m args below meth c T locs cells slots) (hx : p.tables.exec = Jvm.exec) (hZ : Z.Warmed39 s.vm) (eT : T.heap = h) (F : Arv Z h a k .int n vs d) (N : Fr n0 locs) (ge : n0 ≤ a) {x : Int32} (q : ¬ j < 0 ∧ j < n) (i : Nat) (hi : j.toNatClampNeg = i) (hl : i < vs.length) (hg : g.method = m) {rest : List Value} (hs : g.stack = .int x :: .int j :: .ref a :: rest) (hd : decode c.code g.pc = .ok (.iastore, 1)) :
    ∃ T' h' L, Stand p l e R s m args below meth c T' L cells slots ∧ T'.heap = h' ∧ Fr n0 L ∧ Wr h h' a j.toNatClampNeg (.int x) ∧ Arv Z h' a k .int n (vs.set i (.int x)) d ∧ ∀ t, Steps p.tables e below (T'.setTop { g with pc := g.pc + 1, stack := rest }) t → Steps p.tables e below (T.setTop g) t := by
  obtain ⟨cl, Ar, q1, Sz, Ng, Hs, Gs⟩ := F
  obtain ⟨T', h', X', e', W, st⟩ := stI X hx hZ eT Ar (j := j) (x := x) (inb_of Sz q) hg hs hd
  exact ⟨T', h', _, X', e', Fr.snoc X' N ge, W, Arv.set Ar q1 Sz Ng Hs Gs rfl W i hi hl, st⟩
theorem own_stJ (X : Stand p l e R s m args below meth c T locs cells slots) (hx : p.tables.exec = Jvm.exec) (hZ : Z.Warmed39 s.vm) (eT : T.heap = h) (F : Arv Z h a k .long n vs d) (N : Fr n0 locs) (ge : n0 ≤ a) {x : Int64} (q : ¬ j < 0 ∧ j < n) (i : Nat) (hi : j.toNatClampNeg = i) (hl : i < vs.length) (hg : g.method = m) {rest : List Value} (hs : g.stack = .long x :: .int j :: .ref a :: rest) (hd : decode c.code g.pc = .ok (.lastore, 1)) :
    ∃ T' h' L, Stand p l e R s m args below meth c T' L cells slots ∧ T'.heap = h' ∧ Fr n0 L ∧ Wr h h' a j.toNatClampNeg (.long x) ∧ Arv Z h' a k .long n (vs.set i (.long x)) d ∧ ∀ t, Steps p.tables e below (T'.setTop { g with pc := g.pc + 1, stack := rest }) t → Steps p.tables e below (T.setTop g) t := by
  obtain ⟨cl, Ar, q1, Sz, Ng, Hs, Gs⟩ := F
  obtain ⟨T', h', X', e', W, st⟩ := stJ X hx hZ eT Ar (j := j) (x := x) (inb_of Sz q) hg hs hd
  exact ⟨T', h', _, X', e', Fr.snoc X' N ge, W, Arv.set Ar q1 Sz Ng Hs Gs rfl W i hi hl, st⟩
theorem own_stB (X : Stand p l e R s m args below meth c T locs cells slots) (hx : p.tables.exec = Jvm.exec) (hZ : Z.Warmed39 s.vm) (eT : T.heap = h) (F : Arv Z h a k .byte n vs d) (N : Fr n0 locs) (ge : n0 ≤ a) {x : Int32} (q : ¬ j < 0 ∧ j < n) (i : Nat) (hi : j.toNatClampNeg = i) (hl : i < vs.length) (hg : g.method = m) {rest : List Value} (hs : g.stack = .int x :: .int j :: .ref a :: rest) (hd : decode c.code g.pc = .ok (.bastore, 1)) :
    ∃ T' h' L, Stand p l e R s m args below meth c T' L cells slots ∧ T'.heap = h' ∧ Fr n0 L ∧ Wr h h' a j.toNatClampNeg (.int (nar .byte x)) ∧ Arv Z h' a k .byte n (vs.set i (.int (nar .byte x))) d ∧ ∀ t, Steps p.tables e below (T'.setTop { g with pc := g.pc + 1, stack := rest }) t → Steps p.tables e below (T.setTop g) t := by
  obtain ⟨cl, Ar, q1, Sz, Ng, Hs, Gs⟩ := F
  obtain ⟨T', h', X', e', W, st⟩ := stB X hx hZ eT Ar (j := j) (x := x) (inb_of Sz q) hg hs hd
  exact ⟨T', h', _, X', e', Fr.snoc X' N ge, W, Arv.set Ar q1 Sz Ng Hs Gs (fits_nar_byte _) W i hi hl, st⟩
theorem own_ldR {Cn : String} (X : Stand p l e R s m args below meth c T locs cells slots) (hx : p.tables.exec = Jvm.exec) (hZ : Z.Warmed39 s.vm) (eT : T.heap = h) (F : Arv Z h a k (.object Cn) n vs d) (q : ¬ j < 0 ∧ j < n) (u : vs.getD j.toNatClampNeg d = v) (hg : g.method = m) {rest : List Value} (hs : g.stack = .int j :: .ref a :: rest) (hd : decode c.code g.pc = .ok (.aaload, 1)) :
    ∀ t, Steps p.tables e below (T.setTop { g with pc := g.pc + 1, stack := v :: rest }) t → Steps p.tables e below (T.setTop g) t := by
  obtain ⟨cl, Ar, -, Sz, -, Hs, -⟩ := F
  exact fun t kt => X.aaload hx (by rw [eT]; exact Ar.1) (State.isArrayOf_alike hZ.alike Ar.2.1) rfl Ar.2.2 (inb_of Sz q) (Hs.at (inb_of Sz q) u) hg hs hd t kt
theorem own_stR {Cn : String} {y : Addr} (X : Stand p l e R s m args below meth c T locs cells slots) (hx : p.tables.exec = Jvm.exec) (hZ : Z.Warmed39 s.vm) (eT : T.heap = h) (F : Arv Z h a k (.object Cn) n vs d) (O : Ovr Z k Cn) (I : Ins Z h y Cn true) (N : Fr n0 locs) (ge : n0 ≤ a) (q : ¬ j < 0 ∧ j < n) (i : Nat) (hi : j.toNatClampNeg = i) (hl : i < vs.length) (hg : g.method = m) {rest : List Value} (hs : g.stack = .ref y :: .int j :: .ref a :: rest) (hd : decode c.code g.pc = .ok (.aastore, 1)) :
    ∃ T' h' L, Stand p l e R s m args below meth c T' L cells slots ∧ T'.heap = h' ∧ Fr n0 L ∧ Wr h h' a j.toNatClampNeg (.ref y) ∧ Arv Z h' a k (.object Cn) n (vs.set i (.ref y)) d ∧ ∀ t, Steps p.tables e below (T'.setTop { g with pc := g.pc + 1, stack := rest }) t → Steps p.tables e below (T.setTop g) t := by
  obtain ⟨cl, Ar, q1, Sz, Ng, Hs, Gs⟩ := F
  obtain ⟨T', h', X', e', W, st⟩ := stR X hx hZ eT Ar (j := j) (v := .ref y) (inb_of Sz q) rfl (Sto.ofV Ar q1 O I) hg hs hd
  exact ⟨T', h', _, X', e', Fr.snoc X' N ge, W, Arv.set Ar q1 Sz Ng Hs Gs rfl W i hi hl, st⟩
end OwnRun
theorem own_d5_0 : decode jdk_29_method_66_code 0 = .ok (.lload_n 0, 1) := by decide +kernel
theorem own_d5_1 : decode jdk_29_method_66_code 1 = .ok (.lload_n 2, 1) := by decide +kernel
theorem own_d5_2 : decode jdk_29_method_66_code 2 = .ok (.lcmp, 1) := by decide +kernel
theorem own_d5_3 : decode jdk_29_method_66_code 3 = .ok (.ifCond .lt 7, 3) := by decide +kernel
theorem own_d5_6 : decode jdk_29_method_66_code 6 = .ok (.lload_n 0, 1) := by decide +kernel
theorem own_d5_7 : decode jdk_29_method_66_code 7 = .ok (.goto 4, 3) := by decide +kernel
theorem own_d5_10 : decode jdk_29_method_66_code 10 = .ok (.lload_n 2, 1) := by decide +kernel
theorem own_d5_11 : decode jdk_29_method_66_code 11 = .ok (.lreturn, 1) := by decide +kernel
def own_f5_j11_S0 (q0 : Int64) (q1 : Int64) : Int64 := (if (lcmpW q0 q1) < (0 : Int32) then q1 else q0)
def own_r5 (q0 : Int64) (q1 : Int64) : Int64 := (own_f5_j11_S0 q0 q1)
theorem own_ef5 (m : MethodId) (q0 : Int64) (q1 : Int64) : entryFrame m #[(.long q0), (.long q1)] 4 = (mkF m 0 #[.val (.long q0), .second, .val (.long q1), .second] []) := by first | (simp [entryFrame, mkF, argsToLocals, Value.category]; done) | rfl
set_option maxRecDepth 65536 in
set_option maxHeartbeats 40000000 in
theorem rm5 (l : Launch) (Z : State) (av0 : Array Value) (hw : ∀ d ∈ tables_1, d.before av0 Z = true) (ws : List Jvm.Cond) (q0 : Int64) (q1 : Int64) (h0 : Heap) (n0 : Nat) (Z0 : n0 ≤ h0.size) :
    MetFree l (⟨"java/lang/Math", "max", "(JJ)J"⟩ : MethodName) (head1 (Jvm.Cond.code (⟨"java/lang/Math", "max", "(JJ)J"⟩ : MethodName) jdk_29_method_66_code 4 (some .long) :: ws) ({ frames := 0, cells := 0, slots := 0, locals := 0 } : Room)) (fun a U => a = #[(.long q0), (.long q1)] ∧ Z.Warmed39 U.vm ∧ U.heap = h0) (fun _ _ _ _ _ => True) (fun _ U o U' => ∃ v L, o = .returned v ∧ own_Q n0 (fun h => h = h0) (some (.long (own_r5 q0 q1))) v U'.heap L ∧ FrameEnd U o U' L ({ frames := 0, cells := 0, slots := 0, locals := 0 } : Room).cells ({ frames := 0, cells := 0, slots := 0, locals := 0 } : Room).slots) := by
  refine MetFree.of_bodySF (Jvm.Free.JP.mathPlain rfl (by decide +kernel)) hisR ?_
  intro p e s m args below meth c s₁ Bd hml0 hP hK
  obtain ⟨rfl, hZ, hh⟩ := hP
  have hx := Bd.exec
  have hby := Bd.bytes
  have hml : c.maxLocals = 4 := hml0
  have hown : s.vm.findClass "java/lang/Math" = some m.cls := findClass_of_methodNamed Bd.named
  have hnm := (name_of_methodNamed Bd.named Bd.method).1
  have hret := Bd.returns
  have hlk : meth.locks = false := BodyLoose.notSynchronized Bd
  have X0 : Stand p l e ({ frames := 0, cells := 0, slots := 0, locals := 0 } : Room) s m #[(.long q0), (.long q1)] below meth c s₁ [] 0 0 := Stand.of_body Bd
  have e0 : s₁.heap = h0 := by rw [← hh, Bd.state]; rfl
  have N0 := Fr.nil n0
  clear Bd hh hK
  refine own_fin ?_
  refine own_entry (own_ef5 m q0 q1) ?_
  show own_Run p e below s₁ _ (own_Ret _ s below _ _ (own_Q n0 _ (some (.long (own_f5_j11_S0 q0 q1)))))
  show own_Run p e below s₁ (mkF m 0 #[.val (.long q0), .second, .val (.long q1), .second] []) _
  refine own_step (fun t k => XS.lloadN X0.here hx rfl (hb hby own_d5_0) rfl  k) ?_
  show own_Run p e below s₁ (mkF m 1 #[.val (.long q0), .second, .val (.long q1), .second] [(.long q0)]) _
  refine own_step (fun t k => XS.lloadN X0.here hx rfl (hb hby own_d5_1) rfl  k) ?_
  show own_Run p e below s₁ (mkF m 2 #[.val (.long q0), .second, .val (.long q1), .second] [(.long q1), (.long q0)]) _
  refine own_step (fun t k => XS.lcmp X0.here hx rfl (hb hby own_d5_2) rfl k) ?_
  show own_Run p e below s₁ (mkF m 3 #[.val (.long q0), .second, .val (.long q1), .second] [(.int (lcmpW q0 q1))]) _
  obtain ⟨_, st3, rfl⟩ : own_Run p e below s₁ (mkF m 3 #[.val (.long q0), .second, .val (.long q1), .second] [(.int (lcmpW q0 q1))]) (fun t => t = s₁.setTop (mkF m 11 #[.val (.long q0), .second, .val (.long q1), .second] [(.long (own_f5_j11_S0 q0 q1))])) := by
    by_cases hc4 : (lcmpW q0 q1) < (0 : Int32)
    · refine own_step (fun t k => XS.ifYes X0.here hx rfl (pc0 := 3) (pc' := 10) rfl (hb hby own_d5_3) rfl ((if0 _ _).trans (tlt hc4).1) (by decide) (by decide) k) ?_
      show own_Run p e below s₁ (mkF m 10 #[.val (.long q0), .second, .val (.long q1), .second] []) _
      refine own_step (fun t k => XS.lloadN X0.here hx rfl (hb hby own_d5_10) rfl  k) ?_
      show own_Run p e below s₁ (mkF m 11 #[.val (.long q0), .second, .val (.long q1), .second] [(.long q1)]) _
      have hj0 : (own_f5_j11_S0 q0 q1) = q1 := (if_pos hc4)
      exact own_here (by rw [hj0])
    · refine own_step (fun t k => XS.ifNo X0.here hx rfl (hb hby own_d5_3) rfl ((if0 _ _).trans (flt hc4).1) k) ?_
      show own_Run p e below s₁ (mkF m 6 #[.val (.long q0), .second, .val (.long q1), .second] []) _
      refine own_step (fun t k => XS.lloadN X0.here hx rfl (hb hby own_d5_6) rfl  k) ?_
      show own_Run p e below s₁ (mkF m 7 #[.val (.long q0), .second, .val (.long q1), .second] [(.long q0)]) _
      refine own_step (fun t k => XS.goto X0.here hx rfl (pc0 := 7) (pc' := 11) rfl (hb hby own_d5_7) (by decide) (by decide) k) ?_
      show own_Run p e below s₁ (mkF m 11 #[.val (.long q0), .second, .val (.long q1), .second] [(.long q0)]) _
      have hj0 : (own_f5_j11_S0 q0 q1) = q0 := (if_neg hc4)
      exact own_here (by rw [hj0])
  refine own_tr st3 ?_
  show own_Run p e below s₁ (mkF m 11 #[.val (.long q0), .second, .val (.long q1), .second] [(.long (own_f5_j11_S0 q0 q1))]) _
  exact own_retJ X0 hx hlk hret (hb hby own_d5_11) (by decide) (by decide) N0 e0
theorem own_d6_0 : decode jdk_29_method_70_code 0 = .ok (.lload_n 0, 1) := by decide +kernel
theorem own_d6_1 : decode jdk_29_method_70_code 1 = .ok (.lload_n 2, 1) := by decide +kernel
theorem own_d6_2 : decode jdk_29_method_70_code 2 = .ok (.lcmp, 1) := by decide +kernel
theorem own_d6_3 : decode jdk_29_method_70_code 3 = .ok (.ifCond .gt 7, 3) := by decide +kernel
theorem own_d6_6 : decode jdk_29_method_70_code 6 = .ok (.lload_n 0, 1) := by decide +kernel
theorem own_d6_7 : decode jdk_29_method_70_code 7 = .ok (.goto 4, 3) := by decide +kernel
theorem own_d6_10 : decode jdk_29_method_70_code 10 = .ok (.lload_n 2, 1) := by decide +kernel
theorem own_d6_11 : decode jdk_29_method_70_code 11 = .ok (.lreturn, 1) := by decide +kernel
def own_f6_j11_S0 (q0 : Int64) (q1 : Int64) : Int64 := (if (0 : Int32) < (lcmpW q0 q1) then q1 else q0)
def own_r6 (q0 : Int64) (q1 : Int64) : Int64 := (own_f6_j11_S0 q0 q1)
theorem own_ef6 (m : MethodId) (q0 : Int64) (q1 : Int64) : entryFrame m #[(.long q0), (.long q1)] 4 = (mkF m 0 #[.val (.long q0), .second, .val (.long q1), .second] []) := by first | (simp [entryFrame, mkF, argsToLocals, Value.category]; done) | rfl
set_option maxRecDepth 65536 in
set_option maxHeartbeats 40000000 in
theorem rm6 (l : Launch) (Z : State) (av0 : Array Value) (hw : ∀ d ∈ tables_1, d.before av0 Z = true) (ws : List Jvm.Cond) (q0 : Int64) (q1 : Int64) (h0 : Heap) (n0 : Nat) (Z0 : n0 ≤ h0.size) :
    MetFree l (⟨"java/lang/Math", "min", "(JJ)J"⟩ : MethodName) (head1 (Jvm.Cond.code (⟨"java/lang/Math", "min", "(JJ)J"⟩ : MethodName) jdk_29_method_70_code 4 (some .long) :: ws) ({ frames := 0, cells := 0, slots := 0, locals := 0 } : Room)) (fun a U => a = #[(.long q0), (.long q1)] ∧ Z.Warmed39 U.vm ∧ U.heap = h0) (fun _ _ _ _ _ => True) (fun _ U o U' => ∃ v L, o = .returned v ∧ own_Q n0 (fun h => h = h0) (some (.long (own_r6 q0 q1))) v U'.heap L ∧ FrameEnd U o U' L ({ frames := 0, cells := 0, slots := 0, locals := 0 } : Room).cells ({ frames := 0, cells := 0, slots := 0, locals := 0 } : Room).slots) := by
  refine MetFree.of_bodySF (Jvm.Free.JP.mathPlain rfl (by decide +kernel)) hisR ?_
  intro p e s m args below meth c s₁ Bd hml0 hP hK
  obtain ⟨rfl, hZ, hh⟩ := hP
  have hx := Bd.exec
  have hby := Bd.bytes
  have hml : c.maxLocals = 4 := hml0
  have hown : s.vm.findClass "java/lang/Math" = some m.cls := findClass_of_methodNamed Bd.named
  have hnm := (name_of_methodNamed Bd.named Bd.method).1
  have hret := Bd.returns
  have hlk : meth.locks = false := BodyLoose.notSynchronized Bd
  have X0 : Stand p l e ({ frames := 0, cells := 0, slots := 0, locals := 0 } : Room) s m #[(.long q0), (.long q1)] below meth c s₁ [] 0 0 := Stand.of_body Bd
  have e0 : s₁.heap = h0 := by rw [← hh, Bd.state]; rfl
  have N0 := Fr.nil n0
  clear Bd hh hK
  refine own_fin ?_
  refine own_entry (own_ef6 m q0 q1) ?_
  show own_Run p e below s₁ _ (own_Ret _ s below _ _ (own_Q n0 _ (some (.long (own_f6_j11_S0 q0 q1)))))
  show own_Run p e below s₁ (mkF m 0 #[.val (.long q0), .second, .val (.long q1), .second] []) _
  refine own_step (fun t k => XS.lloadN X0.here hx rfl (hb hby own_d6_0) rfl  k) ?_
  show own_Run p e below s₁ (mkF m 1 #[.val (.long q0), .second, .val (.long q1), .second] [(.long q0)]) _
  refine own_step (fun t k => XS.lloadN X0.here hx rfl (hb hby own_d6_1) rfl  k) ?_
  show own_Run p e below s₁ (mkF m 2 #[.val (.long q0), .second, .val (.long q1), .second] [(.long q1), (.long q0)]) _
  refine own_step (fun t k => XS.lcmp X0.here hx rfl (hb hby own_d6_2) rfl k) ?_
  show own_Run p e below s₁ (mkF m 3 #[.val (.long q0), .second, .val (.long q1), .second] [(.int (lcmpW q0 q1))]) _
  obtain ⟨_, st3, rfl⟩ : own_Run p e below s₁ (mkF m 3 #[.val (.long q0), .second, .val (.long q1), .second] [(.int (lcmpW q0 q1))]) (fun t => t = s₁.setTop (mkF m 11 #[.val (.long q0), .second, .val (.long q1), .second] [(.long (own_f6_j11_S0 q0 q1))])) := by
    by_cases hc4 : (0 : Int32) < (lcmpW q0 q1)
    · refine own_step (fun t k => XS.ifYes X0.here hx rfl (pc0 := 3) (pc' := 10) rfl (hb hby own_d6_3) rfl ((if0 _ _).trans (tlt hc4).2.2.1) (by decide) (by decide) k) ?_
      show own_Run p e below s₁ (mkF m 10 #[.val (.long q0), .second, .val (.long q1), .second] []) _
      refine own_step (fun t k => XS.lloadN X0.here hx rfl (hb hby own_d6_10) rfl  k) ?_
      show own_Run p e below s₁ (mkF m 11 #[.val (.long q0), .second, .val (.long q1), .second] [(.long q1)]) _
      have hj0 : (own_f6_j11_S0 q0 q1) = q1 := (if_pos hc4)
      exact own_here (by rw [hj0])
    · refine own_step (fun t k => XS.ifNo X0.here hx rfl (hb hby own_d6_3) rfl ((if0 _ _).trans (flt hc4).2.2.1) k) ?_
      show own_Run p e below s₁ (mkF m 6 #[.val (.long q0), .second, .val (.long q1), .second] []) _
      refine own_step (fun t k => XS.lloadN X0.here hx rfl (hb hby own_d6_6) rfl  k) ?_
      show own_Run p e below s₁ (mkF m 7 #[.val (.long q0), .second, .val (.long q1), .second] [(.long q0)]) _
      refine own_step (fun t k => XS.goto X0.here hx rfl (pc0 := 7) (pc' := 11) rfl (hb hby own_d6_7) (by decide) (by decide) k) ?_
      show own_Run p e below s₁ (mkF m 11 #[.val (.long q0), .second, .val (.long q1), .second] [(.long q0)]) _
      have hj0 : (own_f6_j11_S0 q0 q1) = q0 := (if_neg hc4)
      exact own_here (by rw [hj0])
  refine own_tr st3 ?_
  show own_Run p e below s₁ (mkF m 11 #[.val (.long q0), .second, .val (.long q1), .second] [(.long (own_f6_j11_S0 q0 q1))]) _
  exact own_retJ X0 hx hlk hret (hb hby own_d6_11) (by decide) (by decide) N0 e0
theorem own_pn0 : plainName "java/lang/Record" = true := by first | (simp [plainName, overriddenIn]; done) | decide +kernel
theorem own_d2_0 : decode jdk_30_method_1_code 0 = .ok (.aload_n 0, 1) := by decide +kernel
theorem own_d2_1 : decode jdk_30_method_1_code 1 = .ok (.invokespecial 1, 3) := by decide +kernel
theorem own_d2_4 : decode jdk_30_method_1_code 4 = .ok (.return_, 1) := by decide +kernel
theorem own_ef2 (m : MethodId) (a0 : Addr) : entryFrame m #[(.ref a0)] 1 = (mkF m 0 #[.val (.ref a0)] []) := by first | (simp [entryFrame, mkF, argsToLocals, Value.category]; done) | rfl
set_option maxRecDepth 65536 in
set_option maxHeartbeats 40000000 in
theorem rm2 (l : Launch) (Z : State) (av0 : Array Value) (hw : ∀ d ∈ tables_1, d.before av0 Z = true) (ws : List Jvm.Cond) (a0 : Addr) (h0 : Heap) (n0 : Nat) (Z0 : n0 ≤ h0.size) :
    MetFree l (⟨"java/lang/Record", "<init>", "()V"⟩ : MethodName) (head1 (Jvm.Cond.code (⟨"java/lang/Record", "<init>", "()V"⟩ : MethodName) jdk_30_method_1_code 1 none :: ws) ({ frames := 1, cells := 0, slots := 0, locals := 12 } : Room)) (fun a U => a = #[(.ref a0)] ∧ Z.Warmed39 U.vm ∧ U.heap = h0) (fun _ _ _ _ _ => True) (fun _ U o U' => ∃ v L, o = .returned v ∧ own_Q n0 (fun h => h = h0) none v U'.heap L ∧ FrameEnd U o U' L ({ frames := 1, cells := 0, slots := 0, locals := 12 } : Room).cells ({ frames := 1, cells := 0, slots := 0, locals := 12 } : Room).slots) := by
  refine MetFree.of_bodySF (plainFor_of_name own_pn0) hisR ?_
  intro p e s m args below meth c s₁ Bd hml0 hP hK
  obtain ⟨rfl, hZ, hh⟩ := hP
  have hx := Bd.exec
  have hby := Bd.bytes
  have hml : c.maxLocals = 1 := hml0
  have hown : s.vm.findClass "java/lang/Record" = some m.cls := findClass_of_methodNamed Bd.named
  have hnm := (name_of_methodNamed Bd.named Bd.method).1
  have hret := Bd.returns
  have hlk : meth.locks = false := BodyLoose.notSynchronized Bd
  have X0 : Stand p l e ({ frames := 1, cells := 0, slots := 0, locals := 12 } : Room) s m #[(.ref a0)] below meth c s₁ [] 0 0 := Stand.of_body Bd
  have e0 : s₁.heap = h0 := by rw [← hh, Bd.state]; rfl
  have N0 := Fr.nil n0
  clear Bd hh hK
  refine own_fin ?_
  refine own_entry (own_ef2 m a0) ?_
  show own_Run p e below s₁ (mkF m 0 #[.val (.ref a0)] []) _
  refine own_step (fun t k => XS.aloadN X0.here hx rfl (hb hby own_d2_0) rfl rfl k) ?_
  show own_Run p e below s₁ (mkF m 1 #[.val (.ref a0)] [(.ref a0)]) _
  obtain ⟨T2, X2, e2, st2⟩ := initO X0 hx hZ hown (hw _ (List.mem_of_getElem? (i := 11) rfl)) (hw _ (List.mem_of_getElem? (i := 12) rfl)) (hw _ (List.mem_of_getElem? (i := 13) rfl)) e0 (g := (mkF m 1 #[.val (.ref a0)] [(.ref a0)])) rfl (by rw [hml]; rfl) rfl (hb hby own_d2_1) (by decide) (W := 0) (by show 2 * 0 + _ ≤ _; exact Nat.le_of_eq rfl) (by decide)
  refine own_step st2 ?_
  show own_Run p e below T2 (mkF m 4 #[.val (.ref a0)] []) _
  exact own_retV X2 hx hlk hret (hb hby own_d2_4) (by decide) (by decide) N0 e2
theorem own_pd19 : parseMethodDescriptor "()V" = some ⟨[], none⟩ := by decide +kernel
theorem own_pn1 : plainName "com/example/kuva/kuva/metadata/Setting$Range" = true := by first | (simp [plainName, overriddenIn]; done) | decide +kernel
theorem own_d1_0 : decode prog_24_method_1_code 0 = .ok (.aload_n 0, 1) := by decide +kernel
theorem own_d1_1 : decode prog_24_method_1_code 1 = .ok (.invokespecial 1, 3) := by decide +kernel
theorem own_d1_4 : decode prog_24_method_1_code 4 = .ok (.aload_n 0, 1) := by decide +kernel
theorem own_d1_5 : decode prog_24_method_1_code 5 = .ok (.lload_n 1, 1) := by decide +kernel
theorem own_d1_6 : decode prog_24_method_1_code 6 = .ok (.putfield 7, 3) := by decide +kernel
theorem own_d1_9 : decode prog_24_method_1_code 9 = .ok (.aload_n 0, 1) := by decide +kernel
theorem own_d1_10 : decode prog_24_method_1_code 10 = .ok (.lload_n 3, 1) := by decide +kernel
theorem own_d1_11 : decode prog_24_method_1_code 11 = .ok (.putfield 13, 3) := by decide +kernel
theorem own_d1_14 : decode prog_24_method_1_code 14 = .ok (.return_, 1) := by decide +kernel
theorem own_ef1 (m : MethodId) (a0 : Addr) (q1 : Int64) (q2 : Int64) : entryFrame m #[(.ref a0), (.long q1), (.long q2)] 5 = (mkF m 0 #[.val (.ref a0), .val (.long q1), .second, .val (.long q2), .second] []) := by first | (simp [entryFrame, mkF, argsToLocals, Value.category]; done) | rfl
set_option maxRecDepth 65536 in
set_option maxHeartbeats 40000000 in
theorem rm1 (l : Launch) (Z : State) (av0 : Array Value) (hw : ∀ d ∈ tables_1, d.before av0 Z = true) (ws : List Jvm.Cond) (a0 : Addr) (q1 : Int64) (q2 : Int64) (h0 : Heap) (n0 : Nat) (Z0 : n0 ≤ h0.size) (g0 : n0 ≤ a0) (Fl : Fld Z h0 a0 "com/example/kuva/kuva/metadata/Setting$Range" "min" "J" (.long (0 : Int64))) (Fc : Fld Z h0 a0 "com/example/kuva/kuva/metadata/Setting$Range" "max" "J" (.long (0 : Int64))) (E0 : Exa Z h0 a0 "com/example/kuva/kuva/metadata/Setting$Range") :
    MetFree l (⟨"com/example/kuva/kuva/metadata/Setting$Range", "<init>", "(JJ)V"⟩ : MethodName) (head1 (Jvm.Cond.code (⟨"com/example/kuva/kuva/metadata/Setting$Range", "<init>", "(JJ)V"⟩ : MethodName) prog_24_method_1_code 5 none :: ws) ({ frames := 2, cells := 0, slots := 0, locals := 24 } : Room)) (fun a U => a = #[(.ref a0), (.long q1), (.long q2)] ∧ Z.Warmed39 U.vm ∧ U.heap = h0) (fun _ _ _ _ _ => True) (fun _ U o U' => ∃ v L, o = .returned v ∧ own_Q n0 (fun h => Keep h0 h [a0] ∧ Exa Z h a0 "com/example/kuva/kuva/metadata/Setting$Range" ∧ Fld Z h a0 "com/example/kuva/kuva/metadata/Setting$Range" "min" "J" (.long q1) ∧ Fld Z h a0 "com/example/kuva/kuva/metadata/Setting$Range" "max" "J" (.long q2)) none v U'.heap L ∧ FrameEnd U o U' L ({ frames := 2, cells := 0, slots := 0, locals := 24 } : Room).cells ({ frames := 2, cells := 0, slots := 0, locals := 24 } : Room).slots) := by
  refine MetFree.of_bodySF (plainFor_of_name own_pn1) hisR ?_
  intro p e s m args below meth c s₁ Bd hml0 hP hK
  obtain ⟨rfl, hZ, hh⟩ := hP
  have hx := Bd.exec
  have hby := Bd.bytes
  have hml : c.maxLocals = 5 := hml0
  have hown : s.vm.findClass "com/example/kuva/kuva/metadata/Setting$Range" = some m.cls := findClass_of_methodNamed Bd.named
  have hnm := (name_of_methodNamed Bd.named Bd.method).1
  have hret := Bd.returns
  have hlk : meth.locks = false := BodyLoose.notSynchronized Bd
  have X0 : Stand p l e ({ frames := 2, cells := 0, slots := 0, locals := 24 } : Room) s m #[(.ref a0), (.long q1), (.long q2)] below meth c s₁ [] 0 0 := Stand.of_body Bd
  have e0 : s₁.heap = h0 := by rw [← hh, Bd.state]; rfl
  have N0 := Fr.nil n0
  clear Bd hh hK
  refine own_fin ?_
  refine own_entry (own_ef1 m a0 q1 q2) ?_
  show own_Run p e below s₁ (mkF m 0 #[.val (.ref a0), .val (.long q1), .second, .val (.long q2), .second] []) _
  refine own_step (fun t k => XS.aloadN X0.here hx rfl (hb hby own_d1_0) rfl rfl k) ?_
  show own_Run p e below s₁ (mkF m 1 #[.val (.ref a0), .val (.long q1), .second, .val (.long q2), .second] [(.ref a0)]) _
  obtain ⟨_, _, ⟨T10, L10, kq10, nq10⟩, -, X10, ⟨Lc10, hQ10, lq10, yq10, zq10⟩, st10⟩ := X0.specialBack hx (y := (⟨"java/lang/Record", "<init>", "()V"⟩ : MethodName)) rfl hown (mvT hZ (hw _ (List.mem_of_getElem? (i := 6) rfl))) (mvT hZ (hw _ (List.mem_of_getElem? (i := 7) rfl))) (mvT hZ (hw _ (List.mem_of_getElem? (i := 10) rfl))) (by decide) (backOf (W := 0) (rm2 l Z av0 hw [] a0 h0 n0 Z0 ) hZ (hw _ (List.mem_of_getElem? (i := 10) rfl)) (hw _ (List.mem_of_getElem? (i := 9) rfl)) (by decide) (by decide)) (g := (mkF m 1 #[.val (.ref a0), .val (.long q1), .second, .val (.long q2), .second] [(.ref a0)])) rfl (by rw [hml]; rfl) (Steps.refl _) (a := a0) (argsL := []) (rest := []) (lenOf own_pd19 rfl) rfl (by show 2 * 0 + _ ≤ _; exact Nat.le_of_eq rfl) (hb hby own_d1_1) (fun _ _ => ⟨rfl, e0, (by decide : 0 + 0 ≤ _), (by decide : 0 + 0 ≤ _)⟩)
  dsimp only [Pt.U, Pt.locs, Pt.cells, Pt.slots] at X10 lq10 yq10 zq10 st10 hQ10
  subst lq10 yq10 zq10
  obtain ⟨rfl, N10q, e10⟩ := hQ10
  have N10 := Fr.app N0 N10q
  refine own_tr st10 ?_
  show own_Run p e below T10 (mkF m 4 #[.val (.ref a0), .val (.long q1), .second, .val (.long q2), .second] []) _
  refine own_step (fun t k => XS.aloadN X10.here hx rfl (hb hby own_d1_4) rfl rfl k) ?_
  show own_Run p e below T10 (mkF m 5 #[.val (.ref a0), .val (.long q1), .second, .val (.long q2), .second] [(.ref a0)]) _
  refine own_step (fun t k => XS.lloadN X10.here hx rfl (hb hby own_d1_5) rfl  k) ?_
  show own_Run p e below T10 (mkF m 6 #[.val (.ref a0), .val (.long q1), .second, .val (.long q2), .second] [(.long q1), (.ref a0)]) _
  obtain ⟨T11, h11, X11, e11, W11, st11⟩ := putF X10 hx hZ hown (host := "") (Or.inl (hw _ (List.mem_of_getElem? (i := 14) rfl))) Via.refl e10 Fl E0 (Or.inr ⟨(hw _ (List.mem_of_getElem? (i := 15) rfl)), rfl, hnm⟩) (hw _ (List.mem_of_getElem? (i := 1) rfl)) (ty := .long) (by decide) rfl rfl (g := (mkF m 6 #[.val (.ref a0), .val (.long q1), .second, .val (.long q2), .second] [(.long q1), (.ref a0)])) rfl rfl (hb hby own_d1_6)
  have f12 := Fl.same W11
  have f13 := Fc.other W11 (Or.inr (slot_ne (Or.inr (hw _ (List.mem_of_getElem? (i := 17) rfl))) (Or.inr (hw _ (List.mem_of_getElem? (i := 15) rfl))) (by decide) (t := .long) (t' := .long) (by decide) (by decide)))
  have f14 := E0.wr W11
  have N11 := Fr.snoc X11 N10 g0
  have Zn11 : n0 ≤ h11.size := Nat.le_trans Z0 (Keep.of_wr W11).1
  have K11 : Keep h0 h11 [a0] := (Keep.refl h0 [a0]).wr W11 (Or.inl (List.mem_of_getElem? (i := 0) rfl))
  refine own_step st11 ?_
  show own_Run p e below T11 (mkF m 9 #[.val (.ref a0), .val (.long q1), .second, .val (.long q2), .second] []) _
  refine own_step (fun t k => XS.aloadN X11.here hx rfl (hb hby own_d1_9) rfl rfl k) ?_
  show own_Run p e below T11 (mkF m 10 #[.val (.ref a0), .val (.long q1), .second, .val (.long q2), .second] [(.ref a0)]) _
  refine own_step (fun t k => XS.lloadN X11.here hx rfl (hb hby own_d1_10) rfl  k) ?_
  show own_Run p e below T11 (mkF m 11 #[.val (.ref a0), .val (.long q1), .second, .val (.long q2), .second] [(.long q2), (.ref a0)]) _
  obtain ⟨T15, h15, X15, e15, W15, st15⟩ := putF X11 hx hZ hown (host := "") (Or.inl (hw _ (List.mem_of_getElem? (i := 16) rfl))) Via.refl e11 f13 f14 (Or.inr ⟨(hw _ (List.mem_of_getElem? (i := 17) rfl)), rfl, hnm⟩) (hw _ (List.mem_of_getElem? (i := 1) rfl)) (ty := .long) (by decide) rfl rfl (g := (mkF m 11 #[.val (.ref a0), .val (.long q1), .second, .val (.long q2), .second] [(.long q2), (.ref a0)])) rfl rfl (hb hby own_d1_11)
  have f16 := f12.other W15 (Or.inr (slot_ne (Or.inr (hw _ (List.mem_of_getElem? (i := 15) rfl))) (Or.inr (hw _ (List.mem_of_getElem? (i := 17) rfl))) (by decide) (t := .long) (t' := .long) (by decide) (by decide)))
  have f17 := f13.same W15
  have f18 := f14.wr W15
  have N15 := Fr.snoc X15 N11 g0
  have Zn15 : n0 ≤ h15.size := Nat.le_trans Zn11 (Keep.of_wr W15).1
  have K15 : Keep h0 h15 [a0] := K11.wr W15 (Or.inl (List.mem_of_getElem? (i := 0) rfl))
  refine own_step st15 ?_
  show own_Run p e below T15 (mkF m 14 #[.val (.ref a0), .val (.long q1), .second, .val (.long q2), .second] []) _
  exact own_retV X15 hx hlk hret (hb hby own_d1_14) (by decide) (by decide) N15 (by rw [e15]; exact ⟨K15, f18, f16, f17⟩)
theorem own_d4_0 : decode prog_24_method_2_code 0 = .ok (.lload_n 1, 1) := by decide +kernel
theorem own_d4_1 : decode prog_24_method_2_code 1 = .ok (.aload_n 0, 1) := by decide +kernel
theorem own_d4_2 : decode prog_24_method_2_code 2 = .ok (.getfield 7, 3) := by decide +kernel
theorem own_d4_5 : decode prog_24_method_2_code 5 = .ok (.lcmp, 1) := by decide +kernel
theorem own_d4_6 : decode prog_24_method_2_code 6 = .ok (.ifCond .lt 16, 3) := by decide +kernel
theorem own_d4_9 : decode prog_24_method_2_code 9 = .ok (.lload_n 1, 1) := by decide +kernel
theorem own_d4_10 : decode prog_24_method_2_code 10 = .ok (.aload_n 0, 1) := by decide +kernel
theorem own_d4_11 : decode prog_24_method_2_code 11 = .ok (.getfield 13, 3) := by decide +kernel
theorem own_d4_14 : decode prog_24_method_2_code 14 = .ok (.lcmp, 1) := by decide +kernel
theorem own_d4_15 : decode prog_24_method_2_code 15 = .ok (.ifCond .gt 7, 3) := by decide +kernel
theorem own_d4_18 : decode prog_24_method_2_code 18 = .ok (.iconst 1, 1) := by decide +kernel
theorem own_d4_19 : decode prog_24_method_2_code 19 = .ok (.goto 4, 3) := by decide +kernel
theorem own_d4_22 : decode prog_24_method_2_code 22 = .ok (.iconst 0, 1) := by decide +kernel
theorem own_d4_23 : decode prog_24_method_2_code 23 = .ok (.ireturn, 1) := by decide +kernel
def own_f4_j23_S0 (q1 : Int64) (x0 : Int64) (y0 : Int64) : Int32 := (if (lcmpW q1 x0) < (0 : Int32) then (0 : Int32) else (if (0 : Int32) < (lcmpW q1 y0) then (0 : Int32) else (1 : Int32)))
def own_r4 (q1 : Int64) (x0 : Int64) (y0 : Int64) : Int32 := (nar .boolean (own_f4_j23_S0 q1 x0 y0))
theorem own_ef4 (m : MethodId) (a0 : Addr) (q1 : Int64) : entryFrame m #[(.ref a0), (.long q1)] 3 = (mkF m 0 #[.val (.ref a0), .val (.long q1), .second] []) := by first | (simp [entryFrame, mkF, argsToLocals, Value.category]; done) | rfl
set_option maxRecDepth 65536 in
set_option maxHeartbeats 40000000 in
theorem rm4 (l : Launch) (Z : State) (av0 : Array Value) (hw : ∀ d ∈ tables_1, d.before av0 Z = true) (ws : List Jvm.Cond) (a0 : Addr) (q1 : Int64) (x0 : Int64) (y0 : Int64) (h0 : Heap) (n0 : Nat) (Z0 : n0 ≤ h0.size) (F1 : Fld Z h0 a0 "com/example/kuva/kuva/metadata/Setting$Range" "min" "J" (.long x0)) (F2 : Fld Z h0 a0 "com/example/kuva/kuva/metadata/Setting$Range" "max" "J" (.long y0)) :
    MetFree l (⟨"com/example/kuva/kuva/metadata/Setting$Range", "contains", "(J)Z"⟩ : MethodName) (head1 (Jvm.Cond.code (⟨"com/example/kuva/kuva/metadata/Setting$Range", "contains", "(J)Z"⟩ : MethodName) prog_24_method_2_code 3 (some .boolean) :: ws) ({ frames := 0, cells := 0, slots := 0, locals := 0 } : Room)) (fun a U => a = #[(.ref a0), (.long q1)] ∧ Z.Warmed39 U.vm ∧ U.heap = h0) (fun _ _ _ _ _ => True) (fun _ U o U' => ∃ v L, o = .returned v ∧ own_Q n0 (fun h => h = h0) (some (.int (own_r4 q1 x0 y0))) v U'.heap L ∧ FrameEnd U o U' L ({ frames := 0, cells := 0, slots := 0, locals := 0 } : Room).cells ({ frames := 0, cells := 0, slots := 0, locals := 0 } : Room).slots) := by
  refine MetFree.of_bodySF (plainFor_of_name own_pn1) hisR ?_
  intro p e s m args below meth c s₁ Bd hml0 hP hK
  obtain ⟨rfl, hZ, hh⟩ := hP
  have hx := Bd.exec
  have hby := Bd.bytes
  have hml : c.maxLocals = 3 := hml0
  have hown : s.vm.findClass "com/example/kuva/kuva/metadata/Setting$Range" = some m.cls := findClass_of_methodNamed Bd.named
  have hnm := (name_of_methodNamed Bd.named Bd.method).1
  have hret := Bd.returns
  have hlk : meth.locks = false := BodyLoose.notSynchronized Bd
  have X0 : Stand p l e ({ frames := 0, cells := 0, slots := 0, locals := 0 } : Room) s m #[(.ref a0), (.long q1)] below meth c s₁ [] 0 0 := Stand.of_body Bd
  have e0 : s₁.heap = h0 := by rw [← hh, Bd.state]; rfl
  have N0 := Fr.nil n0
  clear Bd hh hK
  refine own_fin ?_
  refine own_entry (own_ef4 m a0 q1) ?_
  show own_Run p e below s₁ _ (own_Ret _ s below _ _ (own_Q n0 _ (some (.int (nar .boolean (own_f4_j23_S0 q1 x0 y0))))))
  show own_Run p e below s₁ (mkF m 0 #[.val (.ref a0), .val (.long q1), .second] []) _
  refine own_step (fun t k => XS.lloadN X0.here hx rfl (hb hby own_d4_0) rfl  k) ?_
  show own_Run p e below s₁ (mkF m 1 #[.val (.ref a0), .val (.long q1), .second] [(.long q1)]) _
  refine own_step (fun t k => XS.aloadN X0.here hx rfl (hb hby own_d4_1) rfl rfl k) ?_
  show own_Run p e below s₁ (mkF m 2 #[.val (.ref a0), .val (.long q1), .second] [(.ref a0), (.long q1)]) _
  obtain ⟨T6, X6, e6, st6⟩ := getF X0 hx hZ hown (host := "") (Or.inl (hw _ (List.mem_of_getElem? (i := 14) rfl))) Via.refl e0 F1 (g := (mkF m 2 #[.val (.ref a0), .val (.long q1), .second] [(.ref a0), (.long q1)])) rfl rfl (hb hby own_d4_2)
  refine own_step st6 ?_
  show own_Run p e below T6 (mkF m 5 #[.val (.ref a0), .val (.long q1), .second] [(.long x0), (.long q1)]) _
  refine own_step (fun t k => XS.lcmp X6.here hx rfl (hb hby own_d4_5) rfl k) ?_
  show own_Run p e below T6 (mkF m 6 #[.val (.ref a0), .val (.long q1), .second] [(.int (lcmpW q1 x0))]) _
  obtain ⟨_, st7, T7, L7, rfl, X7, e7, N7⟩ : own_Run p e below T6 (mkF m 6 #[.val (.ref a0), .val (.long q1), .second] [(.int (lcmpW q1 x0))]) (fun t => ∃ (T' : State) (L' : List Loc) , t = T'.setTop (mkF m 23 #[.val (.ref a0), .val (.long q1), .second] [(.int (own_f4_j23_S0 q1 x0 y0))]) ∧ Stand p l e ({ frames := 0, cells := 0, slots := 0, locals := 0 } : Room) s m #[(.ref a0), (.long q1)] below meth c T' L' 0 0 ∧ T'.heap = h0 ∧ Fr n0 L') := by
    by_cases hc8 : (lcmpW q1 x0) < (0 : Int32)
    · refine own_step (fun t k => XS.ifYes X6.here hx rfl (pc0 := 6) (pc' := 22) rfl (hb hby own_d4_6) rfl ((if0 _ _).trans (tlt hc8).1) (by decide) (by decide) k) ?_
      show own_Run p e below T6 (mkF m 22 #[.val (.ref a0), .val (.long q1), .second] []) _
      refine own_step (fun t k => XS.iconst X6.here hx rfl (hb hby own_d4_22) k) ?_
      show own_Run p e below T6 (mkF m 23 #[.val (.ref a0), .val (.long q1), .second] [(.int (0 : Int32))]) _
      have hj0 : (own_f4_j23_S0 q1 x0 y0) = (0 : Int32) := (if_pos hc8)
      exact own_here ⟨T6, _, (by rw [hj0]), X6, e6, N0⟩
    · refine own_step (fun t k => XS.ifNo X6.here hx rfl (hb hby own_d4_6) rfl ((if0 _ _).trans (flt hc8).1) k) ?_
      show own_Run p e below T6 (mkF m 9 #[.val (.ref a0), .val (.long q1), .second] []) _
      refine own_step (fun t k => XS.lloadN X6.here hx rfl (hb hby own_d4_9) rfl  k) ?_
      show own_Run p e below T6 (mkF m 10 #[.val (.ref a0), .val (.long q1), .second] [(.long q1)]) _
      refine own_step (fun t k => XS.aloadN X6.here hx rfl (hb hby own_d4_10) rfl rfl k) ?_
      show own_Run p e below T6 (mkF m 11 #[.val (.ref a0), .val (.long q1), .second] [(.ref a0), (.long q1)]) _
      obtain ⟨T9, X9, e9, st9⟩ := getF X6 hx hZ hown (host := "") (Or.inl (hw _ (List.mem_of_getElem? (i := 16) rfl))) Via.refl e6 F2 (g := (mkF m 11 #[.val (.ref a0), .val (.long q1), .second] [(.ref a0), (.long q1)])) rfl rfl (hb hby own_d4_11)
      refine own_step st9 ?_
      show own_Run p e below T9 (mkF m 14 #[.val (.ref a0), .val (.long q1), .second] [(.long y0), (.long q1)]) _
      refine own_step (fun t k => XS.lcmp X9.here hx rfl (hb hby own_d4_14) rfl k) ?_
      show own_Run p e below T9 (mkF m 15 #[.val (.ref a0), .val (.long q1), .second] [(.int (lcmpW q1 y0))]) _
      by_cases hc10 : (0 : Int32) < (lcmpW q1 y0)
      · refine own_step (fun t k => XS.ifYes X9.here hx rfl (pc0 := 15) (pc' := 22) rfl (hb hby own_d4_15) rfl ((if0 _ _).trans (tlt hc10).2.2.1) (by decide) (by decide) k) ?_
        show own_Run p e below T9 (mkF m 22 #[.val (.ref a0), .val (.long q1), .second] []) _
        refine own_step (fun t k => XS.iconst X9.here hx rfl (hb hby own_d4_22) k) ?_
        show own_Run p e below T9 (mkF m 23 #[.val (.ref a0), .val (.long q1), .second] [(.int (0 : Int32))]) _
        have hj0 : (own_f4_j23_S0 q1 x0 y0) = (0 : Int32) := ((if_neg hc8).trans (if_pos hc10))
        exact own_here ⟨T9, _, (by rw [hj0]), X9, e9, N0⟩
      · refine own_step (fun t k => XS.ifNo X9.here hx rfl (hb hby own_d4_15) rfl ((if0 _ _).trans (flt hc10).2.2.1) k) ?_
        show own_Run p e below T9 (mkF m 18 #[.val (.ref a0), .val (.long q1), .second] []) _
        refine own_step (fun t k => XS.iconst X9.here hx rfl (hb hby own_d4_18) k) ?_
        show own_Run p e below T9 (mkF m 19 #[.val (.ref a0), .val (.long q1), .second] [(.int (1 : Int32))]) _
        refine own_step (fun t k => XS.goto X9.here hx rfl (pc0 := 19) (pc' := 23) rfl (hb hby own_d4_19) (by decide) (by decide) k) ?_
        show own_Run p e below T9 (mkF m 23 #[.val (.ref a0), .val (.long q1), .second] [(.int (1 : Int32))]) _
        have hj0 : (own_f4_j23_S0 q1 x0 y0) = (1 : Int32) := ((if_neg hc8).trans (if_neg hc10))
        exact own_here ⟨T9, _, (by rw [hj0]), X9, e9, N0⟩
  refine own_tr st7 ?_
  show own_Run p e below T7 (mkF m 23 #[.val (.ref a0), .val (.long q1), .second] [(.int (own_f4_j23_S0 q1 x0 y0))]) _
  exact own_retZ X7 hx hlk hret (hb hby own_d4_23) (by decide) (by decide) N7 e7
theorem own_pd43 : parseMethodDescriptor "(JJ)J" = some ⟨[.long, .long], some .long⟩ := by decide +kernel
theorem own_pd44 : parseMethodDescriptor "(JJ)V" = some ⟨[.long, .long], none⟩ := by decide +kernel
theorem own_pd45 : parseMethodDescriptor "(J)Z" = some ⟨[.long], some .boolean⟩ := by decide +kernel
theorem own_pn2 : plainName "com/example/kuva/kuva/metadata/RangeContainsPinLaw" = true := by first | (simp [plainName, overriddenIn]; done) | decide +kernel
def own_f0_j13_S0 (p3 : Int32) : Int32 := (if (p3 &&& (8 : Int32)) = (0 : Int32) then (0 : Int32) else (1 : Int32))
def own_f0_j29_S0 (p3 : Int32) (q0 : Int64) (q1 : Int64) : Int64 := (if (own_f0_j13_S0 p3) = (0 : Int32) then q0 else (own_r6 q0 q1))
def own_f0_29 (p3 : Int32) (q0 : Int64) (q1 : Int64) : Int64 := (own_f0_j29_S0 p3 q0 q1)
def own_f0_j45_S0 (p3 : Int32) (q1 : Int64) (q0 : Int64) : Int64 := (if (own_f0_j13_S0 p3) = (0 : Int32) then q1 else (own_r5 q0 q1))
def own_f0_45 (p3 : Int32) (q1 : Int64) (q0 : Int64) : Int64 := (own_f0_j45_S0 p3 q1 q0)
def own_f0_54 (p3 : Int32) : Int32 := (own_rem (p3 &&& (7 : Int32)) (5 : Int32))
def own_f0_104 (p3 : Int32) (q0 : Int64) (q1 : Int64) : Int64 := ((own_f0_29 p3 q0 q1) - (1 : Int64))
def own_f0_113 (p3 : Int32) (q1 : Int64) (q0 : Int64) : Int64 := ((own_f0_45 p3 q1 q0) + (1 : Int64))
def own_f0_j115_L13 (p3 : Int32) (q2 : Int64) (q0 : Int64) (q1 : Int64) : Int64 := (if (own_f0_54 p3) = (0 : Int32) then q2 else (if (own_f0_54 p3) = (1 : Int32) then (own_f0_29 p3 q0 q1) else (if (own_f0_54 p3) = (2 : Int32) then (own_f0_45 p3 q1 q0) else (if (own_f0_54 p3) = (3 : Int32) then (own_f0_104 p3 q0 q1) else (own_f0_113 p3 q1 q0)))))
def own_f0_j159_S0 (p3 : Int32) (q0 : Int64) (q1 : Int64) (q2 : Int64) : Int32 := (if (0 : Int32) < (lcmpW (own_f0_29 p3 q0 q1) (own_f0_45 p3 q1 q0)) then (0 : Int32) else (if (lcmpW (own_r6 (own_r5 (own_f0_j115_L13 p3 q2 q0 q1) (own_f0_29 p3 q0 q1)) (own_f0_45 p3 q1 q0)) (own_f0_j115_L13 p3 q2 q0 q1)) = (0 : Int32) then (1 : Int32) else (0 : Int32)))
def own_f0_159 (p3 : Int32) (q0 : Int64) (q1 : Int64) (q2 : Int64) : Int32 := (own_f0_j159_S0 p3 q0 q1 q2)
def own_f0_j178_S0 (p3 : Int32) (q2 : Int64) (q0 : Int64) (q1 : Int64) : Int32 := (if (own_r4 (own_f0_j115_L13 p3 q2 q0 q1) (own_f0_29 p3 q0 q1) (own_f0_45 p3 q1 q0)) = (own_f0_159 p3 q0 q1 q2) then (1 : Int32) else (0 : Int32))
def own_r0 (q0 : Int64) (q1 : Int64) (q2 : Int64) (p3 : Int32) : Int32 := (nar .boolean (own_f0_j178_S0 p3 q2 q0 q1))
theorem own_ef0 (m : MethodId) (q0 : Int64) (q1 : Int64) (q2 : Int64) (p3 : Int32) : entryFrame m #[(.long q0), (.long q1), (.long q2), (.int p3)] maxLocals = (mkF m 0 #[.val (.long q0), .second, .val (.long q1), .second, .val (.long q2), .second, .val (.int p3), .unset, .unset, .unset, .unset, .unset, .unset, .unset, .unset, .unset, .unset] []) := by first | (simp [entryFrame, mkF, argsToLocals, Value.category, maxLocals]; done) | rfl
set_option maxRecDepth 65536 in
set_option maxHeartbeats 40000000 in
theorem rm0 (l : Launch) (Z : State) (av0 : Array Value) (hw : ∀ d ∈ tables_1, d.before av0 Z = true) (ws : List Jvm.Cond) (q0 : Int64) (q1 : Int64) (q2 : Int64) (p3 : Int32) (h0 : Heap) (n0 : Nat) (Z0 : n0 ≤ h0.size) :
    MetFree l x (head1 (Jvm.Cond.code x code maxLocals ret :: ws) room_1) (fun a U => a = #[(.long q0), (.long q1), (.long q2), (.int p3)] ∧ Z.Warmed39 U.vm ∧ U.heap = h0) (fun _ _ _ _ _ => True) (fun _ U o U' => ∃ v L, o = .returned v ∧ own_Q n0 (fun _ => True) (some (.int (own_r0 q0 q1 q2 p3))) v U'.heap L ∧ FrameEnd U o U' L room_1.cells room_1.slots) := by
  refine MetFree.of_bodySF (plainFor_of_name own_pn2) hisR ?_
  intro p e s m args below meth c s₁ Bd hml0 hP hK
  obtain ⟨rfl, hZ, hh⟩ := hP
  have hx := Bd.exec
  have hby := Bd.bytes
  have hml : c.maxLocals = 17 := hml0
  have hown : s.vm.findClass "com/example/kuva/kuva/metadata/RangeContainsPinLaw" = some m.cls := findClass_of_methodNamed Bd.named
  have hnm := (name_of_methodNamed Bd.named Bd.method).1
  have hret := Bd.returns
  have hlk : meth.locks = false := BodyLoose.notSynchronized Bd
  have X0 : Stand p l e room_1 s m #[(.long q0), (.long q1), (.long q2), (.int p3)] below meth c s₁ [] 0 0 := Stand.of_body Bd
  have e0 : s₁.heap = h0 := by rw [← hh, Bd.state]; rfl
  have N0 := Fr.nil n0
  clear Bd hh hK
  refine own_fin ?_
  refine own_entry (own_ef0 m q0 q1 q2 p3) ?_
  show own_Run p e below s₁ _ (own_Ret _ s below _ _ (own_Q n0 _ (some (.int (nar .boolean (own_f0_j178_S0 p3 q2 q0 q1))))))
  show own_Run p e below s₁ (mkF m 0 #[.val (.long q0), .second, .val (.long q1), .second, .val (.long q2), .second, .val (.int p3), .unset, .unset, .unset, .unset, .unset, .unset, .unset, .unset, .unset, .unset] []) _
  refine own_step (fun t k => XS.iload X0.here hx rfl (hb hby at_0) rfl  k) ?_
  show own_Run p e below s₁ (mkF m 2 #[.val (.long q0), .second, .val (.long q1), .second, .val (.long q2), .second, .val (.int p3), .unset, .unset, .unset, .unset, .unset, .unset, .unset, .unset, .unset, .unset] [(.int p3)]) _
  refine own_step (fun t k => XS.bipush X0.here hx rfl (hb hby at_2) k) ?_
  show own_Run p e below s₁ (mkF m 4 #[.val (.long q0), .second, .val (.long q1), .second, .val (.long q2), .second, .val (.int p3), .unset, .unset, .unset, .unset, .unset, .unset, .unset, .unset, .unset, .unset] [(.int (8 : Int32)), (.int p3)]) _
  refine own_step (fun t k => XS.iand X0.here hx rfl (hb hby at_4) rfl k) ?_
  show own_Run p e below s₁ (mkF m 5 #[.val (.long q0), .second, .val (.long q1), .second, .val (.long q2), .second, .val (.int p3), .unset, .unset, .unset, .unset, .unset, .unset, .unset, .unset, .unset, .unset] [(.int (p3 &&& (8 : Int32)))]) _
  obtain ⟨_, st26, rfl⟩ : own_Run p e below s₁ (mkF m 5 #[.val (.long q0), .second, .val (.long q1), .second, .val (.long q2), .second, .val (.int p3), .unset, .unset, .unset, .unset, .unset, .unset, .unset, .unset, .unset, .unset] [(.int (p3 &&& (8 : Int32)))]) (fun t => t = s₁.setTop (mkF m 13 #[.val (.long q0), .second, .val (.long q1), .second, .val (.long q2), .second, .val (.int p3), .unset, .unset, .unset, .unset, .unset, .unset, .unset, .unset, .unset, .unset] [(.int (own_f0_j13_S0 p3))])) := by
    by_cases hc27 : (p3 &&& (8 : Int32)) = (0 : Int32)
    · refine own_step (fun t k => XS.ifYes X0.here hx rfl (pc0 := 5) (pc' := 12) rfl (hb hby at_5) rfl ((if0 _ _).trans (teq hc27).1) (by decide) (by decide) k) ?_
      show own_Run p e below s₁ (mkF m 12 #[.val (.long q0), .second, .val (.long q1), .second, .val (.long q2), .second, .val (.int p3), .unset, .unset, .unset, .unset, .unset, .unset, .unset, .unset, .unset, .unset] []) _
      refine own_step (fun t k => XS.iconst X0.here hx rfl (hb hby at_12) k) ?_
      show own_Run p e below s₁ (mkF m 13 #[.val (.long q0), .second, .val (.long q1), .second, .val (.long q2), .second, .val (.int p3), .unset, .unset, .unset, .unset, .unset, .unset, .unset, .unset, .unset, .unset] [(.int (0 : Int32))]) _
      have hj0 : (own_f0_j13_S0 p3) = (0 : Int32) := (if_pos hc27)
      exact own_here (by rw [hj0])
    · refine own_step (fun t k => XS.ifNo X0.here hx rfl (hb hby at_5) rfl ((if0 _ _).trans (feq hc27).1) k) ?_
      show own_Run p e below s₁ (mkF m 8 #[.val (.long q0), .second, .val (.long q1), .second, .val (.long q2), .second, .val (.int p3), .unset, .unset, .unset, .unset, .unset, .unset, .unset, .unset, .unset, .unset] []) _
      refine own_step (fun t k => XS.iconst X0.here hx rfl (hb hby at_8) k) ?_
      show own_Run p e below s₁ (mkF m 9 #[.val (.long q0), .second, .val (.long q1), .second, .val (.long q2), .second, .val (.int p3), .unset, .unset, .unset, .unset, .unset, .unset, .unset, .unset, .unset, .unset] [(.int (1 : Int32))]) _
      refine own_step (fun t k => XS.goto X0.here hx rfl (pc0 := 9) (pc' := 13) rfl (hb hby at_9) (by decide) (by decide) k) ?_
      show own_Run p e below s₁ (mkF m 13 #[.val (.long q0), .second, .val (.long q1), .second, .val (.long q2), .second, .val (.int p3), .unset, .unset, .unset, .unset, .unset, .unset, .unset, .unset, .unset, .unset] [(.int (1 : Int32))]) _
      have hj0 : (own_f0_j13_S0 p3) = (1 : Int32) := (if_neg hc27)
      exact own_here (by rw [hj0])
  refine own_tr st26 ?_
  show own_Run p e below s₁ (mkF m 13 #[.val (.long q0), .second, .val (.long q1), .second, .val (.long q2), .second, .val (.int p3), .unset, .unset, .unset, .unset, .unset, .unset, .unset, .unset, .unset, .unset] [(.int (own_f0_j13_S0 p3))]) _
  refine own_step (fun t k => XS.istore X0.here hx rfl (hb hby at_13) rfl (l' := #[.val (.long q0), .second, .val (.long q1), .second, .val (.long q2), .second, .val (.int p3), .val (.int (own_f0_j13_S0 p3)), .unset, .unset, .unset, .unset, .unset, .unset, .unset, .unset, .unset]) rfl k) ?_
  show own_Run p e below s₁ (mkF m 15 #[.val (.long q0), .second, .val (.long q1), .second, .val (.long q2), .second, .val (.int p3), .val (.int (own_f0_j13_S0 p3)), .unset, .unset, .unset, .unset, .unset, .unset, .unset, .unset, .unset] []) _
  refine own_step (fun t k => XS.iload X0.here hx rfl (hb hby at_15) rfl  k) ?_
  show own_Run p e below s₁ (mkF m 17 #[.val (.long q0), .second, .val (.long q1), .second, .val (.long q2), .second, .val (.int p3), .val (.int (own_f0_j13_S0 p3)), .unset, .unset, .unset, .unset, .unset, .unset, .unset, .unset, .unset] [(.int (own_f0_j13_S0 p3))]) _
  obtain ⟨_, st28, T28, L28, rfl, X28, e28, N28⟩ : own_Run p e below s₁ (mkF m 17 #[.val (.long q0), .second, .val (.long q1), .second, .val (.long q2), .second, .val (.int p3), .val (.int (own_f0_j13_S0 p3)), .unset, .unset, .unset, .unset, .unset, .unset, .unset, .unset, .unset] [(.int (own_f0_j13_S0 p3))]) (fun t => ∃ (T' : State) (L' : List Loc) , t = T'.setTop (mkF m 29 #[.val (.long q0), .second, .val (.long q1), .second, .val (.long q2), .second, .val (.int p3), .val (.int (own_f0_j13_S0 p3)), .unset, .unset, .unset, .unset, .unset, .unset, .unset, .unset, .unset] [(.long (own_f0_j29_S0 p3 q0 q1))]) ∧ Stand p l e room_1 s m #[(.long q0), (.long q1), (.long q2), (.int p3)] below meth c T' L' 0 0 ∧ T'.heap = h0 ∧ Fr n0 L') := by
    by_cases hc29 : (own_f0_j13_S0 p3) = (0 : Int32)
    · refine own_step (fun t k => XS.ifYes X0.here hx rfl (pc0 := 17) (pc' := 28) rfl (hb hby at_17) rfl ((if0 _ _).trans (teq hc29).1) (by decide) (by decide) k) ?_
      show own_Run p e below s₁ (mkF m 28 #[.val (.long q0), .second, .val (.long q1), .second, .val (.long q2), .second, .val (.int p3), .val (.int (own_f0_j13_S0 p3)), .unset, .unset, .unset, .unset, .unset, .unset, .unset, .unset, .unset] []) _
      refine own_step (fun t k => XS.lloadN X0.here hx rfl (hb hby at_28) rfl  k) ?_
      show own_Run p e below s₁ (mkF m 29 #[.val (.long q0), .second, .val (.long q1), .second, .val (.long q2), .second, .val (.int p3), .val (.int (own_f0_j13_S0 p3)), .unset, .unset, .unset, .unset, .unset, .unset, .unset, .unset, .unset] [(.long q0)]) _
      have hj0 : (own_f0_j29_S0 p3 q0 q1) = q0 := (if_pos hc29)
      exact own_here ⟨s₁, _, (by rw [hj0]), X0, e0, N0⟩
    · refine own_step (fun t k => XS.ifNo X0.here hx rfl (hb hby at_17) rfl ((if0 _ _).trans (feq hc29).1) k) ?_
      show own_Run p e below s₁ (mkF m 20 #[.val (.long q0), .second, .val (.long q1), .second, .val (.long q2), .second, .val (.int p3), .val (.int (own_f0_j13_S0 p3)), .unset, .unset, .unset, .unset, .unset, .unset, .unset, .unset, .unset] []) _
      refine own_step (fun t k => XS.lloadN X0.here hx rfl (hb hby at_20) rfl  k) ?_
      show own_Run p e below s₁ (mkF m 21 #[.val (.long q0), .second, .val (.long q1), .second, .val (.long q2), .second, .val (.int p3), .val (.int (own_f0_j13_S0 p3)), .unset, .unset, .unset, .unset, .unset, .unset, .unset, .unset, .unset] [(.long q0)]) _
      refine own_step (fun t k => XS.lloadN X0.here hx rfl (hb hby at_21) rfl  k) ?_
      show own_Run p e below s₁ (mkF m 22 #[.val (.long q0), .second, .val (.long q1), .second, .val (.long q2), .second, .val (.int p3), .val (.int (own_f0_j13_S0 p3)), .unset, .unset, .unset, .unset, .unset, .unset, .unset, .unset, .unset] [(.long q1), (.long q0)]) _
      obtain ⟨_, _, ⟨T30, L30, kq30, nq30⟩, -, X30, ⟨Lc30, hQ30, lq30, yq30, zq30⟩, st30⟩ := Jvm.LawKit.callS X0 hx (y := (⟨"java/lang/Math", "min", "(JJ)J"⟩ : MethodName)) hown (mvT hZ (hw _ (List.mem_of_getElem? (i := 27) rfl))) (mvT hZ (hw _ (List.mem_of_getElem? (i := 28) rfl))) (mvT hZ (hw _ (List.mem_of_getElem? (i := 25) rfl))) (mvT hZ (hw _ (List.mem_of_getElem? (i := 29) rfl))) (by decide) (backOf (W := 0) (rm6 l Z av0 hw [] q0 q1 h0 n0 Z0 ) hZ (hw _ (List.mem_of_getElem? (i := 29) rfl)) (hw _ (List.mem_of_getElem? (i := 25) rfl)) (by decide) (by decide)) (g := (mkF m 22 #[.val (.long q0), .second, .val (.long q1), .second, .val (.long q2), .second, .val (.int p3), .val (.int (own_f0_j13_S0 p3)), .unset, .unset, .unset, .unset, .unset, .unset, .unset, .unset, .unset] [(.long q1), (.long q0)])) rfl (by rw [hml]; rfl) (argsL := [(.long q0), (.long q1)]) (rest := []) (lenOf own_pd43 rfl) rfl (by show 2 * 0 + _ ≤ _; exact Nat.le_of_eq rfl) (hb hby at_22) (fun _ _ => ⟨rfl, e0, (by decide : 0 + 0 ≤ _), (by decide : 0 + 0 ≤ _)⟩)
      dsimp only [Pt.U, Pt.locs, Pt.cells, Pt.slots] at X30 lq30 yq30 zq30 st30 hQ30
      subst lq30 yq30 zq30
      obtain ⟨rfl, N30q, e30⟩ := hQ30
      have N30 := Fr.app N0 N30q
      refine own_step st30 ?_
      show own_Run p e below T30 (mkF m 25 #[.val (.long q0), .second, .val (.long q1), .second, .val (.long q2), .second, .val (.int p3), .val (.int (own_f0_j13_S0 p3)), .unset, .unset, .unset, .unset, .unset, .unset, .unset, .unset, .unset] [(.long (own_r6 q0 q1))]) _
      refine own_step (fun t k => XS.goto X30.here hx rfl (pc0 := 25) (pc' := 29) rfl (hb hby at_25) (by decide) (by decide) k) ?_
      show own_Run p e below T30 (mkF m 29 #[.val (.long q0), .second, .val (.long q1), .second, .val (.long q2), .second, .val (.int p3), .val (.int (own_f0_j13_S0 p3)), .unset, .unset, .unset, .unset, .unset, .unset, .unset, .unset, .unset] [(.long (own_r6 q0 q1))]) _
      have hj0 : (own_f0_j29_S0 p3 q0 q1) = (own_r6 q0 q1) := (if_neg hc29)
      exact own_here ⟨T30, _, (by rw [hj0]), X30, e30, N30⟩
  refine own_tr st28 ?_
  show own_Run p e below T28 (mkF m 29 #[.val (.long q0), .second, .val (.long q1), .second, .val (.long q2), .second, .val (.int p3), .val (.int (own_f0_j13_S0 p3)), .unset, .unset, .unset, .unset, .unset, .unset, .unset, .unset, .unset] [(.long (own_f0_j29_S0 p3 q0 q1))]) _
  refine own_step (fun t k => XS.lstore X28.here hx rfl (hb hby at_29) rfl (l' := #[.val (.long q0), .second, .val (.long q1), .second, .val (.long q2), .second, .val (.int p3), .val (.int (own_f0_j13_S0 p3)), .val (.long (own_f0_29 p3 q0 q1)), .second, .unset, .unset, .unset, .unset, .unset, .unset, .unset]) rfl k) ?_
  show own_Run p e below T28 (mkF m 31 #[.val (.long q0), .second, .val (.long q1), .second, .val (.long q2), .second, .val (.int p3), .val (.int (own_f0_j13_S0 p3)), .val (.long (own_f0_29 p3 q0 q1)), .second, .unset, .unset, .unset, .unset, .unset, .unset, .unset] []) _
  refine own_step (fun t k => XS.iload X28.here hx rfl (hb hby at_31) rfl  k) ?_
  show own_Run p e below T28 (mkF m 33 #[.val (.long q0), .second, .val (.long q1), .second, .val (.long q2), .second, .val (.int p3), .val (.int (own_f0_j13_S0 p3)), .val (.long (own_f0_29 p3 q0 q1)), .second, .unset, .unset, .unset, .unset, .unset, .unset, .unset] [(.int (own_f0_j13_S0 p3))]) _
  obtain ⟨_, st31, T31, L31, rfl, X31, e31, N31⟩ : own_Run p e below T28 (mkF m 33 #[.val (.long q0), .second, .val (.long q1), .second, .val (.long q2), .second, .val (.int p3), .val (.int (own_f0_j13_S0 p3)), .val (.long (own_f0_29 p3 q0 q1)), .second, .unset, .unset, .unset, .unset, .unset, .unset, .unset] [(.int (own_f0_j13_S0 p3))]) (fun t => ∃ (T' : State) (L' : List Loc) , t = T'.setTop (mkF m 45 #[.val (.long q0), .second, .val (.long q1), .second, .val (.long q2), .second, .val (.int p3), .val (.int (own_f0_j13_S0 p3)), .val (.long (own_f0_29 p3 q0 q1)), .second, .unset, .unset, .unset, .unset, .unset, .unset, .unset] [(.long (own_f0_j45_S0 p3 q1 q0))]) ∧ Stand p l e room_1 s m #[(.long q0), (.long q1), (.long q2), (.int p3)] below meth c T' L' 0 0 ∧ T'.heap = h0 ∧ Fr n0 L') := by
    by_cases hc32 : (own_f0_j13_S0 p3) = (0 : Int32)
    · refine own_step (fun t k => XS.ifYes X28.here hx rfl (pc0 := 33) (pc' := 44) rfl (hb hby at_33) rfl ((if0 _ _).trans (teq hc32).1) (by decide) (by decide) k) ?_
      show own_Run p e below T28 (mkF m 44 #[.val (.long q0), .second, .val (.long q1), .second, .val (.long q2), .second, .val (.int p3), .val (.int (own_f0_j13_S0 p3)), .val (.long (own_f0_29 p3 q0 q1)), .second, .unset, .unset, .unset, .unset, .unset, .unset, .unset] []) _
      refine own_step (fun t k => XS.lloadN X28.here hx rfl (hb hby at_44) rfl  k) ?_
      show own_Run p e below T28 (mkF m 45 #[.val (.long q0), .second, .val (.long q1), .second, .val (.long q2), .second, .val (.int p3), .val (.int (own_f0_j13_S0 p3)), .val (.long (own_f0_29 p3 q0 q1)), .second, .unset, .unset, .unset, .unset, .unset, .unset, .unset] [(.long q1)]) _
      have hj0 : (own_f0_j45_S0 p3 q1 q0) = q1 := (if_pos hc32)
      exact own_here ⟨T28, _, (by rw [hj0]), X28, e28, N28⟩
    · refine own_step (fun t k => XS.ifNo X28.here hx rfl (hb hby at_33) rfl ((if0 _ _).trans (feq hc32).1) k) ?_
      show own_Run p e below T28 (mkF m 36 #[.val (.long q0), .second, .val (.long q1), .second, .val (.long q2), .second, .val (.int p3), .val (.int (own_f0_j13_S0 p3)), .val (.long (own_f0_29 p3 q0 q1)), .second, .unset, .unset, .unset, .unset, .unset, .unset, .unset] []) _
      refine own_step (fun t k => XS.lloadN X28.here hx rfl (hb hby at_36) rfl  k) ?_
      show own_Run p e below T28 (mkF m 37 #[.val (.long q0), .second, .val (.long q1), .second, .val (.long q2), .second, .val (.int p3), .val (.int (own_f0_j13_S0 p3)), .val (.long (own_f0_29 p3 q0 q1)), .second, .unset, .unset, .unset, .unset, .unset, .unset, .unset] [(.long q0)]) _
      refine own_step (fun t k => XS.lloadN X28.here hx rfl (hb hby at_37) rfl  k) ?_
      show own_Run p e below T28 (mkF m 38 #[.val (.long q0), .second, .val (.long q1), .second, .val (.long q2), .second, .val (.int p3), .val (.int (own_f0_j13_S0 p3)), .val (.long (own_f0_29 p3 q0 q1)), .second, .unset, .unset, .unset, .unset, .unset, .unset, .unset] [(.long q1), (.long q0)]) _
      obtain ⟨_, _, ⟨T33, L33, kq33, nq33⟩, -, X33, ⟨Lc33, hQ33, lq33, yq33, zq33⟩, st33⟩ := Jvm.LawKit.callS X28 hx (y := (⟨"java/lang/Math", "max", "(JJ)J"⟩ : MethodName)) hown (mvT hZ (hw _ (List.mem_of_getElem? (i := 23) rfl))) (mvT hZ (hw _ (List.mem_of_getElem? (i := 24) rfl))) (mvT hZ (hw _ (List.mem_of_getElem? (i := 25) rfl))) (mvT hZ (hw _ (List.mem_of_getElem? (i := 26) rfl))) (by decide) (backOf (W := 0) (rm5 l Z av0 hw [] q0 q1 h0 n0 Z0 ) hZ (hw _ (List.mem_of_getElem? (i := 26) rfl)) (hw _ (List.mem_of_getElem? (i := 25) rfl)) (by decide) (by decide)) (g := (mkF m 38 #[.val (.long q0), .second, .val (.long q1), .second, .val (.long q2), .second, .val (.int p3), .val (.int (own_f0_j13_S0 p3)), .val (.long (own_f0_29 p3 q0 q1)), .second, .unset, .unset, .unset, .unset, .unset, .unset, .unset] [(.long q1), (.long q0)])) rfl (by rw [hml]; rfl) (argsL := [(.long q0), (.long q1)]) (rest := []) (lenOf own_pd43 rfl) rfl (by show 2 * 0 + _ ≤ _; exact Nat.le_of_eq rfl) (hb hby at_38) (fun _ _ => ⟨rfl, e28, (by decide : 0 + 0 ≤ _), (by decide : 0 + 0 ≤ _)⟩)
      dsimp only [Pt.U, Pt.locs, Pt.cells, Pt.slots] at X33 lq33 yq33 zq33 st33 hQ33
      subst lq33 yq33 zq33
      obtain ⟨rfl, N33q, e33⟩ := hQ33
      have N33 := Fr.app N28 N33q
      refine own_step st33 ?_
      show own_Run p e below T33 (mkF m 41 #[.val (.long q0), .second, .val (.long q1), .second, .val (.long q2), .second, .val (.int p3), .val (.int (own_f0_j13_S0 p3)), .val (.long (own_f0_29 p3 q0 q1)), .second, .unset, .unset, .unset, .unset, .unset, .unset, .unset] [(.long (own_r5 q0 q1))]) _
      refine own_step (fun t k => XS.goto X33.here hx rfl (pc0 := 41) (pc' := 45) rfl (hb hby at_41) (by decide) (by decide) k) ?_
      show own_Run p e below T33 (mkF m 45 #[.val (.long q0), .second, .val (.long q1), .second, .val (.long q2), .second, .val (.int p3), .val (.int (own_f0_j13_S0 p3)), .val (.long (own_f0_29 p3 q0 q1)), .second, .unset, .unset, .unset, .unset, .unset, .unset, .unset] [(.long (own_r5 q0 q1))]) _
      have hj0 : (own_f0_j45_S0 p3 q1 q0) = (own_r5 q0 q1) := (if_neg hc32)
      exact own_here ⟨T33, _, (by rw [hj0]), X33, e33, N33⟩
  refine own_tr st31 ?_
  show own_Run p e below T31 (mkF m 45 #[.val (.long q0), .second, .val (.long q1), .second, .val (.long q2), .second, .val (.int p3), .val (.int (own_f0_j13_S0 p3)), .val (.long (own_f0_29 p3 q0 q1)), .second, .unset, .unset, .unset, .unset, .unset, .unset, .unset] [(.long (own_f0_j45_S0 p3 q1 q0))]) _
  refine own_step (fun t k => XS.lstore X31.here hx rfl (hb hby at_45) rfl (l' := #[.val (.long q0), .second, .val (.long q1), .second, .val (.long q2), .second, .val (.int p3), .val (.int (own_f0_j13_S0 p3)), .val (.long (own_f0_29 p3 q0 q1)), .second, .val (.long (own_f0_45 p3 q1 q0)), .second, .unset, .unset, .unset, .unset, .unset]) rfl k) ?_
  show own_Run p e below T31 (mkF m 47 #[.val (.long q0), .second, .val (.long q1), .second, .val (.long q2), .second, .val (.int p3), .val (.int (own_f0_j13_S0 p3)), .val (.long (own_f0_29 p3 q0 q1)), .second, .val (.long (own_f0_45 p3 q1 q0)), .second, .unset, .unset, .unset, .unset, .unset] []) _
  refine own_step (fun t k => XS.iload X31.here hx rfl (hb hby at_47) rfl  k) ?_
  show own_Run p e below T31 (mkF m 49 #[.val (.long q0), .second, .val (.long q1), .second, .val (.long q2), .second, .val (.int p3), .val (.int (own_f0_j13_S0 p3)), .val (.long (own_f0_29 p3 q0 q1)), .second, .val (.long (own_f0_45 p3 q1 q0)), .second, .unset, .unset, .unset, .unset, .unset] [(.int p3)]) _
  refine own_step (fun t k => XS.bipush X31.here hx rfl (hb hby at_49) k) ?_
  show own_Run p e below T31 (mkF m 51 #[.val (.long q0), .second, .val (.long q1), .second, .val (.long q2), .second, .val (.int p3), .val (.int (own_f0_j13_S0 p3)), .val (.long (own_f0_29 p3 q0 q1)), .second, .val (.long (own_f0_45 p3 q1 q0)), .second, .unset, .unset, .unset, .unset, .unset] [(.int (7 : Int32)), (.int p3)]) _
  refine own_step (fun t k => XS.iand X31.here hx rfl (hb hby at_51) rfl k) ?_
  show own_Run p e below T31 (mkF m 52 #[.val (.long q0), .second, .val (.long q1), .second, .val (.long q2), .second, .val (.int p3), .val (.int (own_f0_j13_S0 p3)), .val (.long (own_f0_29 p3 q0 q1)), .second, .val (.long (own_f0_45 p3 q1 q0)), .second, .unset, .unset, .unset, .unset, .unset] [(.int (p3 &&& (7 : Int32)))]) _
  refine own_step (fun t k => XS.iconst X31.here hx rfl (hb hby at_52) k) ?_
  show own_Run p e below T31 (mkF m 53 #[.val (.long q0), .second, .val (.long q1), .second, .val (.long q2), .second, .val (.int p3), .val (.int (own_f0_j13_S0 p3)), .val (.long (own_f0_29 p3 q0 q1)), .second, .val (.long (own_f0_45 p3 q1 q0)), .second, .unset, .unset, .unset, .unset, .unset] [(.int (5 : Int32)), (.int (p3 &&& (7 : Int32)))]) _
  refine own_step (fun t k => XS.irem X31.here hx rfl (hb hby at_53) rfl (by decide) k) ?_
  show own_Run p e below T31 (mkF m 54 #[.val (.long q0), .second, .val (.long q1), .second, .val (.long q2), .second, .val (.int p3), .val (.int (own_f0_j13_S0 p3)), .val (.long (own_f0_29 p3 q0 q1)), .second, .val (.long (own_f0_45 p3 q1 q0)), .second, .unset, .unset, .unset, .unset, .unset] [(.int (own_rem (p3 &&& (7 : Int32)) (5 : Int32)))]) _
  refine own_step (fun t k => XS.istore X31.here hx rfl (hb hby at_54) rfl (l' := #[.val (.long q0), .second, .val (.long q1), .second, .val (.long q2), .second, .val (.int p3), .val (.int (own_f0_j13_S0 p3)), .val (.long (own_f0_29 p3 q0 q1)), .second, .val (.long (own_f0_45 p3 q1 q0)), .second, .val (.int (own_f0_54 p3)), .unset, .unset, .unset, .unset]) rfl k) ?_
  show own_Run p e below T31 (mkF m 56 #[.val (.long q0), .second, .val (.long q1), .second, .val (.long q2), .second, .val (.int p3), .val (.int (own_f0_j13_S0 p3)), .val (.long (own_f0_29 p3 q0 q1)), .second, .val (.long (own_f0_45 p3 q1 q0)), .second, .val (.int (own_f0_54 p3)), .unset, .unset, .unset, .unset] []) _
  refine own_step (fun t k => XS.iload X31.here hx rfl (hb hby at_56) rfl  k) ?_
  show own_Run p e below T31 (mkF m 58 #[.val (.long q0), .second, .val (.long q1), .second, .val (.long q2), .second, .val (.int p3), .val (.int (own_f0_j13_S0 p3)), .val (.long (own_f0_29 p3 q0 q1)), .second, .val (.long (own_f0_45 p3 q1 q0)), .second, .val (.int (own_f0_54 p3)), .unset, .unset, .unset, .unset] [(.int (own_f0_54 p3))]) _
  obtain ⟨_, st34, rfl⟩ : own_Run p e below T31 (mkF m 58 #[.val (.long q0), .second, .val (.long q1), .second, .val (.long q2), .second, .val (.int p3), .val (.int (own_f0_j13_S0 p3)), .val (.long (own_f0_29 p3 q0 q1)), .second, .val (.long (own_f0_45 p3 q1 q0)), .second, .val (.int (own_f0_54 p3)), .unset, .unset, .unset, .unset] [(.int (own_f0_54 p3))]) (fun t => t = T31.setTop (mkF m 115 #[.val (.long q0), .second, .val (.long q1), .second, .val (.long q2), .second, .val (.int p3), .val (.int (own_f0_j13_S0 p3)), .val (.long (own_f0_29 p3 q0 q1)), .second, .val (.long (own_f0_45 p3 q1 q0)), .second, .val (.int (own_f0_54 p3)), .val (.long (own_f0_j115_L13 p3 q2 q0 q1)), .second, .unset, .unset] [])) := by
    by_cases hc35 : (own_f0_54 p3) = (0 : Int32)
    · refine own_step (fun t k => XS.ifNo X31.here hx rfl (hb hby at_58) rfl ((if0 _ _).trans (teq hc35).2) k) ?_
      show own_Run p e below T31 (mkF m 61 #[.val (.long q0), .second, .val (.long q1), .second, .val (.long q2), .second, .val (.int p3), .val (.int (own_f0_j13_S0 p3)), .val (.long (own_f0_29 p3 q0 q1)), .second, .val (.long (own_f0_45 p3 q1 q0)), .second, .val (.int (own_f0_54 p3)), .unset, .unset, .unset, .unset] []) _
      refine own_step (fun t k => XS.lload X31.here hx rfl (hb hby at_61) rfl  k) ?_
      show own_Run p e below T31 (mkF m 63 #[.val (.long q0), .second, .val (.long q1), .second, .val (.long q2), .second, .val (.int p3), .val (.int (own_f0_j13_S0 p3)), .val (.long (own_f0_29 p3 q0 q1)), .second, .val (.long (own_f0_45 p3 q1 q0)), .second, .val (.int (own_f0_54 p3)), .unset, .unset, .unset, .unset] [(.long q2)]) _
      refine own_step (fun t k => XS.lstore X31.here hx rfl (hb hby at_63) rfl (l' := #[.val (.long q0), .second, .val (.long q1), .second, .val (.long q2), .second, .val (.int p3), .val (.int (own_f0_j13_S0 p3)), .val (.long (own_f0_29 p3 q0 q1)), .second, .val (.long (own_f0_45 p3 q1 q0)), .second, .val (.int (own_f0_54 p3)), .val (.long q2), .second, .unset, .unset]) rfl k) ?_
      show own_Run p e below T31 (mkF m 65 #[.val (.long q0), .second, .val (.long q1), .second, .val (.long q2), .second, .val (.int p3), .val (.int (own_f0_j13_S0 p3)), .val (.long (own_f0_29 p3 q0 q1)), .second, .val (.long (own_f0_45 p3 q1 q0)), .second, .val (.int (own_f0_54 p3)), .val (.long q2), .second, .unset, .unset] []) _
      refine own_step (fun t k => XS.goto X31.here hx rfl (pc0 := 65) (pc' := 115) rfl (hb hby at_65) (by decide) (by decide) k) ?_
      show own_Run p e below T31 (mkF m 115 #[.val (.long q0), .second, .val (.long q1), .second, .val (.long q2), .second, .val (.int p3), .val (.int (own_f0_j13_S0 p3)), .val (.long (own_f0_29 p3 q0 q1)), .second, .val (.long (own_f0_45 p3 q1 q0)), .second, .val (.int (own_f0_54 p3)), .val (.long q2), .second, .unset, .unset] []) _
      have hj0 : (own_f0_j115_L13 p3 q2 q0 q1) = q2 := (if_pos hc35)
      exact own_here (by rw [hj0])
    · refine own_step (fun t k => XS.ifYes X31.here hx rfl (pc0 := 58) (pc' := 68) rfl (hb hby at_58) rfl ((if0 _ _).trans (feq hc35).2) (by decide) (by decide) k) ?_
      show own_Run p e below T31 (mkF m 68 #[.val (.long q0), .second, .val (.long q1), .second, .val (.long q2), .second, .val (.int p3), .val (.int (own_f0_j13_S0 p3)), .val (.long (own_f0_29 p3 q0 q1)), .second, .val (.long (own_f0_45 p3 q1 q0)), .second, .val (.int (own_f0_54 p3)), .unset, .unset, .unset, .unset] []) _
      refine own_step (fun t k => XS.iload X31.here hx rfl (hb hby at_68) rfl  k) ?_
      show own_Run p e below T31 (mkF m 70 #[.val (.long q0), .second, .val (.long q1), .second, .val (.long q2), .second, .val (.int p3), .val (.int (own_f0_j13_S0 p3)), .val (.long (own_f0_29 p3 q0 q1)), .second, .val (.long (own_f0_45 p3 q1 q0)), .second, .val (.int (own_f0_54 p3)), .unset, .unset, .unset, .unset] [(.int (own_f0_54 p3))]) _
      refine own_step (fun t k => XS.iconst X31.here hx rfl (hb hby at_70) k) ?_
      show own_Run p e below T31 (mkF m 71 #[.val (.long q0), .second, .val (.long q1), .second, .val (.long q2), .second, .val (.int p3), .val (.int (own_f0_j13_S0 p3)), .val (.long (own_f0_29 p3 q0 q1)), .second, .val (.long (own_f0_45 p3 q1 q0)), .second, .val (.int (own_f0_54 p3)), .unset, .unset, .unset, .unset] [(.int (1 : Int32)), (.int (own_f0_54 p3))]) _
      by_cases hc36 : (own_f0_54 p3) = (1 : Int32)
      · refine own_step (fun t k => XS.icmpNo X31.here hx rfl (hb hby at_71) rfl (teq hc36).2 k) ?_
        show own_Run p e below T31 (mkF m 74 #[.val (.long q0), .second, .val (.long q1), .second, .val (.long q2), .second, .val (.int p3), .val (.int (own_f0_j13_S0 p3)), .val (.long (own_f0_29 p3 q0 q1)), .second, .val (.long (own_f0_45 p3 q1 q0)), .second, .val (.int (own_f0_54 p3)), .unset, .unset, .unset, .unset] []) _
        refine own_step (fun t k => XS.lload X31.here hx rfl (hb hby at_74) rfl  k) ?_
        show own_Run p e below T31 (mkF m 76 #[.val (.long q0), .second, .val (.long q1), .second, .val (.long q2), .second, .val (.int p3), .val (.int (own_f0_j13_S0 p3)), .val (.long (own_f0_29 p3 q0 q1)), .second, .val (.long (own_f0_45 p3 q1 q0)), .second, .val (.int (own_f0_54 p3)), .unset, .unset, .unset, .unset] [(.long (own_f0_29 p3 q0 q1))]) _
        refine own_step (fun t k => XS.lstore X31.here hx rfl (hb hby at_76) rfl (l' := #[.val (.long q0), .second, .val (.long q1), .second, .val (.long q2), .second, .val (.int p3), .val (.int (own_f0_j13_S0 p3)), .val (.long (own_f0_29 p3 q0 q1)), .second, .val (.long (own_f0_45 p3 q1 q0)), .second, .val (.int (own_f0_54 p3)), .val (.long (own_f0_29 p3 q0 q1)), .second, .unset, .unset]) rfl k) ?_
        show own_Run p e below T31 (mkF m 78 #[.val (.long q0), .second, .val (.long q1), .second, .val (.long q2), .second, .val (.int p3), .val (.int (own_f0_j13_S0 p3)), .val (.long (own_f0_29 p3 q0 q1)), .second, .val (.long (own_f0_45 p3 q1 q0)), .second, .val (.int (own_f0_54 p3)), .val (.long (own_f0_29 p3 q0 q1)), .second, .unset, .unset] []) _
        refine own_step (fun t k => XS.goto X31.here hx rfl (pc0 := 78) (pc' := 115) rfl (hb hby at_78) (by decide) (by decide) k) ?_
        show own_Run p e below T31 (mkF m 115 #[.val (.long q0), .second, .val (.long q1), .second, .val (.long q2), .second, .val (.int p3), .val (.int (own_f0_j13_S0 p3)), .val (.long (own_f0_29 p3 q0 q1)), .second, .val (.long (own_f0_45 p3 q1 q0)), .second, .val (.int (own_f0_54 p3)), .val (.long (own_f0_29 p3 q0 q1)), .second, .unset, .unset] []) _
        have hj0 : (own_f0_j115_L13 p3 q2 q0 q1) = (own_f0_29 p3 q0 q1) := ((if_neg hc35).trans (if_pos hc36))
        exact own_here (by rw [hj0])
      · refine own_step (fun t k => XS.icmpYes X31.here hx rfl (pc0 := 71) (pc' := 81) rfl (hb hby at_71) rfl (feq hc36).2 (by decide) (by decide) k) ?_
        show own_Run p e below T31 (mkF m 81 #[.val (.long q0), .second, .val (.long q1), .second, .val (.long q2), .second, .val (.int p3), .val (.int (own_f0_j13_S0 p3)), .val (.long (own_f0_29 p3 q0 q1)), .second, .val (.long (own_f0_45 p3 q1 q0)), .second, .val (.int (own_f0_54 p3)), .unset, .unset, .unset, .unset] []) _
        refine own_step (fun t k => XS.iload X31.here hx rfl (hb hby at_81) rfl  k) ?_
        show own_Run p e below T31 (mkF m 83 #[.val (.long q0), .second, .val (.long q1), .second, .val (.long q2), .second, .val (.int p3), .val (.int (own_f0_j13_S0 p3)), .val (.long (own_f0_29 p3 q0 q1)), .second, .val (.long (own_f0_45 p3 q1 q0)), .second, .val (.int (own_f0_54 p3)), .unset, .unset, .unset, .unset] [(.int (own_f0_54 p3))]) _
        refine own_step (fun t k => XS.iconst X31.here hx rfl (hb hby at_83) k) ?_
        show own_Run p e below T31 (mkF m 84 #[.val (.long q0), .second, .val (.long q1), .second, .val (.long q2), .second, .val (.int p3), .val (.int (own_f0_j13_S0 p3)), .val (.long (own_f0_29 p3 q0 q1)), .second, .val (.long (own_f0_45 p3 q1 q0)), .second, .val (.int (own_f0_54 p3)), .unset, .unset, .unset, .unset] [(.int (2 : Int32)), (.int (own_f0_54 p3))]) _
        by_cases hc37 : (own_f0_54 p3) = (2 : Int32)
        · refine own_step (fun t k => XS.icmpNo X31.here hx rfl (hb hby at_84) rfl (teq hc37).2 k) ?_
          show own_Run p e below T31 (mkF m 87 #[.val (.long q0), .second, .val (.long q1), .second, .val (.long q2), .second, .val (.int p3), .val (.int (own_f0_j13_S0 p3)), .val (.long (own_f0_29 p3 q0 q1)), .second, .val (.long (own_f0_45 p3 q1 q0)), .second, .val (.int (own_f0_54 p3)), .unset, .unset, .unset, .unset] []) _
          refine own_step (fun t k => XS.lload X31.here hx rfl (hb hby at_87) rfl  k) ?_
          show own_Run p e below T31 (mkF m 89 #[.val (.long q0), .second, .val (.long q1), .second, .val (.long q2), .second, .val (.int p3), .val (.int (own_f0_j13_S0 p3)), .val (.long (own_f0_29 p3 q0 q1)), .second, .val (.long (own_f0_45 p3 q1 q0)), .second, .val (.int (own_f0_54 p3)), .unset, .unset, .unset, .unset] [(.long (own_f0_45 p3 q1 q0))]) _
          refine own_step (fun t k => XS.lstore X31.here hx rfl (hb hby at_89) rfl (l' := #[.val (.long q0), .second, .val (.long q1), .second, .val (.long q2), .second, .val (.int p3), .val (.int (own_f0_j13_S0 p3)), .val (.long (own_f0_29 p3 q0 q1)), .second, .val (.long (own_f0_45 p3 q1 q0)), .second, .val (.int (own_f0_54 p3)), .val (.long (own_f0_45 p3 q1 q0)), .second, .unset, .unset]) rfl k) ?_
          show own_Run p e below T31 (mkF m 91 #[.val (.long q0), .second, .val (.long q1), .second, .val (.long q2), .second, .val (.int p3), .val (.int (own_f0_j13_S0 p3)), .val (.long (own_f0_29 p3 q0 q1)), .second, .val (.long (own_f0_45 p3 q1 q0)), .second, .val (.int (own_f0_54 p3)), .val (.long (own_f0_45 p3 q1 q0)), .second, .unset, .unset] []) _
          refine own_step (fun t k => XS.goto X31.here hx rfl (pc0 := 91) (pc' := 115) rfl (hb hby at_91) (by decide) (by decide) k) ?_
          show own_Run p e below T31 (mkF m 115 #[.val (.long q0), .second, .val (.long q1), .second, .val (.long q2), .second, .val (.int p3), .val (.int (own_f0_j13_S0 p3)), .val (.long (own_f0_29 p3 q0 q1)), .second, .val (.long (own_f0_45 p3 q1 q0)), .second, .val (.int (own_f0_54 p3)), .val (.long (own_f0_45 p3 q1 q0)), .second, .unset, .unset] []) _
          have hj0 : (own_f0_j115_L13 p3 q2 q0 q1) = (own_f0_45 p3 q1 q0) := ((if_neg hc35).trans ((if_neg hc36).trans (if_pos hc37)))
          exact own_here (by rw [hj0])
        · refine own_step (fun t k => XS.icmpYes X31.here hx rfl (pc0 := 84) (pc' := 94) rfl (hb hby at_84) rfl (feq hc37).2 (by decide) (by decide) k) ?_
          show own_Run p e below T31 (mkF m 94 #[.val (.long q0), .second, .val (.long q1), .second, .val (.long q2), .second, .val (.int p3), .val (.int (own_f0_j13_S0 p3)), .val (.long (own_f0_29 p3 q0 q1)), .second, .val (.long (own_f0_45 p3 q1 q0)), .second, .val (.int (own_f0_54 p3)), .unset, .unset, .unset, .unset] []) _
          refine own_step (fun t k => XS.iload X31.here hx rfl (hb hby at_94) rfl  k) ?_
          show own_Run p e below T31 (mkF m 96 #[.val (.long q0), .second, .val (.long q1), .second, .val (.long q2), .second, .val (.int p3), .val (.int (own_f0_j13_S0 p3)), .val (.long (own_f0_29 p3 q0 q1)), .second, .val (.long (own_f0_45 p3 q1 q0)), .second, .val (.int (own_f0_54 p3)), .unset, .unset, .unset, .unset] [(.int (own_f0_54 p3))]) _
          refine own_step (fun t k => XS.iconst X31.here hx rfl (hb hby at_96) k) ?_
          show own_Run p e below T31 (mkF m 97 #[.val (.long q0), .second, .val (.long q1), .second, .val (.long q2), .second, .val (.int p3), .val (.int (own_f0_j13_S0 p3)), .val (.long (own_f0_29 p3 q0 q1)), .second, .val (.long (own_f0_45 p3 q1 q0)), .second, .val (.int (own_f0_54 p3)), .unset, .unset, .unset, .unset] [(.int (3 : Int32)), (.int (own_f0_54 p3))]) _
          by_cases hc38 : (own_f0_54 p3) = (3 : Int32)
          · refine own_step (fun t k => XS.icmpNo X31.here hx rfl (hb hby at_97) rfl (teq hc38).2 k) ?_
            show own_Run p e below T31 (mkF m 100 #[.val (.long q0), .second, .val (.long q1), .second, .val (.long q2), .second, .val (.int p3), .val (.int (own_f0_j13_S0 p3)), .val (.long (own_f0_29 p3 q0 q1)), .second, .val (.long (own_f0_45 p3 q1 q0)), .second, .val (.int (own_f0_54 p3)), .unset, .unset, .unset, .unset] []) _
            refine own_step (fun t k => XS.lload X31.here hx rfl (hb hby at_100) rfl  k) ?_
            show own_Run p e below T31 (mkF m 102 #[.val (.long q0), .second, .val (.long q1), .second, .val (.long q2), .second, .val (.int p3), .val (.int (own_f0_j13_S0 p3)), .val (.long (own_f0_29 p3 q0 q1)), .second, .val (.long (own_f0_45 p3 q1 q0)), .second, .val (.int (own_f0_54 p3)), .unset, .unset, .unset, .unset] [(.long (own_f0_29 p3 q0 q1))]) _
            refine own_step (fun t k => XS.lconst X31.here hx rfl (hb hby at_102) k) ?_
            show own_Run p e below T31 (mkF m 103 #[.val (.long q0), .second, .val (.long q1), .second, .val (.long q2), .second, .val (.int p3), .val (.int (own_f0_j13_S0 p3)), .val (.long (own_f0_29 p3 q0 q1)), .second, .val (.long (own_f0_45 p3 q1 q0)), .second, .val (.int (own_f0_54 p3)), .unset, .unset, .unset, .unset] [(.long (1 : Int64)), (.long (own_f0_29 p3 q0 q1))]) _
            refine own_step (fun t k => XS.lsub X31.here hx rfl (hb hby at_103) rfl k) ?_
            show own_Run p e below T31 (mkF m 104 #[.val (.long q0), .second, .val (.long q1), .second, .val (.long q2), .second, .val (.int p3), .val (.int (own_f0_j13_S0 p3)), .val (.long (own_f0_29 p3 q0 q1)), .second, .val (.long (own_f0_45 p3 q1 q0)), .second, .val (.int (own_f0_54 p3)), .unset, .unset, .unset, .unset] [(.long ((own_f0_29 p3 q0 q1) - (1 : Int64)))]) _
            refine own_step (fun t k => XS.lstore X31.here hx rfl (hb hby at_104) rfl (l' := #[.val (.long q0), .second, .val (.long q1), .second, .val (.long q2), .second, .val (.int p3), .val (.int (own_f0_j13_S0 p3)), .val (.long (own_f0_29 p3 q0 q1)), .second, .val (.long (own_f0_45 p3 q1 q0)), .second, .val (.int (own_f0_54 p3)), .val (.long (own_f0_104 p3 q0 q1)), .second, .unset, .unset]) rfl k) ?_
            show own_Run p e below T31 (mkF m 106 #[.val (.long q0), .second, .val (.long q1), .second, .val (.long q2), .second, .val (.int p3), .val (.int (own_f0_j13_S0 p3)), .val (.long (own_f0_29 p3 q0 q1)), .second, .val (.long (own_f0_45 p3 q1 q0)), .second, .val (.int (own_f0_54 p3)), .val (.long (own_f0_104 p3 q0 q1)), .second, .unset, .unset] []) _
            refine own_step (fun t k => XS.goto X31.here hx rfl (pc0 := 106) (pc' := 115) rfl (hb hby at_106) (by decide) (by decide) k) ?_
            show own_Run p e below T31 (mkF m 115 #[.val (.long q0), .second, .val (.long q1), .second, .val (.long q2), .second, .val (.int p3), .val (.int (own_f0_j13_S0 p3)), .val (.long (own_f0_29 p3 q0 q1)), .second, .val (.long (own_f0_45 p3 q1 q0)), .second, .val (.int (own_f0_54 p3)), .val (.long (own_f0_104 p3 q0 q1)), .second, .unset, .unset] []) _
            have hj0 : (own_f0_j115_L13 p3 q2 q0 q1) = (own_f0_104 p3 q0 q1) := ((if_neg hc35).trans ((if_neg hc36).trans ((if_neg hc37).trans (if_pos hc38))))
            exact own_here (by rw [hj0])
          · refine own_step (fun t k => XS.icmpYes X31.here hx rfl (pc0 := 97) (pc' := 109) rfl (hb hby at_97) rfl (feq hc38).2 (by decide) (by decide) k) ?_
            show own_Run p e below T31 (mkF m 109 #[.val (.long q0), .second, .val (.long q1), .second, .val (.long q2), .second, .val (.int p3), .val (.int (own_f0_j13_S0 p3)), .val (.long (own_f0_29 p3 q0 q1)), .second, .val (.long (own_f0_45 p3 q1 q0)), .second, .val (.int (own_f0_54 p3)), .unset, .unset, .unset, .unset] []) _
            refine own_step (fun t k => XS.lload X31.here hx rfl (hb hby at_109) rfl  k) ?_
            show own_Run p e below T31 (mkF m 111 #[.val (.long q0), .second, .val (.long q1), .second, .val (.long q2), .second, .val (.int p3), .val (.int (own_f0_j13_S0 p3)), .val (.long (own_f0_29 p3 q0 q1)), .second, .val (.long (own_f0_45 p3 q1 q0)), .second, .val (.int (own_f0_54 p3)), .unset, .unset, .unset, .unset] [(.long (own_f0_45 p3 q1 q0))]) _
            refine own_step (fun t k => XS.lconst X31.here hx rfl (hb hby at_111) k) ?_
            show own_Run p e below T31 (mkF m 112 #[.val (.long q0), .second, .val (.long q1), .second, .val (.long q2), .second, .val (.int p3), .val (.int (own_f0_j13_S0 p3)), .val (.long (own_f0_29 p3 q0 q1)), .second, .val (.long (own_f0_45 p3 q1 q0)), .second, .val (.int (own_f0_54 p3)), .unset, .unset, .unset, .unset] [(.long (1 : Int64)), (.long (own_f0_45 p3 q1 q0))]) _
            refine own_step (fun t k => XS.ladd X31.here hx rfl (hb hby at_112) rfl k) ?_
            show own_Run p e below T31 (mkF m 113 #[.val (.long q0), .second, .val (.long q1), .second, .val (.long q2), .second, .val (.int p3), .val (.int (own_f0_j13_S0 p3)), .val (.long (own_f0_29 p3 q0 q1)), .second, .val (.long (own_f0_45 p3 q1 q0)), .second, .val (.int (own_f0_54 p3)), .unset, .unset, .unset, .unset] [(.long ((own_f0_45 p3 q1 q0) + (1 : Int64)))]) _
            refine own_step (fun t k => XS.lstore X31.here hx rfl (hb hby at_113) rfl (l' := #[.val (.long q0), .second, .val (.long q1), .second, .val (.long q2), .second, .val (.int p3), .val (.int (own_f0_j13_S0 p3)), .val (.long (own_f0_29 p3 q0 q1)), .second, .val (.long (own_f0_45 p3 q1 q0)), .second, .val (.int (own_f0_54 p3)), .val (.long (own_f0_113 p3 q1 q0)), .second, .unset, .unset]) rfl k) ?_
            show own_Run p e below T31 (mkF m 115 #[.val (.long q0), .second, .val (.long q1), .second, .val (.long q2), .second, .val (.int p3), .val (.int (own_f0_j13_S0 p3)), .val (.long (own_f0_29 p3 q0 q1)), .second, .val (.long (own_f0_45 p3 q1 q0)), .second, .val (.int (own_f0_54 p3)), .val (.long (own_f0_113 p3 q1 q0)), .second, .unset, .unset] []) _
            have hj0 : (own_f0_j115_L13 p3 q2 q0 q1) = (own_f0_113 p3 q1 q0) := ((if_neg hc35).trans ((if_neg hc36).trans ((if_neg hc37).trans (if_neg hc38))))
            exact own_here (by rw [hj0])
  refine own_tr st34 ?_
  show own_Run p e below T31 (mkF m 115 #[.val (.long q0), .second, .val (.long q1), .second, .val (.long q2), .second, .val (.int p3), .val (.int (own_f0_j13_S0 p3)), .val (.long (own_f0_29 p3 q0 q1)), .second, .val (.long (own_f0_45 p3 q1 q0)), .second, .val (.int (own_f0_54 p3)), .val (.long (own_f0_j115_L13 p3 q2 q0 q1)), .second, .unset, .unset] []) _
  obtain ⟨T39, h39, X39, e39, E39, A39, D39, -, st39⟩ := newO X31 hx hZ hown (hw _ (List.mem_of_getElem? (i := 0) rfl)) (hw _ (List.mem_of_getElem? (i := 1) rfl)) (hw _ (List.mem_of_getElem? (i := 2) rfl)) e31 (g := (mkF m 115 #[.val (.long q0), .second, .val (.long q1), .second, .val (.long q2), .second, .val (.int p3), .val (.int (own_f0_j13_S0 p3)), .val (.long (own_f0_29 p3 q0 q1)), .second, .val (.long (own_f0_45 p3 q1 q0)), .second, .val (.int (own_f0_54 p3)), .val (.long (own_f0_j115_L13 p3 q2 q0 q1)), .second, .unset, .unset] [])) rfl (hb hby at_115) (by decide) (by decide)
  obtain ⟨b39, g39⟩ : ∃ z, z = h0.size := ⟨_, rfl⟩
  rw [← g39] at A39 D39 st39
  have geb39 : n0 ≤ b39 := Nat.le_trans Z0 (Nat.le_of_eq g39.symm)
  have Zn39 : n0 ≤ h39.size := Nat.le_trans Z0 E39.1
  have Fn40 : Fld Z h39 b39 "com/example/kuva/kuva/metadata/Setting$Range" "min" "J" (.long (0 : Int64)) := D39 (Or.inr (hw _ (List.mem_of_getElem? (i := 15) rfl))) (ty := .long) (by decide)
  have Fn41 : Fld Z h39 b39 "com/example/kuva/kuva/metadata/Setting$Range" "max" "J" (.long (0 : Int64)) := D39 (Or.inr (hw _ (List.mem_of_getElem? (i := 17) rfl))) (ty := .long) (by decide)
  refine own_step st39 ?_
  show own_Run p e below T39 (mkF m 118 #[.val (.long q0), .second, .val (.long q1), .second, .val (.long q2), .second, .val (.int p3), .val (.int (own_f0_j13_S0 p3)), .val (.long (own_f0_29 p3 q0 q1)), .second, .val (.long (own_f0_45 p3 q1 q0)), .second, .val (.int (own_f0_54 p3)), .val (.long (own_f0_j115_L13 p3 q2 q0 q1)), .second, .unset, .unset] [(.ref b39)]) _
  refine own_step (fun t k => XS.dup X39.here hx rfl (hb hby at_118) rfl rfl k) ?_
  show own_Run p e below T39 (mkF m 119 #[.val (.long q0), .second, .val (.long q1), .second, .val (.long q2), .second, .val (.int p3), .val (.int (own_f0_j13_S0 p3)), .val (.long (own_f0_29 p3 q0 q1)), .second, .val (.long (own_f0_45 p3 q1 q0)), .second, .val (.int (own_f0_54 p3)), .val (.long (own_f0_j115_L13 p3 q2 q0 q1)), .second, .unset, .unset] [(.ref b39), (.ref b39)]) _
  refine own_step (fun t k => XS.lload X39.here hx rfl (hb hby at_119) rfl  k) ?_
  show own_Run p e below T39 (mkF m 121 #[.val (.long q0), .second, .val (.long q1), .second, .val (.long q2), .second, .val (.int p3), .val (.int (own_f0_j13_S0 p3)), .val (.long (own_f0_29 p3 q0 q1)), .second, .val (.long (own_f0_45 p3 q1 q0)), .second, .val (.int (own_f0_54 p3)), .val (.long (own_f0_j115_L13 p3 q2 q0 q1)), .second, .unset, .unset] [(.long (own_f0_29 p3 q0 q1)), (.ref b39), (.ref b39)]) _
  refine own_step (fun t k => XS.lload X39.here hx rfl (hb hby at_121) rfl  k) ?_
  show own_Run p e below T39 (mkF m 123 #[.val (.long q0), .second, .val (.long q1), .second, .val (.long q2), .second, .val (.int p3), .val (.int (own_f0_j13_S0 p3)), .val (.long (own_f0_29 p3 q0 q1)), .second, .val (.long (own_f0_45 p3 q1 q0)), .second, .val (.int (own_f0_54 p3)), .val (.long (own_f0_j115_L13 p3 q2 q0 q1)), .second, .unset, .unset] [(.long (own_f0_45 p3 q1 q0)), (.long (own_f0_29 p3 q0 q1)), (.ref b39), (.ref b39)]) _
  obtain ⟨_, _, ⟨T42, L42, kq42, nq42⟩, -, X42, ⟨Lc42, hQ42, lq42, yq42, zq42⟩, st42⟩ := X39.specialBack hx (y := (⟨"com/example/kuva/kuva/metadata/Setting$Range", "<init>", "(JJ)V"⟩ : MethodName)) rfl hown (mvT hZ (hw _ (List.mem_of_getElem? (i := 3) rfl))) (mvT hZ (hw _ (List.mem_of_getElem? (i := 4) rfl))) (mvT hZ (hw _ (List.mem_of_getElem? (i := 5) rfl))) (by decide) (backOf (W := 1) (rm1 l Z av0 hw [] b39 (own_f0_29 p3 q0 q1) (own_f0_45 p3 q1 q0) h39 n0 Zn39 geb39 Fn40 Fn41 A39) hZ (hw _ (List.mem_of_getElem? (i := 5) rfl)) (hw _ (List.mem_of_getElem? (i := 2) rfl)) (by decide) (by decide)) (g := (mkF m 123 #[.val (.long q0), .second, .val (.long q1), .second, .val (.long q2), .second, .val (.int p3), .val (.int (own_f0_j13_S0 p3)), .val (.long (own_f0_29 p3 q0 q1)), .second, .val (.long (own_f0_45 p3 q1 q0)), .second, .val (.int (own_f0_54 p3)), .val (.long (own_f0_j115_L13 p3 q2 q0 q1)), .second, .unset, .unset] [(.long (own_f0_45 p3 q1 q0)), (.long (own_f0_29 p3 q0 q1)), (.ref b39), (.ref b39)])) rfl (by rw [hml]; rfl) (Steps.refl _) (a := b39) (argsL := [(.long (own_f0_29 p3 q0 q1)), (.long (own_f0_45 p3 q1 q0))]) (rest := [(.ref b39)]) (lenOf own_pd44 rfl) rfl (by show 2 * 0 + _ ≤ _; exact Nat.le_of_eq rfl) (hb hby at_123) (fun _ _ => ⟨rfl, e39, (by decide : 1 + 0 ≤ _), (by decide : 2 + 0 ≤ _)⟩)
  dsimp only [Pt.U, Pt.locs, Pt.cells, Pt.slots] at X42 lq42 yq42 zq42 st42 hQ42
  subst lq42 yq42 zq42
  obtain ⟨rfl, N42q, K42, P42_0, P42_1, P42_2⟩ := hQ42
  have N42 := Fr.app N31 N42q
  have Zn42 : n0 ≤ T42.heap.size := Nat.le_trans Zn39 K42.1
  have P42_0x : Exa Z T42.heap b39 "com/example/kuva/kuva/metadata/Setting$Range" := P42_0
  have P42_1x : Fld Z T42.heap b39 "com/example/kuva/kuva/metadata/Setting$Range" "min" "J" (.long (own_f0_29 p3 q0 q1)) := P42_1
  have P42_2x : Fld Z T42.heap b39 "com/example/kuva/kuva/metadata/Setting$Range" "max" "J" (.long (own_f0_45 p3 q1 q0)) := P42_2
  refine own_tr st42 ?_
  show own_Run p e below T42 (mkF m 126 #[.val (.long q0), .second, .val (.long q1), .second, .val (.long q2), .second, .val (.int p3), .val (.int (own_f0_j13_S0 p3)), .val (.long (own_f0_29 p3 q0 q1)), .second, .val (.long (own_f0_45 p3 q1 q0)), .second, .val (.int (own_f0_54 p3)), .val (.long (own_f0_j115_L13 p3 q2 q0 q1)), .second, .unset, .unset] [(.ref b39)]) _
  refine own_step (fun t k => XS.astore X42.here hx rfl (hb hby at_126) rfl rfl (l' := #[.val (.long q0), .second, .val (.long q1), .second, .val (.long q2), .second, .val (.int p3), .val (.int (own_f0_j13_S0 p3)), .val (.long (own_f0_29 p3 q0 q1)), .second, .val (.long (own_f0_45 p3 q1 q0)), .second, .val (.int (own_f0_54 p3)), .val (.long (own_f0_j115_L13 p3 q2 q0 q1)), .second, .val (.ref b39), .unset]) rfl k) ?_
  show own_Run p e below T42 (mkF m 128 #[.val (.long q0), .second, .val (.long q1), .second, .val (.long q2), .second, .val (.int p3), .val (.int (own_f0_j13_S0 p3)), .val (.long (own_f0_29 p3 q0 q1)), .second, .val (.long (own_f0_45 p3 q1 q0)), .second, .val (.int (own_f0_54 p3)), .val (.long (own_f0_j115_L13 p3 q2 q0 q1)), .second, .val (.ref b39), .unset] []) _
  refine own_step (fun t k => XS.lload X42.here hx rfl (hb hby at_128) rfl  k) ?_
  show own_Run p e below T42 (mkF m 130 #[.val (.long q0), .second, .val (.long q1), .second, .val (.long q2), .second, .val (.int p3), .val (.int (own_f0_j13_S0 p3)), .val (.long (own_f0_29 p3 q0 q1)), .second, .val (.long (own_f0_45 p3 q1 q0)), .second, .val (.int (own_f0_54 p3)), .val (.long (own_f0_j115_L13 p3 q2 q0 q1)), .second, .val (.ref b39), .unset] [(.long (own_f0_29 p3 q0 q1))]) _
  refine own_step (fun t k => XS.lload X42.here hx rfl (hb hby at_130) rfl  k) ?_
  show own_Run p e below T42 (mkF m 132 #[.val (.long q0), .second, .val (.long q1), .second, .val (.long q2), .second, .val (.int p3), .val (.int (own_f0_j13_S0 p3)), .val (.long (own_f0_29 p3 q0 q1)), .second, .val (.long (own_f0_45 p3 q1 q0)), .second, .val (.int (own_f0_54 p3)), .val (.long (own_f0_j115_L13 p3 q2 q0 q1)), .second, .val (.ref b39), .unset] [(.long (own_f0_45 p3 q1 q0)), (.long (own_f0_29 p3 q0 q1))]) _
  refine own_step (fun t k => XS.lcmp X42.here hx rfl (hb hby at_132) rfl k) ?_
  show own_Run p e below T42 (mkF m 133 #[.val (.long q0), .second, .val (.long q1), .second, .val (.long q2), .second, .val (.int p3), .val (.int (own_f0_j13_S0 p3)), .val (.long (own_f0_29 p3 q0 q1)), .second, .val (.long (own_f0_45 p3 q1 q0)), .second, .val (.int (own_f0_54 p3)), .val (.long (own_f0_j115_L13 p3 q2 q0 q1)), .second, .val (.ref b39), .unset] [(.int (lcmpW (own_f0_29 p3 q0 q1) (own_f0_45 p3 q1 q0)))]) _
  obtain ⟨_, st43, T43, L43, rfl, X43, e43, N43⟩ : own_Run p e below T42 (mkF m 133 #[.val (.long q0), .second, .val (.long q1), .second, .val (.long q2), .second, .val (.int p3), .val (.int (own_f0_j13_S0 p3)), .val (.long (own_f0_29 p3 q0 q1)), .second, .val (.long (own_f0_45 p3 q1 q0)), .second, .val (.int (own_f0_54 p3)), .val (.long (own_f0_j115_L13 p3 q2 q0 q1)), .second, .val (.ref b39), .unset] [(.int (lcmpW (own_f0_29 p3 q0 q1) (own_f0_45 p3 q1 q0)))]) (fun t => ∃ (T' : State) (L' : List Loc) , t = T'.setTop (mkF m 159 #[.val (.long q0), .second, .val (.long q1), .second, .val (.long q2), .second, .val (.int p3), .val (.int (own_f0_j13_S0 p3)), .val (.long (own_f0_29 p3 q0 q1)), .second, .val (.long (own_f0_45 p3 q1 q0)), .second, .val (.int (own_f0_54 p3)), .val (.long (own_f0_j115_L13 p3 q2 q0 q1)), .second, .val (.ref b39), .unset] [(.int (own_f0_j159_S0 p3 q0 q1 q2))]) ∧ Stand p l e room_1 s m #[(.long q0), (.long q1), (.long q2), (.int p3)] below meth c T' L' 1 2 ∧ T'.heap = T42.heap ∧ Fr n0 L') := by
    by_cases hc44 : (0 : Int32) < (lcmpW (own_f0_29 p3 q0 q1) (own_f0_45 p3 q1 q0))
    · refine own_step (fun t k => XS.ifYes X42.here hx rfl (pc0 := 133) (pc' := 158) rfl (hb hby at_133) rfl ((if0 _ _).trans (tlt hc44).2.2.1) (by decide) (by decide) k) ?_
      show own_Run p e below T42 (mkF m 158 #[.val (.long q0), .second, .val (.long q1), .second, .val (.long q2), .second, .val (.int p3), .val (.int (own_f0_j13_S0 p3)), .val (.long (own_f0_29 p3 q0 q1)), .second, .val (.long (own_f0_45 p3 q1 q0)), .second, .val (.int (own_f0_54 p3)), .val (.long (own_f0_j115_L13 p3 q2 q0 q1)), .second, .val (.ref b39), .unset] []) _
      refine own_step (fun t k => XS.iconst X42.here hx rfl (hb hby at_158) k) ?_
      show own_Run p e below T42 (mkF m 159 #[.val (.long q0), .second, .val (.long q1), .second, .val (.long q2), .second, .val (.int p3), .val (.int (own_f0_j13_S0 p3)), .val (.long (own_f0_29 p3 q0 q1)), .second, .val (.long (own_f0_45 p3 q1 q0)), .second, .val (.int (own_f0_54 p3)), .val (.long (own_f0_j115_L13 p3 q2 q0 q1)), .second, .val (.ref b39), .unset] [(.int (0 : Int32))]) _
      have hj0 : (own_f0_j159_S0 p3 q0 q1 q2) = (0 : Int32) := (if_pos hc44)
      exact own_here ⟨T42, _, (by rw [hj0]), X42, rfl, N42⟩
    · refine own_step (fun t k => XS.ifNo X42.here hx rfl (hb hby at_133) rfl ((if0 _ _).trans (flt hc44).2.2.1) k) ?_
      show own_Run p e below T42 (mkF m 136 #[.val (.long q0), .second, .val (.long q1), .second, .val (.long q2), .second, .val (.int p3), .val (.int (own_f0_j13_S0 p3)), .val (.long (own_f0_29 p3 q0 q1)), .second, .val (.long (own_f0_45 p3 q1 q0)), .second, .val (.int (own_f0_54 p3)), .val (.long (own_f0_j115_L13 p3 q2 q0 q1)), .second, .val (.ref b39), .unset] []) _
      refine own_step (fun t k => XS.lload X42.here hx rfl (hb hby at_136) rfl  k) ?_
      show own_Run p e below T42 (mkF m 138 #[.val (.long q0), .second, .val (.long q1), .second, .val (.long q2), .second, .val (.int p3), .val (.int (own_f0_j13_S0 p3)), .val (.long (own_f0_29 p3 q0 q1)), .second, .val (.long (own_f0_45 p3 q1 q0)), .second, .val (.int (own_f0_54 p3)), .val (.long (own_f0_j115_L13 p3 q2 q0 q1)), .second, .val (.ref b39), .unset] [(.long (own_f0_j115_L13 p3 q2 q0 q1))]) _
      refine own_step (fun t k => XS.lload X42.here hx rfl (hb hby at_138) rfl  k) ?_
      show own_Run p e below T42 (mkF m 140 #[.val (.long q0), .second, .val (.long q1), .second, .val (.long q2), .second, .val (.int p3), .val (.int (own_f0_j13_S0 p3)), .val (.long (own_f0_29 p3 q0 q1)), .second, .val (.long (own_f0_45 p3 q1 q0)), .second, .val (.int (own_f0_54 p3)), .val (.long (own_f0_j115_L13 p3 q2 q0 q1)), .second, .val (.ref b39), .unset] [(.long (own_f0_29 p3 q0 q1)), (.long (own_f0_j115_L13 p3 q2 q0 q1))]) _
      obtain ⟨_, _, ⟨T45, L45, kq45, nq45⟩, -, X45, ⟨Lc45, hQ45, lq45, yq45, zq45⟩, st45⟩ := Jvm.LawKit.callS X42 hx (y := (⟨"java/lang/Math", "max", "(JJ)J"⟩ : MethodName)) hown (mvT hZ (hw _ (List.mem_of_getElem? (i := 23) rfl))) (mvT hZ (hw _ (List.mem_of_getElem? (i := 24) rfl))) (mvT hZ (hw _ (List.mem_of_getElem? (i := 25) rfl))) (mvT hZ (hw _ (List.mem_of_getElem? (i := 26) rfl))) (by decide) (backOf (W := 0) (rm5 l Z av0 hw [] (own_f0_j115_L13 p3 q2 q0 q1) (own_f0_29 p3 q0 q1) T42.heap n0 Zn42 ) hZ (hw _ (List.mem_of_getElem? (i := 26) rfl)) (hw _ (List.mem_of_getElem? (i := 25) rfl)) (by decide) (by decide)) (g := (mkF m 140 #[.val (.long q0), .second, .val (.long q1), .second, .val (.long q2), .second, .val (.int p3), .val (.int (own_f0_j13_S0 p3)), .val (.long (own_f0_29 p3 q0 q1)), .second, .val (.long (own_f0_45 p3 q1 q0)), .second, .val (.int (own_f0_54 p3)), .val (.long (own_f0_j115_L13 p3 q2 q0 q1)), .second, .val (.ref b39), .unset] [(.long (own_f0_29 p3 q0 q1)), (.long (own_f0_j115_L13 p3 q2 q0 q1))])) rfl (by rw [hml]; rfl) (argsL := [(.long (own_f0_j115_L13 p3 q2 q0 q1)), (.long (own_f0_29 p3 q0 q1))]) (rest := []) (lenOf own_pd43 rfl) rfl (by show 2 * 0 + _ ≤ _; exact Nat.le_of_eq rfl) (hb hby at_140) (fun _ _ => ⟨rfl, rfl, (by decide : 1 + 0 ≤ _), (by decide : 2 + 0 ≤ _)⟩)
      dsimp only [Pt.U, Pt.locs, Pt.cells, Pt.slots] at X45 lq45 yq45 zq45 st45 hQ45
      subst lq45 yq45 zq45
      obtain ⟨rfl, N45q, e45⟩ := hQ45
      have N45 := Fr.app N42 N45q
      refine own_step st45 ?_
      show own_Run p e below T45 (mkF m 143 #[.val (.long q0), .second, .val (.long q1), .second, .val (.long q2), .second, .val (.int p3), .val (.int (own_f0_j13_S0 p3)), .val (.long (own_f0_29 p3 q0 q1)), .second, .val (.long (own_f0_45 p3 q1 q0)), .second, .val (.int (own_f0_54 p3)), .val (.long (own_f0_j115_L13 p3 q2 q0 q1)), .second, .val (.ref b39), .unset] [(.long (own_r5 (own_f0_j115_L13 p3 q2 q0 q1) (own_f0_29 p3 q0 q1)))]) _
      refine own_step (fun t k => XS.lload X45.here hx rfl (hb hby at_143) rfl  k) ?_
      show own_Run p e below T45 (mkF m 145 #[.val (.long q0), .second, .val (.long q1), .second, .val (.long q2), .second, .val (.int p3), .val (.int (own_f0_j13_S0 p3)), .val (.long (own_f0_29 p3 q0 q1)), .second, .val (.long (own_f0_45 p3 q1 q0)), .second, .val (.int (own_f0_54 p3)), .val (.long (own_f0_j115_L13 p3 q2 q0 q1)), .second, .val (.ref b39), .unset] [(.long (own_f0_45 p3 q1 q0)), (.long (own_r5 (own_f0_j115_L13 p3 q2 q0 q1) (own_f0_29 p3 q0 q1)))]) _
      obtain ⟨_, _, ⟨T46, L46, kq46, nq46⟩, -, X46, ⟨Lc46, hQ46, lq46, yq46, zq46⟩, st46⟩ := Jvm.LawKit.callS X45 hx (y := (⟨"java/lang/Math", "min", "(JJ)J"⟩ : MethodName)) hown (mvT hZ (hw _ (List.mem_of_getElem? (i := 27) rfl))) (mvT hZ (hw _ (List.mem_of_getElem? (i := 28) rfl))) (mvT hZ (hw _ (List.mem_of_getElem? (i := 25) rfl))) (mvT hZ (hw _ (List.mem_of_getElem? (i := 29) rfl))) (by decide) (backOf (W := 0) (rm6 l Z av0 hw [] (own_r5 (own_f0_j115_L13 p3 q2 q0 q1) (own_f0_29 p3 q0 q1)) (own_f0_45 p3 q1 q0) T42.heap n0 Zn42 ) hZ (hw _ (List.mem_of_getElem? (i := 29) rfl)) (hw _ (List.mem_of_getElem? (i := 25) rfl)) (by decide) (by decide)) (g := (mkF m 145 #[.val (.long q0), .second, .val (.long q1), .second, .val (.long q2), .second, .val (.int p3), .val (.int (own_f0_j13_S0 p3)), .val (.long (own_f0_29 p3 q0 q1)), .second, .val (.long (own_f0_45 p3 q1 q0)), .second, .val (.int (own_f0_54 p3)), .val (.long (own_f0_j115_L13 p3 q2 q0 q1)), .second, .val (.ref b39), .unset] [(.long (own_f0_45 p3 q1 q0)), (.long (own_r5 (own_f0_j115_L13 p3 q2 q0 q1) (own_f0_29 p3 q0 q1)))])) rfl (by rw [hml]; rfl) (argsL := [(.long (own_r5 (own_f0_j115_L13 p3 q2 q0 q1) (own_f0_29 p3 q0 q1))), (.long (own_f0_45 p3 q1 q0))]) (rest := []) (lenOf own_pd43 rfl) rfl (by show 2 * 0 + _ ≤ _; exact Nat.le_of_eq rfl) (hb hby at_145) (fun _ _ => ⟨rfl, e45, (by decide : 1 + 0 ≤ _), (by decide : 2 + 0 ≤ _)⟩)
      dsimp only [Pt.U, Pt.locs, Pt.cells, Pt.slots] at X46 lq46 yq46 zq46 st46 hQ46
      subst lq46 yq46 zq46
      obtain ⟨rfl, N46q, e46⟩ := hQ46
      have N46 := Fr.app N45 N46q
      refine own_step st46 ?_
      show own_Run p e below T46 (mkF m 148 #[.val (.long q0), .second, .val (.long q1), .second, .val (.long q2), .second, .val (.int p3), .val (.int (own_f0_j13_S0 p3)), .val (.long (own_f0_29 p3 q0 q1)), .second, .val (.long (own_f0_45 p3 q1 q0)), .second, .val (.int (own_f0_54 p3)), .val (.long (own_f0_j115_L13 p3 q2 q0 q1)), .second, .val (.ref b39), .unset] [(.long (own_r6 (own_r5 (own_f0_j115_L13 p3 q2 q0 q1) (own_f0_29 p3 q0 q1)) (own_f0_45 p3 q1 q0)))]) _
      refine own_step (fun t k => XS.lload X46.here hx rfl (hb hby at_148) rfl  k) ?_
      show own_Run p e below T46 (mkF m 150 #[.val (.long q0), .second, .val (.long q1), .second, .val (.long q2), .second, .val (.int p3), .val (.int (own_f0_j13_S0 p3)), .val (.long (own_f0_29 p3 q0 q1)), .second, .val (.long (own_f0_45 p3 q1 q0)), .second, .val (.int (own_f0_54 p3)), .val (.long (own_f0_j115_L13 p3 q2 q0 q1)), .second, .val (.ref b39), .unset] [(.long (own_f0_j115_L13 p3 q2 q0 q1)), (.long (own_r6 (own_r5 (own_f0_j115_L13 p3 q2 q0 q1) (own_f0_29 p3 q0 q1)) (own_f0_45 p3 q1 q0)))]) _
      refine own_step (fun t k => XS.lcmp X46.here hx rfl (hb hby at_150) rfl k) ?_
      show own_Run p e below T46 (mkF m 151 #[.val (.long q0), .second, .val (.long q1), .second, .val (.long q2), .second, .val (.int p3), .val (.int (own_f0_j13_S0 p3)), .val (.long (own_f0_29 p3 q0 q1)), .second, .val (.long (own_f0_45 p3 q1 q0)), .second, .val (.int (own_f0_54 p3)), .val (.long (own_f0_j115_L13 p3 q2 q0 q1)), .second, .val (.ref b39), .unset] [(.int (lcmpW (own_r6 (own_r5 (own_f0_j115_L13 p3 q2 q0 q1) (own_f0_29 p3 q0 q1)) (own_f0_45 p3 q1 q0)) (own_f0_j115_L13 p3 q2 q0 q1)))]) _
      by_cases hc47 : (lcmpW (own_r6 (own_r5 (own_f0_j115_L13 p3 q2 q0 q1) (own_f0_29 p3 q0 q1)) (own_f0_45 p3 q1 q0)) (own_f0_j115_L13 p3 q2 q0 q1)) = (0 : Int32)
      · refine own_step (fun t k => XS.ifNo X46.here hx rfl (hb hby at_151) rfl ((if0 _ _).trans (teq hc47).2) k) ?_
        show own_Run p e below T46 (mkF m 154 #[.val (.long q0), .second, .val (.long q1), .second, .val (.long q2), .second, .val (.int p3), .val (.int (own_f0_j13_S0 p3)), .val (.long (own_f0_29 p3 q0 q1)), .second, .val (.long (own_f0_45 p3 q1 q0)), .second, .val (.int (own_f0_54 p3)), .val (.long (own_f0_j115_L13 p3 q2 q0 q1)), .second, .val (.ref b39), .unset] []) _
        refine own_step (fun t k => XS.iconst X46.here hx rfl (hb hby at_154) k) ?_
        show own_Run p e below T46 (mkF m 155 #[.val (.long q0), .second, .val (.long q1), .second, .val (.long q2), .second, .val (.int p3), .val (.int (own_f0_j13_S0 p3)), .val (.long (own_f0_29 p3 q0 q1)), .second, .val (.long (own_f0_45 p3 q1 q0)), .second, .val (.int (own_f0_54 p3)), .val (.long (own_f0_j115_L13 p3 q2 q0 q1)), .second, .val (.ref b39), .unset] [(.int (1 : Int32))]) _
        refine own_step (fun t k => XS.goto X46.here hx rfl (pc0 := 155) (pc' := 159) rfl (hb hby at_155) (by decide) (by decide) k) ?_
        show own_Run p e below T46 (mkF m 159 #[.val (.long q0), .second, .val (.long q1), .second, .val (.long q2), .second, .val (.int p3), .val (.int (own_f0_j13_S0 p3)), .val (.long (own_f0_29 p3 q0 q1)), .second, .val (.long (own_f0_45 p3 q1 q0)), .second, .val (.int (own_f0_54 p3)), .val (.long (own_f0_j115_L13 p3 q2 q0 q1)), .second, .val (.ref b39), .unset] [(.int (1 : Int32))]) _
        have hj0 : (own_f0_j159_S0 p3 q0 q1 q2) = (1 : Int32) := ((if_neg hc44).trans (if_pos hc47))
        exact own_here ⟨T46, _, (by rw [hj0]), X46, e46, N46⟩
      · refine own_step (fun t k => XS.ifYes X46.here hx rfl (pc0 := 151) (pc' := 158) rfl (hb hby at_151) rfl ((if0 _ _).trans (feq hc47).2) (by decide) (by decide) k) ?_
        show own_Run p e below T46 (mkF m 158 #[.val (.long q0), .second, .val (.long q1), .second, .val (.long q2), .second, .val (.int p3), .val (.int (own_f0_j13_S0 p3)), .val (.long (own_f0_29 p3 q0 q1)), .second, .val (.long (own_f0_45 p3 q1 q0)), .second, .val (.int (own_f0_54 p3)), .val (.long (own_f0_j115_L13 p3 q2 q0 q1)), .second, .val (.ref b39), .unset] []) _
        refine own_step (fun t k => XS.iconst X46.here hx rfl (hb hby at_158) k) ?_
        show own_Run p e below T46 (mkF m 159 #[.val (.long q0), .second, .val (.long q1), .second, .val (.long q2), .second, .val (.int p3), .val (.int (own_f0_j13_S0 p3)), .val (.long (own_f0_29 p3 q0 q1)), .second, .val (.long (own_f0_45 p3 q1 q0)), .second, .val (.int (own_f0_54 p3)), .val (.long (own_f0_j115_L13 p3 q2 q0 q1)), .second, .val (.ref b39), .unset] [(.int (0 : Int32))]) _
        have hj0 : (own_f0_j159_S0 p3 q0 q1 q2) = (0 : Int32) := ((if_neg hc44).trans (if_neg hc47))
        exact own_here ⟨T46, _, (by rw [hj0]), X46, e46, N46⟩
  refine own_tr st43 ?_
  show own_Run p e below T43 (mkF m 159 #[.val (.long q0), .second, .val (.long q1), .second, .val (.long q2), .second, .val (.int p3), .val (.int (own_f0_j13_S0 p3)), .val (.long (own_f0_29 p3 q0 q1)), .second, .val (.long (own_f0_45 p3 q1 q0)), .second, .val (.int (own_f0_54 p3)), .val (.long (own_f0_j115_L13 p3 q2 q0 q1)), .second, .val (.ref b39), .unset] [(.int (own_f0_j159_S0 p3 q0 q1 q2))]) _
  refine own_step (fun t k => XS.istore X43.here hx rfl (hb hby at_159) rfl (l' := #[.val (.long q0), .second, .val (.long q1), .second, .val (.long q2), .second, .val (.int p3), .val (.int (own_f0_j13_S0 p3)), .val (.long (own_f0_29 p3 q0 q1)), .second, .val (.long (own_f0_45 p3 q1 q0)), .second, .val (.int (own_f0_54 p3)), .val (.long (own_f0_j115_L13 p3 q2 q0 q1)), .second, .val (.ref b39), .val (.int (own_f0_159 p3 q0 q1 q2))]) rfl k) ?_
  show own_Run p e below T43 (mkF m 161 #[.val (.long q0), .second, .val (.long q1), .second, .val (.long q2), .second, .val (.int p3), .val (.int (own_f0_j13_S0 p3)), .val (.long (own_f0_29 p3 q0 q1)), .second, .val (.long (own_f0_45 p3 q1 q0)), .second, .val (.int (own_f0_54 p3)), .val (.long (own_f0_j115_L13 p3 q2 q0 q1)), .second, .val (.ref b39), .val (.int (own_f0_159 p3 q0 q1 q2))] []) _
  refine own_step (fun t k => XS.aload X43.here hx rfl (hb hby at_161) rfl rfl k) ?_
  show own_Run p e below T43 (mkF m 163 #[.val (.long q0), .second, .val (.long q1), .second, .val (.long q2), .second, .val (.int p3), .val (.int (own_f0_j13_S0 p3)), .val (.long (own_f0_29 p3 q0 q1)), .second, .val (.long (own_f0_45 p3 q1 q0)), .second, .val (.int (own_f0_54 p3)), .val (.long (own_f0_j115_L13 p3 q2 q0 q1)), .second, .val (.ref b39), .val (.int (own_f0_159 p3 q0 q1 q2))] [(.ref b39)]) _
  refine own_step (fun t k => XS.lload X43.here hx rfl (hb hby at_163) rfl  k) ?_
  show own_Run p e below T43 (mkF m 165 #[.val (.long q0), .second, .val (.long q1), .second, .val (.long q2), .second, .val (.int p3), .val (.int (own_f0_j13_S0 p3)), .val (.long (own_f0_29 p3 q0 q1)), .second, .val (.long (own_f0_45 p3 q1 q0)), .second, .val (.int (own_f0_54 p3)), .val (.long (own_f0_j115_L13 p3 q2 q0 q1)), .second, .val (.ref b39), .val (.int (own_f0_159 p3 q0 q1 q2))] [(.long (own_f0_j115_L13 p3 q2 q0 q1)), (.ref b39)]) _
  obtain ⟨cq48, kq48, q48a, q48b, q48c⟩ := isOf hZ e43 P42_0x
  obtain ⟨_, _, ⟨T48, L48, kq48, nq48⟩, -, X48, ⟨Lc48, hQ48, lq48, yq48, zq48⟩, st48⟩ := X43.virtualBack hx (y := (⟨"com/example/kuva/kuva/metadata/Setting$Range", "contains", "(J)Z"⟩ : MethodName)) (z := (⟨"com/example/kuva/kuva/metadata/Setting$Range", "contains", "(J)Z"⟩ : MethodName)) hown (mvT hZ (hw _ (List.mem_of_getElem? (i := 18) rfl))) (mvT hZ (hw _ (List.mem_of_getElem? (i := 19) rfl))) (notFace_of_selects (args := #[]) (mvT hZ (hw _ (List.mem_of_getElem? (i := 21) rfl)))) (mvT hZ (hw _ (List.mem_of_getElem? (i := 21) rfl))) (mvT hZ (hw _ (List.mem_of_getElem? (i := 20) rfl))) (by decide) (backOf (W := 0) (rm4 l Z av0 hw [] b39 (own_f0_j115_L13 p3 q2 q0 q1) (own_f0_29 p3 q0 q1) (own_f0_45 p3 q1 q0) T42.heap n0 Zn42 P42_1x P42_2x) hZ (hw _ (List.mem_of_getElem? (i := 22) rfl)) (hw _ (List.mem_of_getElem? (i := 2) rfl)) (by decide) (by decide)) q48a q48c (g := (mkF m 165 #[.val (.long q0), .second, .val (.long q1), .second, .val (.long q2), .second, .val (.int p3), .val (.int (own_f0_j13_S0 p3)), .val (.long (own_f0_29 p3 q0 q1)), .second, .val (.long (own_f0_45 p3 q1 q0)), .second, .val (.int (own_f0_54 p3)), .val (.long (own_f0_j115_L13 p3 q2 q0 q1)), .second, .val (.ref b39), .val (.int (own_f0_159 p3 q0 q1 q2))] [(.long (own_f0_j115_L13 p3 q2 q0 q1)), (.ref b39)])) rfl (by rw [hml]; rfl) (Steps.refl _) (argsL := [(.long (own_f0_j115_L13 p3 q2 q0 q1))]) (rest := []) (lenOf own_pd45 rfl) rfl (by show 2 * 0 + _ ≤ _; exact Nat.le_of_eq rfl) (hb hby at_165) (fun _ _ => ⟨rfl, e43, (by decide : 1 + 0 ≤ _), (by decide : 2 + 0 ≤ _)⟩)
  dsimp only [Pt.U, Pt.locs, Pt.cells, Pt.slots] at X48 lq48 yq48 zq48 st48 hQ48
  subst lq48 yq48 zq48
  obtain ⟨rfl, N48q, e48⟩ := hQ48
  have N48 := Fr.app N43 N48q
  refine own_tr st48 ?_
  show own_Run p e below T48 (mkF m 168 #[.val (.long q0), .second, .val (.long q1), .second, .val (.long q2), .second, .val (.int p3), .val (.int (own_f0_j13_S0 p3)), .val (.long (own_f0_29 p3 q0 q1)), .second, .val (.long (own_f0_45 p3 q1 q0)), .second, .val (.int (own_f0_54 p3)), .val (.long (own_f0_j115_L13 p3 q2 q0 q1)), .second, .val (.ref b39), .val (.int (own_f0_159 p3 q0 q1 q2))] [(.int (own_r4 (own_f0_j115_L13 p3 q2 q0 q1) (own_f0_29 p3 q0 q1) (own_f0_45 p3 q1 q0)))]) _
  refine own_step (fun t k => XS.iload X48.here hx rfl (hb hby at_168) rfl  k) ?_
  show own_Run p e below T48 (mkF m 170 #[.val (.long q0), .second, .val (.long q1), .second, .val (.long q2), .second, .val (.int p3), .val (.int (own_f0_j13_S0 p3)), .val (.long (own_f0_29 p3 q0 q1)), .second, .val (.long (own_f0_45 p3 q1 q0)), .second, .val (.int (own_f0_54 p3)), .val (.long (own_f0_j115_L13 p3 q2 q0 q1)), .second, .val (.ref b39), .val (.int (own_f0_159 p3 q0 q1 q2))] [(.int (own_f0_159 p3 q0 q1 q2)), (.int (own_r4 (own_f0_j115_L13 p3 q2 q0 q1) (own_f0_29 p3 q0 q1) (own_f0_45 p3 q1 q0)))]) _
  obtain ⟨_, st49, rfl⟩ : own_Run p e below T48 (mkF m 170 #[.val (.long q0), .second, .val (.long q1), .second, .val (.long q2), .second, .val (.int p3), .val (.int (own_f0_j13_S0 p3)), .val (.long (own_f0_29 p3 q0 q1)), .second, .val (.long (own_f0_45 p3 q1 q0)), .second, .val (.int (own_f0_54 p3)), .val (.long (own_f0_j115_L13 p3 q2 q0 q1)), .second, .val (.ref b39), .val (.int (own_f0_159 p3 q0 q1 q2))] [(.int (own_f0_159 p3 q0 q1 q2)), (.int (own_r4 (own_f0_j115_L13 p3 q2 q0 q1) (own_f0_29 p3 q0 q1) (own_f0_45 p3 q1 q0)))]) (fun t => t = T48.setTop (mkF m 178 #[.val (.long q0), .second, .val (.long q1), .second, .val (.long q2), .second, .val (.int p3), .val (.int (own_f0_j13_S0 p3)), .val (.long (own_f0_29 p3 q0 q1)), .second, .val (.long (own_f0_45 p3 q1 q0)), .second, .val (.int (own_f0_54 p3)), .val (.long (own_f0_j115_L13 p3 q2 q0 q1)), .second, .val (.ref b39), .val (.int (own_f0_159 p3 q0 q1 q2))] [(.int (own_f0_j178_S0 p3 q2 q0 q1))])) := by
    by_cases hc50 : (own_r4 (own_f0_j115_L13 p3 q2 q0 q1) (own_f0_29 p3 q0 q1) (own_f0_45 p3 q1 q0)) = (own_f0_159 p3 q0 q1 q2)
    · refine own_step (fun t k => XS.icmpNo X48.here hx rfl (hb hby at_170) rfl (teq hc50).2 k) ?_
      show own_Run p e below T48 (mkF m 173 #[.val (.long q0), .second, .val (.long q1), .second, .val (.long q2), .second, .val (.int p3), .val (.int (own_f0_j13_S0 p3)), .val (.long (own_f0_29 p3 q0 q1)), .second, .val (.long (own_f0_45 p3 q1 q0)), .second, .val (.int (own_f0_54 p3)), .val (.long (own_f0_j115_L13 p3 q2 q0 q1)), .second, .val (.ref b39), .val (.int (own_f0_159 p3 q0 q1 q2))] []) _
      refine own_step (fun t k => XS.iconst X48.here hx rfl (hb hby at_173) k) ?_
      show own_Run p e below T48 (mkF m 174 #[.val (.long q0), .second, .val (.long q1), .second, .val (.long q2), .second, .val (.int p3), .val (.int (own_f0_j13_S0 p3)), .val (.long (own_f0_29 p3 q0 q1)), .second, .val (.long (own_f0_45 p3 q1 q0)), .second, .val (.int (own_f0_54 p3)), .val (.long (own_f0_j115_L13 p3 q2 q0 q1)), .second, .val (.ref b39), .val (.int (own_f0_159 p3 q0 q1 q2))] [(.int (1 : Int32))]) _
      refine own_step (fun t k => XS.goto X48.here hx rfl (pc0 := 174) (pc' := 178) rfl (hb hby at_174) (by decide) (by decide) k) ?_
      show own_Run p e below T48 (mkF m 178 #[.val (.long q0), .second, .val (.long q1), .second, .val (.long q2), .second, .val (.int p3), .val (.int (own_f0_j13_S0 p3)), .val (.long (own_f0_29 p3 q0 q1)), .second, .val (.long (own_f0_45 p3 q1 q0)), .second, .val (.int (own_f0_54 p3)), .val (.long (own_f0_j115_L13 p3 q2 q0 q1)), .second, .val (.ref b39), .val (.int (own_f0_159 p3 q0 q1 q2))] [(.int (1 : Int32))]) _
      have hj0 : (own_f0_j178_S0 p3 q2 q0 q1) = (1 : Int32) := (if_pos hc50)
      exact own_here (by rw [hj0])
    · refine own_step (fun t k => XS.icmpYes X48.here hx rfl (pc0 := 170) (pc' := 177) rfl (hb hby at_170) rfl (feq hc50).2 (by decide) (by decide) k) ?_
      show own_Run p e below T48 (mkF m 177 #[.val (.long q0), .second, .val (.long q1), .second, .val (.long q2), .second, .val (.int p3), .val (.int (own_f0_j13_S0 p3)), .val (.long (own_f0_29 p3 q0 q1)), .second, .val (.long (own_f0_45 p3 q1 q0)), .second, .val (.int (own_f0_54 p3)), .val (.long (own_f0_j115_L13 p3 q2 q0 q1)), .second, .val (.ref b39), .val (.int (own_f0_159 p3 q0 q1 q2))] []) _
      refine own_step (fun t k => XS.iconst X48.here hx rfl (hb hby at_177) k) ?_
      show own_Run p e below T48 (mkF m 178 #[.val (.long q0), .second, .val (.long q1), .second, .val (.long q2), .second, .val (.int p3), .val (.int (own_f0_j13_S0 p3)), .val (.long (own_f0_29 p3 q0 q1)), .second, .val (.long (own_f0_45 p3 q1 q0)), .second, .val (.int (own_f0_54 p3)), .val (.long (own_f0_j115_L13 p3 q2 q0 q1)), .second, .val (.ref b39), .val (.int (own_f0_159 p3 q0 q1 q2))] [(.int (0 : Int32))]) _
      have hj0 : (own_f0_j178_S0 p3 q2 q0 q1) = (0 : Int32) := (if_neg hc50)
      exact own_here (by rw [hj0])
  refine own_tr st49 ?_
  show own_Run p e below T48 (mkF m 178 #[.val (.long q0), .second, .val (.long q1), .second, .val (.long q2), .second, .val (.int p3), .val (.int (own_f0_j13_S0 p3)), .val (.long (own_f0_29 p3 q0 q1)), .second, .val (.long (own_f0_45 p3 q1 q0)), .second, .val (.int (own_f0_54 p3)), .val (.long (own_f0_j115_L13 p3 q2 q0 q1)), .second, .val (.ref b39), .val (.int (own_f0_159 p3 q0 q1 q2))] [(.int (own_f0_j178_S0 p3 q2 q0 q1))]) _
  exact own_retZ X48 hx hlk hret (hb hby at_178) (by decide) (by decide) N48 trivial
theorem own_in (x a b : Int64) : own_r4 x a b = (if (0 : Int32) < lcmpW a b then 0 else if lcmpW (own_r6 (own_r5 x a) b) x = 0 then 1 else 0) := by
  unfold own_r4 own_f4_j23_S0 own_r6 own_f6_j11_S0 own_r5 own_f5_j11_S0
  simp only [lw_lt, lw_gt, lw_eq, Int64.lt_iff_toInt_lt, ← Int64.toInt_inj]
  by_cases h1 : x.toInt < a.toInt
  · simp only [h1, if_true]
    by_cases h2 : b.toInt < a.toInt
    · simp only [h2, if_true]; rfl
    · simp only [h2, if_false]
      rw [if_neg (by omega)]; rfl
  · simp only [h1, if_false]
    by_cases h3 : b.toInt < x.toInt
    · simp only [h3, if_true]
      by_cases h2 : b.toInt < a.toInt
      · simp only [h2, if_true]; rfl
      · simp only [h2, if_false]
        rw [if_neg (by omega)]; rfl
    · simp only [h3, if_false]
      rw [if_neg (by omega)]; rfl
theorem own_plain (q0 q1 q2 : Int64) (p3 : Int32) : own_r0 q0 q1 q2 p3 = 1 := by
  have a : own_r4 (own_f0_j115_L13 p3 q2 q0 q1) (own_f0_29 p3 q0 q1) (own_f0_45 p3 q1 q0) = own_f0_159 p3 q0 q1 q2 := own_in _ _ _
  unfold own_r0 own_f0_j178_S0; rw [if_pos a]; rfl

set_option maxRecDepth 65536 in
set_option maxHeartbeats 40000000 in
theorem own_comes {Post : Tables → Env → Array Value → State → Outcome → State → Prop} (hpost : ∀ tb e args s v u, (limb_1_1.after args s (.returned v) u = true ∧ limb_1_2.after args s (.returned v) u = true ∧ True) → FrameEnd s (.returned v) u (Jvm.fieldLocs frame_1_writes args s ++ Jvm.arrayLocs frame_1_arrays args s ++ Jvm.staticLocs frame_1_statics s) 16 128 → Post tb e args s (.returned v) u) :
    ArmFor flags0 classFile x code maxLocals ret World_1 tables_1 room_1 Calls_1 rest_1 Pre_1 Post := by
  intro l hfl _ _ p e ha hc hk s m args below hf hA hF happ hP
  obtain ⟨hcalls, hrest, hpre⟩ := hP
  obtain ⟨-, -, -, hnamed, -, -, -, hat⟩ := (Spec.applies_iff hf).mp happ
  obtain ⟨hg, hn⟩ := and_e (Cond.before_iff.mp (show (Jvm.Cond.and given_1 narrow_1).before args s = true from hpre))
  obtain ⟨gc, g0⟩ := and_e hg
  obtain ⟨v0, g1⟩ := and_e g0
  obtain ⟨v1, g2⟩ := and_e g1
  obtain ⟨v2, g3⟩ := and_e g2
  obtain ⟨w0, w1, w2, w3, rfl⟩ : ∃ w0 w1 w2 w3 : Value, args = #[w0, w1, w2, w3] := by
    have hs : args.size = 4 := by simpa [Cond.value, given_1] using gc
    obtain ⟨L⟩ := args
    match L, hs with
    | [w0, w1, w2, w3], _ => exact ⟨w0, w1, w2, w3, rfl⟩
  have hw := fun d (hd : d ∈ tables_1) => atoms_spec (ws := Jvm.Cond.code x code maxLocals ret :: tables_1) hat d (List.mem_cons_of_mem _ hd)
  obtain ⟨i0, ei0⟩ := isL_v v0
  obtain rfl : w0 = (.long i0) := Option.some.inj ei0
  obtain ⟨i1, ei1⟩ := isL_v v1
  obtain rfl : w1 = (.long i1) := Option.some.inj ei1
  obtain ⟨i2, ei2⟩ := isL_v v2
  obtain rfl : w2 = (.long i2) := Option.some.inj ei2
  obtain ⟨i3, ei3⟩ := is_v g3
  obtain rfl : w3 = (.int i3) := Option.some.inj ei3
  obtain ⟨n, o, h1, h2, h3, _, L, rfl, ⟨rfl, N, -⟩, hq⟩ := rm0 l s _ hw tables_1 i0 i1 i2 i3  s.heap s.heap.size (Nat.le_refl _)  p e ha hc hk s m _ below hf ((Spec.applies_iff_loose hf).mp happ).1 ⟨rfl, State.Warmed39.refl s, rfl⟩ trivial
  have hv : own_r0 i0 i1 i2 i3 = 1 := own_plain i0 i1 i2 i3
  refine ⟨n, _, h1, h2, h3, hpost _ _ _ _ _ _ ⟨Cond.after_iff.mpr rfl, Cond.after_iff.mpr (eq_i res_at (Term.int_eval (1)) (congrArg Value.int hv)), trivial⟩ ⟨hq.1, hq.2.1, (hq.2.2.sift fun y hy => Or.inr (N y hy)).mono (by decide) (by decide)⟩⟩
theorem main_1_1 : Claimed_1_1 := own_comes fun _ _ _ _ _ _ h hF => ⟨h.1, hF⟩
theorem main_1_2 : Claimed_1_2 := own_comes fun _ _ _ _ _ _ h hF => ⟨h.2.1, hF⟩
end Jvm.Pilot.@@N@@
namespace Jvm.Pilot.@@N@@
open Jvm Jvm.ClassFile Sem Op Lib Jvm.Free Jvm.Stand Jvm.Pilot.@@N@@.Jvm.D
/-! MADE BY PROGRAM (witnessworld.py) out of the Statement's table words and the real class files: 12 classes; the members and pool entries that the words name. The judged class is class 1, her method 1. -/
namespace start1
open Jvm.ClassFile
def u (s : String) : CpInfo := .utf8 (stringToUtf16 s)
/-- a pool by its gaps: so many unusable entries, then the entry; so many at the end -/
def gap : Nat → List CpInfo → List CpInfo
  | 0, r => r
  | n + 1, r => .unusable :: gap n r
def poolList (es : List (Nat × CpInfo)) (last : Nat) : List CpInfo := es.foldr (fun e r => gap e.1 (e.2 :: r)) (gap last [])
def pool (es : List (Nat × CpInfo)) (last : Nat) : Array CpInfo := ⟨poolList es last⟩
def fileOf (pool : Array CpInfo) (this : Nat) (attrs : Array Attribute := #[]) (ms : Array MethodInfo := #[]) (fl : Nat := 33) (sup : Nat := 0) (ifs : Array Nat := #[]) (fds : Array FieldInfo := #[]) : ClassFile where
  minorVersion := 0
  majorVersion := 65
  constantPool := pool
  accessFlags := fl
  thisClass := this
  superClass := sup
  interfaces := ifs
  fields := fds
  methods := ms
  attributes := attrs
def plain (name : String) (sup : Option ClassId) : Class where
  name := name
  kind := .ordinary
  loader := none
  accessFlags := 33
  super := sup
  interfaces := #[]
  cf := none
  fields := #[]
  methods := #[]
  instanceTypes := #[]
  staticTypes := #[]
  resolved := #[]
  callSites := []
  init := .initialized
  statics := none
  mirror := none

def pool0 : Array CpInfo := pool [(5, u "<init>"), (0, u "()V"), (1, .class_ 10), (1, u "java/lang/Object")] 113

def k0c0 : Code := { maxStack := 0, maxLocals := 1, code := object_method_1_code, exceptionTable := #[], attributes := #[] }
def k0m0 : Method := { name := "<init>", desc := "()V", sig := { parameters := [], returnType := none }, accessFlags := 1, code := some k0c0 }
/-- java/lang/Object -/
def k0 : Class := { plain "java/lang/Object" none with
  accessFlags := 33
  interfaces := #[]
  cf := some (fileOf pool0 8 #[] #[{ accessFlags := 1, nameIndex := 5, descriptorIndex := 6, attributes := #[] }] 33 0 #[] #[])
  fields := #[]
  methods := #[k0m0]
  instanceTypes := #[]
  staticTypes := #[]
  resolved := Array.replicate 124 none
  statics := none }

def pool1 : Array CpInfo := pool [(2, .class_ 4), (1, u "java/lang/Object"), (0, u "<init>"), (0, u "()V"), (0, .methodref 8 9), (0, .class_ 10), (0, .nameAndType 11 12), (0, u "java/lang/Math"), (0, u "min"), (0, u "(JJ)J"), (0, .methodref 8 14), (0, .nameAndType 15 12), (0, u "max"), (0, .class_ 17), (0, u "com/example/kuva/kuva/metadata/Setting$Range"), (0, .methodref 16 19), (0, .nameAndType 5 20), (0, u "(JJ)V"), (0, .methodref 16 22), (0, .nameAndType 23 24), (0, u "contains"), (0, u "(J)Z"), (0, .class_ 26), (0, u "com/example/kuva/kuva/metadata/RangeContainsPinLaw"), (2, u "law"), (0, u "(JJJI)Z")] 7

def k1m0 : Method := { name := "<init>", desc := "()V", sig := { parameters := [], returnType := none }, accessFlags := 1, code := none }
def k1c1 : Code := { maxStack := 6, maxLocals := 17, code := code, exceptionTable := #[], attributes := #[] }
def k1m1 : Method := { name := "law", desc := "(JJJI)Z", sig := { parameters := [.long, .long, .long, .int], returnType := some .boolean }, accessFlags := 9, code := some k1c1 }
/-- com/example/kuva/kuva/metadata/RangeContainsPinLaw -/
def k1 : Class := { plain "com/example/kuva/kuva/metadata/RangeContainsPinLaw" (some 0) with
  accessFlags := 49
  interfaces := #[]
  cf := some (fileOf pool1 25 #[] #[{ accessFlags := 1, nameIndex := 5, descriptorIndex := 6, attributes := #[] }, { accessFlags := 9, nameIndex := 29, descriptorIndex := 30, attributes := #[] }] 49 2 #[] #[])
  fields := #[]
  methods := #[k1m0, k1m1]
  instanceTypes := #[]
  staticTypes := #[]
  resolved := Array.replicate 38 none
  statics := none }

def pool2 : Array CpInfo := pool [(1, .methodref 2 3), (0, .class_ 4), (0, .nameAndType 5 6), (0, u "java/lang/Object"), (0, u "<init>"), (0, u "()V"), (0, .class_ 8), (0, u "java/lang/Record")] 13

def k2c0 : Code := { maxStack := 1, maxLocals := 1, code := jdk_30_method_1_code, exceptionTable := #[], attributes := #[] }
def k2m0 : Method := { name := "<init>", desc := "()V", sig := { parameters := [], returnType := none }, accessFlags := 4, code := some k2c0 }
/-- java/lang/Record -/
def k2 : Class := { plain "java/lang/Record" (some 0) with
  accessFlags := 1057
  interfaces := #[]
  cf := some (fileOf pool2 7 #[] #[{ accessFlags := 4, nameIndex := 5, descriptorIndex := 6, attributes := #[] }] 1057 2 #[] #[])
  fields := #[]
  methods := #[k2m0]
  instanceTypes := #[]
  staticTypes := #[]
  resolved := Array.replicate 22 none
  statics := none }

def pool3 : Array CpInfo := pool [(1, .class_ 2), (0, u "com/example/kuva/kuva/metadata/Setting$Values"), (0, .class_ 4), (0, u "java/lang/Object"), (10, .class_ 16), (0, u "com/example/kuva/kuva/metadata/Setting")] 9

/-- com/example/kuva/kuva/metadata/Setting$Values -/
def k3 : Class := { plain "com/example/kuva/kuva/metadata/Setting$Values" (some 0) with
  accessFlags := 1537
  interfaces := #[]
  cf := some (fileOf pool3 1 #[.nestHost 15] #[] 1537 3 #[] #[])
  fields := #[]
  methods := #[]
  instanceTypes := #[]
  staticTypes := #[]
  resolved := Array.replicate 26 none
  statics := none }

def pool4 : Array CpInfo := pool [(1, .methodref 2 3), (0, .class_ 4), (0, .nameAndType 5 6), (0, u "java/lang/Record"), (0, u "<init>"), (0, u "()V"), (0, .fieldref 8 9), (0, .class_ 10), (0, .nameAndType 11 12), (0, u "com/example/kuva/kuva/metadata/Setting$Range"), (0, u "min"), (0, u "J"), (0, .fieldref 8 14), (0, .nameAndType 15 12), (0, u "max"), (8, u "contains"), (0, u "(J)Z"), (20, .class_ 47), (0, u "com/example/kuva/kuva/metadata/Setting$Values"), (0, u "(JJ)V"), (13, .class_ 63), (0, u "com/example/kuva/kuva/metadata/Setting")] 29

def k4c0 : Code := { maxStack := 3, maxLocals := 5, code := prog_24_method_1_code, exceptionTable := #[], attributes := #[] }
def k4m0 : Method := { name := "<init>", desc := "(JJ)V", sig := { parameters := [.long, .long], returnType := none }, accessFlags := 1, code := some k4c0 }
def k4c1 : Code := { maxStack := 4, maxLocals := 3, code := prog_24_method_2_code, exceptionTable := #[], attributes := #[] }
def k4m1 : Method := { name := "contains", desc := "(J)Z", sig := { parameters := [.long], returnType := some .boolean }, accessFlags := 1, code := some k4c1 }
/-- com/example/kuva/kuva/metadata/Setting$Range -/
def k4 : Class := { plain "com/example/kuva/kuva/metadata/Setting$Range" (some 2) with
  accessFlags := 49
  interfaces := #[3]
  cf := some (fileOf pool4 8 #[.nestHost 62] #[{ accessFlags := 1, nameIndex := 5, descriptorIndex := 48, attributes := #[] }, { accessFlags := 1, nameIndex := 24, descriptorIndex := 25, attributes := #[] }] 49 2 #[46] #[{ accessFlags := 18, nameIndex := 11, descriptorIndex := 12, attributes := #[] }, { accessFlags := 18, nameIndex := 15, descriptorIndex := 12, attributes := #[] }])
  fields := #[{ name := "min", type := .long, accessFlags := 18, slot := 0, constantValue := 0 }, { name := "max", type := .long, accessFlags := 18, slot := 1, constantValue := 0 }]
  methods := #[k4m0, k4m1]
  instanceTypes := #[.long, .long]
  staticTypes := #[]
  resolved := Array.replicate 93 none
  statics := none }

def pool5 : Array CpInfo := pool [(1, .class_ 2), (0, u "java/lang/Math"), (1, .class_ 6), (1, u "java/lang/Object"), (0, u "<init>"), (0, u "()V"), (89, .class_ 100), (1, u "java/lang/Math$RandomNumberGeneratorHolder"), (20, u "(JJ)J"), (50, u "negativeZeroFloatBits"), (0, u "J"), (2, u "negativeZeroDoubleBits"), (21, u "max"), (2, u "min"), (43, u "$assertionsDisabled"), (0, u "Z"), (91, u "twoToTheDoubleScaleDown"), (0, u "D"), (4, u "twoToTheDoubleScaleUp"), (9, u "E"), (3, u "PI"), (2, u "TAU"), (2, u "DEGREES_TO_RADIANS"), (0, u "RADIANS_TO_DEGREES")] 94

def k5m0 : Method := { name := "<init>", desc := "()V", sig := { parameters := [], returnType := none }, accessFlags := 2, code := none }
def k5c1 : Code := { maxStack := 4, maxLocals := 4, code := jdk_29_method_66_code, exceptionTable := #[], attributes := #[] }
def k5m1 : Method := { name := "max", desc := "(JJ)J", sig := { parameters := [.long, .long], returnType := some .long }, accessFlags := 9, code := some k5c1 }
def k5c2 : Code := { maxStack := 4, maxLocals := 4, code := jdk_29_method_70_code, exceptionTable := #[], attributes := #[] }
def k5m2 : Method := { name := "min", desc := "(JJ)J", sig := { parameters := [.long, .long], returnType := some .long }, accessFlags := 9, code := some k5c2 }
/-- java/lang/Math -/
def k5 : Class := { plain "java/lang/Math" (some 0) with
  accessFlags := 49
  interfaces := #[]
  cf := some (fileOf pool5 1 #[.nestMembers #[98]] #[{ accessFlags := 2, nameIndex := 7, descriptorIndex := 8, attributes := #[] }, { accessFlags := 9, nameIndex := 198, descriptorIndex := 121, attributes := #[] }, { accessFlags := 9, nameIndex := 201, descriptorIndex := 121, attributes := #[] }] 49 4 #[] #[{ accessFlags := 25, nameIndex := 354, descriptorIndex := 339, attributes := #[] }, { accessFlags := 25, nameIndex := 358, descriptorIndex := 339, attributes := #[] }, { accessFlags := 25, nameIndex := 361, descriptorIndex := 339, attributes := #[] }, { accessFlags := 26, nameIndex := 364, descriptorIndex := 339, attributes := #[] }, { accessFlags := 26, nameIndex := 365, descriptorIndex := 339, attributes := #[] }, { accessFlags := 26, nameIndex := 172, descriptorIndex := 173, attributes := #[] }, { accessFlags := 26, nameIndex := 176, descriptorIndex := 173, attributes := #[] }, { accessFlags := 8, nameIndex := 344, descriptorIndex := 339, attributes := #[] }, { accessFlags := 8, nameIndex := 338, descriptorIndex := 339, attributes := #[] }, { accessFlags := 4120, nameIndex := 245, descriptorIndex := 246, attributes := #[] }])
  fields := #[{ name := "E", type := .double, accessFlags := 25, slot := 0, constantValue := 0 }, { name := "PI", type := .double, accessFlags := 25, slot := 1, constantValue := 0 }, { name := "TAU", type := .double, accessFlags := 25, slot := 2, constantValue := 0 }, { name := "DEGREES_TO_RADIANS", type := .double, accessFlags := 26, slot := 3, constantValue := 0 }, { name := "RADIANS_TO_DEGREES", type := .double, accessFlags := 26, slot := 4, constantValue := 0 }, { name := "negativeZeroFloatBits", type := .long, accessFlags := 26, slot := 5, constantValue := 0 }, { name := "negativeZeroDoubleBits", type := .long, accessFlags := 26, slot := 6, constantValue := 0 }, { name := "twoToTheDoubleScaleUp", type := .double, accessFlags := 8, slot := 7, constantValue := 0 }, { name := "twoToTheDoubleScaleDown", type := .double, accessFlags := 8, slot := 8, constantValue := 0 }, { name := "$assertionsDisabled", type := .boolean, accessFlags := 4120, slot := 9, constantValue := 0 }]
  methods := #[k5m0, k5m1, k5m2]
  instanceTypes := #[]
  staticTypes := #[.double, .double, .double, .double, .double, .long, .long, .double, .double, .boolean]
  resolved := Array.replicate 460 none
  statics := none }

def pool6 : Array CpInfo := pool [(1, u "java/lang/Cloneable"), (0, .class_ 1), (0, u "java/lang/Object"), (0, .class_ 3)] 3

/-- java/lang/Cloneable -/
def k6 : Class := { plain "java/lang/Cloneable" (some 0) with
  accessFlags := 1537
  interfaces := #[]
  cf := some (fileOf pool6 2 #[] #[] 1537 4 #[] #[])
  fields := #[]
  methods := #[]
  instanceTypes := #[]
  staticTypes := #[]
  resolved := Array.replicate 8 none
  statics := none }

def pool7 : Array CpInfo := pool [(1, u "java/io/Serializable"), (0, .class_ 1), (0, u "java/lang/Object"), (0, .class_ 3)] 3

/-- java/io/Serializable -/
def k7 : Class := { plain "java/io/Serializable" (some 0) with
  accessFlags := 1537
  interfaces := #[]
  cf := some (fileOf pool7 2 #[] #[] 1537 4 #[] #[])
  fields := #[]
  methods := #[]
  instanceTypes := #[]
  staticTypes := #[]
  resolved := Array.replicate 8 none
  statics := none }

/-- the primitive byte -/
def k8 : Class := { plain "byte" none with kind := .primitive 'B', accessFlags := 0x411 }
/-- [B -/
def k9 : Class := { plain "[B" (some 0) with kind := .array 8 .byte, interfaces := #[6, 7], accessFlags := 1041 }

/-- the primitive int -/
def k10 : Class := { plain "int" none with kind := .primitive 'I', accessFlags := 0x411 }
/-- [I -/
def k11 : Class := { plain "[I" (some 0) with kind := .array 10 .int, interfaces := #[6, 7], accessFlags := 1041 }

def heap : Heap := #[]
def classes : Array Class := #[k0, k1, k2, k3, k4, k5, k6, k7, k8, k9, k10, k11]
def interned : List (Array UInt16 × Addr) := []
def slotsUsed : Nat := 0
def theMethod : MethodId := ⟨1, 1⟩
def args0 : Array Value := #[.long 5, .long 9, .long 7, .int 3]
def aboutOver (below : List Frame) : State where
  vm := { classes := classes, interned := interned.toArray }
  heap := heap
  slotsUsed := slotsUsed
  threads := #[{ frames := .invoking theMethod args0 :: below }]
def below0 : List Frame := [.native { method := ⟨0, 0⟩, args := #[] }]
def about1 : State := aboutOver below0
def p0 : Program := .bare "" "" ""
def e0 : Env := launch0.env 0 0 0
theorem w_frames : about1.frames = Frame.invoking theMethod args0 :: below0 := rfl
set_option maxRecDepth 65536 in
theorem w_args : argsFit about1.vm theMethod args0 = true := by decide +kernel
set_option maxRecDepth 65536 in
theorem w_heap : heapFits about1 = true := by decide +kernel
set_option maxRecDepth 65536 in
theorem w_runnable : about1.curStatus? = some .runnable := by decide +kernel
set_option maxRecDepth 65536 in
theorem w_alone : about1.alone = true := by decide +kernel
set_option maxRecDepth 65536 in
theorem w_named : about1.methodNamed? x = some theMethod := by decide +kernel
set_option maxRecDepth 65536 in
theorem w_hears : about1.hears theMethod below0 = true := by decide +kernel
set_option maxRecDepth 65536 in
theorem w_ripe : about1.ripe theMethod args0 below0 = true := by decide +kernel
theorem w_running : about1.status = .running := rfl
set_option maxRecDepth 65536 in
theorem w_room : about1.hasRoom e0.platform room_1 = true :=
  launch0.hasRoom_least _ room_1 (by decide +kernel) (by decide +kernel) (by decide +kernel) (by decide +kernel) (by decide +kernel) (by decide +kernel)
theorem allAtoms_all (ts : List Jvm.Cond) (a : Array Jvm.Value) (st : Jvm.State) : (allAtoms ts).before a st = ts.all (fun c => c.before a st) := by
  induction ts with
  | nil => rfl
  | cons c t ih =>
    show (Jvm.Cond.and c (allAtoms t)).before a st = _
    rw [Jvm.Cond.before_and, ih, List.all_cons]
def words1 : List Jvm.Cond := Jvm.Cond.code x code maxLocals ret :: tables_1
/-- a 'code' word, met by the world's own term for the bytes: nothing is compared byte by byte -/
theorem code_word {y : MethodName} {bytes : ByteArray} {mx : Nat} {rt : Option FieldType} {a : Array Value} {s : State} {m : MethodId} {meth : Method} {c : Code} (h1 : s.methodNamed? y = some m) (h2 : s.vm.method? m = some meth) (h3 : meth.code = some c) (h4 : c.code = bytes)
    (h5 : (c.maxLocals == mx && c.exceptionTable.isEmpty && decide (c.maxStack ≤ mostOperands) && decide (meth.sig.returnType = rt) && !meth.locks && decide (parseMethodDescriptor y.desc = some meth.sig)) = true) : (Jvm.Cond.code y bytes mx rt).before a s = true := by
  simp only [Bool.and_eq_true, beq_iff_eq, Bool.not_eq_true', decide_eq_true_eq] at h5
  obtain ⟨⟨⟨⟨⟨g1, g2⟩, g3⟩, g4⟩, g5⟩, g6⟩ := h5
  simp [Cond.before, Cond.holds, Cond.value, h1, h2, h3, h4, g1, g2, g3, g4, g5, g6]
def isCode : Jvm.Cond → Bool
  | .code _ _ _ _ => true
  | _ => false
theorem all_split {L : List Jvm.Cond} {P : Jvm.Cond → Bool} (h1 : L.all (fun c => isCode c || P c) = true) (h2 : ∀ c ∈ L.filter isCode, P c = true) : L.all P = true := by
  refine List.all_eq_true.mpr fun c hc => ?_
  have h := List.all_eq_true.mp h1 c hc
  rcases Bool.eq_false_or_eq_true (isCode c) with hi | hi
  · exact h2 c (List.mem_filter.mpr ⟨hc, hi⟩)
  · simpa [hi] using h
set_option maxRecDepth 65536 in
theorem w_c0 : (Jvm.Cond.code x code maxLocals ret).before args0 about1 = true := code_word (m := ⟨1, 1⟩) (meth := k1m1) (c := k1c1) (by decide +kernel) rfl rfl rfl (by decide +kernel)
set_option maxRecDepth 65536 in
theorem w_c1 : (Jvm.Cond.code ({ cls := "com/example/kuva/kuva/metadata/Setting$Range", name := "<init>", desc := "(JJ)V" } : Jvm.MethodName) prog_24_method_1_code (5 : Nat) (Option.none : Option Jvm.ClassFile.FieldType)).before args0 about1 = true := code_word (m := ⟨4, 0⟩) (meth := k4m0) (c := k4c0) (by decide +kernel) rfl rfl rfl (by decide +kernel)
set_option maxRecDepth 65536 in
theorem w_c2 : (Jvm.Cond.code ({ cls := "java/lang/Record", name := "<init>", desc := "()V" } : Jvm.MethodName) jdk_30_method_1_code (1 : Nat) (Option.none : Option Jvm.ClassFile.FieldType)).before args0 about1 = true := code_word (m := ⟨2, 0⟩) (meth := k2m0) (c := k2c0) (by decide +kernel) rfl rfl rfl (by decide +kernel)
set_option maxRecDepth 65536 in
theorem w_c3 : (Jvm.Cond.code ({ cls := "java/lang/Object", name := "<init>", desc := "()V" } : Jvm.MethodName) object_method_1_code (1 : Nat) (Option.none : Option Jvm.ClassFile.FieldType)).before args0 about1 = true := code_word (m := ⟨0, 0⟩) (meth := k0m0) (c := k0c0) (by decide +kernel) rfl rfl rfl (by decide +kernel)
set_option maxRecDepth 65536 in
theorem w_c4 : (Jvm.Cond.code ({ cls := "com/example/kuva/kuva/metadata/Setting$Range", name := "contains", desc := "(J)Z" } : Jvm.MethodName) prog_24_method_2_code (3 : Nat) (Option.some Jvm.ClassFile.FieldType.boolean)).before args0 about1 = true := code_word (m := ⟨4, 1⟩) (meth := k4m1) (c := k4c1) (by decide +kernel) rfl rfl rfl (by decide +kernel)
set_option maxRecDepth 65536 in
theorem w_c5 : (Jvm.Cond.code ({ cls := "java/lang/Math", name := "max", desc := "(JJ)J" } : Jvm.MethodName) jdk_29_method_66_code (4 : Nat) (Option.some Jvm.ClassFile.FieldType.long)).before args0 about1 = true := code_word (m := ⟨5, 1⟩) (meth := k5m1) (c := k5c1) (by decide +kernel) rfl rfl rfl (by decide +kernel)
set_option maxRecDepth 65536 in
theorem w_c6 : (Jvm.Cond.code ({ cls := "java/lang/Math", name := "min", desc := "(JJ)J" } : Jvm.MethodName) jdk_29_method_70_code (4 : Nat) (Option.some Jvm.ClassFile.FieldType.long)).before args0 about1 = true := code_word (m := ⟨5, 2⟩) (meth := k5m2) (c := k5c2) (by decide +kernel) rfl rfl rfl (by decide +kernel)
def codes1 : List Jvm.Cond := [Jvm.Cond.code x code maxLocals ret, Jvm.Cond.code ({ cls := "com/example/kuva/kuva/metadata/Setting$Range", name := "<init>", desc := "(JJ)V" } : Jvm.MethodName) prog_24_method_1_code (5 : Nat) (Option.none : Option Jvm.ClassFile.FieldType), Jvm.Cond.code ({ cls := "java/lang/Record", name := "<init>", desc := "()V" } : Jvm.MethodName) jdk_30_method_1_code (1 : Nat) (Option.none : Option Jvm.ClassFile.FieldType), Jvm.Cond.code ({ cls := "java/lang/Object", name := "<init>", desc := "()V" } : Jvm.MethodName) object_method_1_code (1 : Nat) (Option.none : Option Jvm.ClassFile.FieldType), Jvm.Cond.code ({ cls := "com/example/kuva/kuva/metadata/Setting$Range", name := "contains", desc := "(J)Z" } : Jvm.MethodName) prog_24_method_2_code (3 : Nat) (Option.some Jvm.ClassFile.FieldType.boolean), Jvm.Cond.code ({ cls := "java/lang/Math", name := "max", desc := "(JJ)J" } : Jvm.MethodName) jdk_29_method_66_code (4 : Nat) (Option.some Jvm.ClassFile.FieldType.long), Jvm.Cond.code ({ cls := "java/lang/Math", name := "min", desc := "(JJ)J" } : Jvm.MethodName) jdk_29_method_70_code (4 : Nat) (Option.some Jvm.ClassFile.FieldType.long)]
set_option maxRecDepth 65536 in
theorem codes_eq : words1.filter isCode = codes1 := rfl
theorem w_codes : ∀ c ∈ words1.filter isCode, c.before args0 about1 = true := by
  rw [codes_eq]
  intro c hc
  simp only [codes1, List.mem_cons, List.not_mem_nil, or_false] at hc
  rcases hc with rfl | rfl | rfl | rfl | rfl | rfl | rfl
  · exact w_c0
  · exact w_c1
  · exact w_c2
  · exact w_c3
  · exact w_c4
  · exact w_c5
  · exact w_c6
set_option maxRecDepth 65536 in
theorem w_t1 : (words1.take 24).all (fun c => isCode c || c.before args0 about1) = true := by decide +kernel
set_option maxRecDepth 65536 in
theorem w_t2 : (words1.drop 24).all (fun c => isCode c || c.before args0 about1) = true := by decide +kernel
theorem w_tables : (allAtoms (Jvm.Cond.code x code maxLocals ret :: tables_1)).before args0 about1 = true := by
  rw [allAtoms_all]
  show words1.all (fun c => c.before args0 about1) = true
  refine all_split ?_ w_codes
  rw [← List.take_append_drop 24 words1, List.all_append, w_t1, w_t2]
  rfl
set_option maxRecDepth 65536 in
theorem w_case : (Jvm.Cond.and given_1 narrow_1).before args0 about1 = true := by decide +kernel
theorem w_applies : (headSpec (Jvm.Cond.code x code maxLocals ret :: tables_1) room_1).applies x e0.platform about1 = true :=
  (Spec.applies_iff w_frames).mpr ⟨w_running, w_runnable, w_alone, w_named, w_hears, w_ripe, w_room, w_tables⟩
theorem atStart : AtStart classFile x code maxLocals ret World_1 tables_1 room_1 Calls_1 rest_1 Pre_1 launch0 p0 e0 about1 theMethod args0 below0 :=
  ⟨lists_1, trivial, launch0.admits_env _ _ _, launch0.least_env, fairChoices_fair.cas, fairChoices_fair.clock, w_frames, w_args, w_heap, w_applies, trivial, trivial, w_case⟩
end start1
theorem witness_1 : WitnessClaimed_1 := ⟨start1.p0, start1.e0, start1.about1, start1.theMethod, start1.args0, start1.below0, start1.atStart⟩
end Jvm.Pilot.@@N@@
