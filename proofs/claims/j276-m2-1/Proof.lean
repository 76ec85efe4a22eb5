import JvmDerived
import JvmDerived.Pilot.@@N@@Statement
import JvmDerived.Pilot.@@N@@Code
set_option linter.unusedVariables false
set_option linter.unusedSimpArgs false
@@BLOCK:NumsL.lean.txt@@
namespace Jvm.RoadKit
open Sem ClassFile Op Lib Jvm.Stand Jvm.Free Jvm.LawKit
section New
variable {p : Program} {l : Launch} {e : Env} {R : Room} {s : State} {m : MethodId} {args : Array Value} {below : List Frame} {meth : Method} {c : Code} {T : State} {locs : List Loc} {cells slots : Nat}
theorem retI (X : Stand p l e R s m args below meth c T locs cells slots) (hx : p.tables.exec = Jvm.exec) {pc : Nat} {Ls : Array Slot} {z : Int32} {rest : List Value} (hret : meth.sig.returnType = some .int) (hd : decode c.code pc = .ok (.ireturn, 1)) {fs : List Frame}
    (hl : ∀ (f : JFrame) (acts : List Action), f.method = m → f.locked = none → f.entered = [] → (doReturn e (T.setTop f) acts (some (.int z))).1 = T.setFrames fs) : Steps p.tables e below (T.setTop (mkF m pc Ls (.int z :: rest))) (T.setFrames fs) := by
  have hm' : T.vm.method? m = some meth := X.method'
  have hn : narrow .int (.int z) = .int z := rfl
  show Steps p.tables e below (T.setTop { method := m, pc := pc, locals := Ls, stack := _ :: rest, locked := none }) _
  jvm_step X.here [X.here.top, hx, hd, hm', hret, hn]
  first | (intro acts; rw [hl _ acts rfl rfl rfl]) | rw [hl _ _ rfl rfl rfl]
  exact Steps.refl _
end New
end Jvm.RoadKit
namespace Jvm.Pilot.@@N@@
open Jvm Jvm.ClassFile Sem Op Lib Jvm.Free Jvm.Stand Jvm.LawKit Jvm.RoadKit Bundle Jvm.Pilot.@@N@@.Jvm.D
/-! own: Java's shifts and remainders, written short -/
def own_shl (x y : Int32) : Int32 := x <<< (y &&& 31)
def own_shr (x y : Int32) : Int32 := x >>> (y &&& 31)
def own_ushr (x y : Int32) : Int32 := (x.toUInt32 >>> (y &&& 31).toUInt32).toInt32
def own_shlL (x : Int64) (y : Int32) : Int64 := x <<< (y &&& 0x3f).toInt64
def own_shrL (x : Int64) (y : Int32) : Int64 := x >>> (y &&& 0x3f).toInt64
def own_ushrL (x : Int64) (y : Int32) : Int64 := (x.toUInt64 >>> (y &&& 0x3f).toInt64.toUInt64).toInt64
def own_rem (x y : Int32) : Int32 := x - (x / y) * y
def own_remL (x y : Int64) : Int64 := x - (x / y) * y
theorem own_rem_nn {x y : Int32} (hx : 0 ≤ x.toInt) (hy : 0 < y.toInt) : (own_rem x y).toInt = x.toInt % y.toInt := by
  have hd : (x / y).toInt = x.toInt / y.toInt := by
    rw [Jvm.Kit.i32_div (by omega), Int.tdiv_eq_ediv_of_nonneg hx]
  have b1 := Int.emod_add_mul_ediv x.toInt y.toInt
  have b2 := Int.emod_nonneg x.toInt (by omega : y.toInt ≠ 0)
  have b3 := Int.emod_lt_of_pos x.toInt hy
  have b4 : 0 ≤ x.toInt / y.toInt := Int.ediv_nonneg hx (by omega)
  have hX := Int32.toInt_lt x
  have b5 : 0 ≤ y.toInt * (x.toInt / y.toInt) := Int.mul_nonneg (by omega) b4
  have hm : ((x / y) * y).toInt = y.toInt * (x.toInt / y.toInt) := by
    rw [Jvm.Kit.i32_mul (by rw [hd, Int.mul_comm]; omega) (by rw [hd, Int.mul_comm]; omega), hd, Int.mul_comm]
  unfold own_rem
  rw [Jvm.Kit.i32_sub (by rw [hm]; omega) (by rw [hm]; omega), hm]; omega
/-! own: a run from a frame to what 'Post' says -/
section OwnRun
variable {p : Program} {l : Launch} {e : Env} {R : Room} {s : State} {m : MethodId} {args : Array Value} {below : List Frame} {meth : Method} {c : Code} {T T' : State} {locs : List Loc} {cells slots : Nat} {g g' : JFrame} {Post : State → Prop} {n0 : Nat} {P : Heap → Prop} {C S : Nat} {Z : State} {h : Heap} {a : Addr} {k : ClassId} {n j : Int32} {vs : List Value} {d v : Value} {E : State → Outcome → State → List Loc → Nat → Nat → Prop}
def own_Run (p : Program) (e : Env) (below : List Frame) (T : State) (g : JFrame) (Post : State → Prop) : Prop := ∃ t, Steps p.tables e below (T.setTop g) t ∧ Post t
theorem own_step (st : ∀ t, Steps p.tables e below (T'.setTop g') t → Steps p.tables e below (T.setTop g) t) (h : own_Run p e below T' g' Post) : own_Run p e below T g Post := h.imp fun t k => ⟨st t k.1, k.2⟩
theorem own_tr (st : Steps p.tables e below (T.setTop g) (T'.setTop g')) (h : own_Run p e below T' g' Post) : own_Run p e below T g Post := h.imp fun t k => ⟨st.trans k.1, k.2⟩
theorem own_here (h : Post (T.setTop g)) : own_Run p e below T g Post := ⟨_, Steps.refl _, h⟩
theorem own_entry {Q : State → Prop} (q : g = g') (h : own_Run p e below T g' Q) : own_Run p e below T g Q := q ▸ h
def own_Q (n0 : Nat) (P : Heap → Prop) (w : Option Value) : Option Value → Heap → List Loc → Prop := fun v h L => v = w ∧ Fr n0 L ∧ P h
def own_Ret (E : State → Outcome → State → List Loc → Nat → Nat → Prop) (U : State) (below : List Frame) (C S : Nat) (Q : Option Value → Heap → List Loc → Prop) : State → Prop := fun t => t.status = .running ∧ ∃ o, Ended t below o ∧ ∃ v L, o = .returned v ∧ Q v t.heap L ∧ E U o t L C S
theorem own_fin {Q : Option Value → Heap → List Loc → Prop} (h : own_Run p e below T g (own_Ret E s below C S Q)) : ∃ s₂ o, Steps p.tables e below (T.setTop g) s₂ ∧ s₂.status = .running ∧ Ended s₂ below o ∧ ∃ v L, o = .returned v ∧ Q v s₂.heap L ∧ E s o s₂ L C S := by
  obtain ⟨t, st, hr, o, he, r⟩ := h; exact ⟨t, o, st, hr, he, r⟩
theorem own_vi {x y : Int32} (q : x = y) (h : own_Run p e below T g (own_Ret E s below C S (own_Q n0 P (some (.int y))))) : own_Run p e below T g (own_Ret E s below C S (own_Q n0 P (some (.int x)))) := q ▸ h
theorem own_vj {x y : Int64} (q : x = y) (h : own_Run p e below T g (own_Ret E s below C S (own_Q n0 P (some (.long y))))) : own_Run p e below T g (own_Ret E s below C S (own_Q n0 P (some (.long x)))) := q ▸ h
theorem own_leave {w : Option Value} (X : Stand p l e R s m args below meth c T locs cells slots) (hv : meth.sig.returnType = none → w = none) (hlk : meth.locks = false) (hC : cells ≤ C) (hS : slots ≤ S) (N : Fr n0 locs) (hP : P T.heap)
    (st : ∀ fs, (∀ (f : JFrame) (acts : List Action), f.method = m → f.locked = none → f.entered = [] → (doReturn e (T.setTop f) acts w).1 = T.setFrames fs) → Steps p.tables e below (T.setTop g) (T.setFrames fs)) : own_Run p e below T g (own_Ret FrameEnd s below C S (own_Q n0 P w)) := by
  obtain ⟨fs, hr, hrun, hended, hW, hsame⟩ := X.leave (v := w) hv hlk
  exact ⟨_, st fs hr, hrun, _, hended, _, _, rfl, ⟨rfl, N, hP⟩, ⟨_, rfl⟩, hW, hsame.mono hC hS⟩
theorem own_retZ (X : Stand p l e R s m args below meth c T locs cells slots) (hx : p.tables.exec = Jvm.exec) (hlk : meth.locks = false) {pc : Nat} {Ls : Array Slot} {z : Int32} {rest : List Value} (hret : meth.sig.returnType = some .boolean) (hd : decode c.code pc = .ok (.ireturn, 1)) (hC : cells ≤ C) (hS : slots ≤ S) (N : Fr n0 locs) (hP : P T.heap) :
    own_Run p e below T (mkF m pc Ls (.int z :: rest)) (own_Ret FrameEnd s below C S (own_Q n0 P (some (.int (nar .boolean z))))) :=
  own_leave X (fun q => by rw [hret] at q; cases q) hlk hC hS N hP fun fs hr => retN X hx (t := .boolean) hret (by simp) hd hr
theorem own_retI (X : Stand p l e R s m args below meth c T locs cells slots) (hx : p.tables.exec = Jvm.exec) (hlk : meth.locks = false) {pc : Nat} {Ls : Array Slot} {z : Int32} {rest : List Value} (hret : meth.sig.returnType = some .int) (hd : decode c.code pc = .ok (.ireturn, 1)) (hC : cells ≤ C) (hS : slots ≤ S) (N : Fr n0 locs) (hP : P T.heap) :
    own_Run p e below T (mkF m pc Ls (.int z :: rest)) (own_Ret FrameEnd s below C S (own_Q n0 P (some (.int z)))) :=
  own_leave X (fun q => by rw [hret] at q; cases q) hlk hC hS N hP fun fs hr => retI X hx hret hd hr
theorem own_retJ (X : Stand p l e R s m args below meth c T locs cells slots) (hx : p.tables.exec = Jvm.exec) (hlk : meth.locks = false) {pc : Nat} {Ls : Array Slot} {z : Int64} (hret : meth.sig.returnType = some .long) (hd : decode c.code pc = .ok (.lreturn, 1)) (hC : cells ≤ C) (hS : slots ≤ S) (N : Fr n0 locs) (hP : P T.heap) :
    own_Run p e below T (mkF m pc Ls [.long z]) (own_Ret FrameEnd s below C S (own_Q n0 P (some (.long z)))) :=
  own_leave X (fun q => by rw [hret] at q; cases q) hlk hC hS N hP fun fs hr => X.lreturnOut hx hret hd hr
theorem own_retD (X : Stand p l e R s m args below meth c T locs cells slots) (hx : p.tables.exec = Jvm.exec) (hlk : meth.locks = false) {pc : Nat} {Ls : Array Slot} {z : UInt64} {rest : List Value} (hret : meth.sig.returnType = some .double) (hd : decode c.code pc = .ok (.dreturn, 1)) (hC : cells ≤ C) (hS : slots ≤ S) (N : Fr n0 locs) (hP : P T.heap) :
    own_Run p e below T (mkF m pc Ls (.double z :: rest)) (own_Ret FrameEnd s below C S (own_Q n0 P (some (.double z)))) :=
  own_leave X (fun q => by rw [hret] at q; cases q) hlk hC hS N hP fun fs hr => retOut X hx (i := .dreturn) hret rfl (Or.inr (Or.inr (Or.inl ⟨rfl, rfl, z, rfl⟩))) hd hr
theorem own_retV (X : Stand p l e R s m args below meth c T locs cells slots) (hx : p.tables.exec = Jvm.exec) (hlk : meth.locks = false) {pc : Nat} {Ls : Array Slot} (hret : meth.sig.returnType = none) (hd : decode c.code pc = .ok (.return_, 1)) (hC : cells ≤ C) (hS : slots ≤ S) (N : Fr n0 locs) (hP : P T.heap) :
    own_Run p e below T (mkF m pc Ls []) (own_Ret FrameEnd s below C S (own_Q n0 P none)) :=
  own_leave X (fun _ => rfl) hlk hC hS N hP fun fs hr => X.returnOut hx hret hd hr
theorem own_retA (X : Stand p l e R s m args below meth c T locs cells slots) (hx : p.tables.exec = Jvm.exec) (hlk : meth.locks = false) {pc : Nat} {Ls : Array Slot} {w : Value} {t : FieldType} (hret : meth.sig.returnType = some t) (ht : t.isReference = true) (hw : w.isRef = true) (hd : decode c.code pc = .ok (.areturn, 1)) (hC : cells ≤ C) (hS : slots ≤ S) (N : Fr n0 locs) (hP : P T.heap) :
    own_Run p e below T (mkF m pc Ls [w]) (own_Ret FrameEnd s below C S (own_Q n0 P (some w))) :=
  own_leave X (fun q => by rw [hret] at q; cases q) hlk hC hS N hP fun fs hr => X.areturnOut hx hw hret ht hd hr
/-! own: the same where the walk may have loaded a String constant (the tables may hold a new pair) -/
theorem own_mixW {U t : State} {o : Outcome} {L : List Loc} {k n k' n' : Nat} (h : ReturnedEndW U o t L k n) (hk : k ≤ k') (hn : n ≤ n') : ReturnedEndW U o t L k' n' := ⟨h.1, h.2.1, h.2.2.1, h.2.2.2.mono hk hn⟩
theorem own_leaveW {vm₁ : Vm} {n : Nat} {w : Option Value} (X : Stand p l e R (s.setVm vm₁) m args below meth c T locs cells slots) (hS : s.Since vm₁ n) (hn : n ≤ T.heap.size) (hv : meth.sig.returnType = none → w = none) (hlk : meth.locks = false) (hC : cells ≤ C) (hSl : slots ≤ S) (N : Fr n0 locs) (hP : P T.heap)
    (st : ∀ fs, (∀ (f : JFrame) (acts : List Action), f.method = m → f.locked = none → f.entered = [] → (doReturn e (T.setTop f) acts w).1 = T.setFrames fs) → Steps p.tables e below (T.setTop g) (T.setFrames fs)) : own_Run p e below T g (own_Ret ReturnedEndW s below C S (own_Q n0 P w)) := by
  obtain ⟨fs, hr, hrun, hended, hW⟩ := X.leaveW hS hn (v := w) hv hlk
  exact ⟨_, st fs hr, hrun, _, hended, _, _, rfl, ⟨rfl, N, hP⟩, own_mixW hW hC hSl⟩
theorem own_retZW {vm₁ : Vm} {n : Nat} (X : Stand p l e R (s.setVm vm₁) m args below meth c T locs cells slots) (hx : p.tables.exec = Jvm.exec) (hlk : meth.locks = false) {pc : Nat} {Ls : Array Slot} {z : Int32} {rest : List Value} (hret : meth.sig.returnType = some .boolean) (hd : decode c.code pc = .ok (.ireturn, 1)) (hC : cells ≤ C) (hSl : slots ≤ S) (N : Fr n0 locs) (hP : P T.heap) (hS : s.Since vm₁ n) (hn : n ≤ T.heap.size) :
    own_Run p e below T (mkF m pc Ls (.int z :: rest)) (own_Ret ReturnedEndW s below C S (own_Q n0 P (some (.int (nar .boolean z))))) :=
  own_leaveW X hS hn (fun q => by rw [hret] at q; cases q) hlk hC hSl N hP fun fs hr => retN X hx (t := .boolean) hret (by simp) hd hr
theorem own_retVW {vm₁ : Vm} {n : Nat} (X : Stand p l e R (s.setVm vm₁) m args below meth c T locs cells slots) (hx : p.tables.exec = Jvm.exec) (hlk : meth.locks = false) {pc : Nat} {Ls : Array Slot} (hret : meth.sig.returnType = none) (hd : decode c.code pc = .ok (.return_, 1)) (hC : cells ≤ C) (hSl : slots ≤ S) (N : Fr n0 locs) (hP : P T.heap) (hS : s.Since vm₁ n) (hn : n ≤ T.heap.size) :
    own_Run p e below T (mkF m pc Ls []) (own_Ret ReturnedEndW s below C S (own_Q n0 P none)) :=
  own_leaveW X hS hn (fun _ => rfl) hlk hC hSl N hP fun fs hr => X.returnOut hx hret hd hr
/-- no static's home -/
def own_Pl (h : Heap) (a : Addr) : Prop := ∃ c : Cell, h[a]? = some c ∧ c.vm.isStatics = false
theorem own_plV {ty : FieldType} (F : Arv Z h a k ty n vs d) : own_Pl h a := by obtain ⟨c, A, -⟩ := F; exact ⟨c, A.1, A.plain⟩
theorem own_plE {Cn : String} (F : Exa Z h a Cn) : own_Pl h a := by obtain ⟨c, kk, h1, -, -, h4, -⟩ := F; exact ⟨c, h1, h4⟩
theorem own_keepS {h' : Heap} {ws : List Addr} {Cn fn dn : String} (F : Sta Z h Cn fn dn v) (K : Keep h h' ws) (A : ∀ a ∈ ws, own_Pl h a) : Sta Z h' Cn fn dn v := by
  obtain ⟨cf, i, kk, f, st, cell, h1, h2, h3, h4, h5, h6, h7⟩ := F
  refine ⟨cf, i, kk, f, st, cell, h1, h2, h3, h4, K.2.1 st cell h5 (fun hm => ?_), h6, h7⟩
  obtain ⟨c, q1, q2⟩ := A st hm
  cases h5.symm.trans q1; rw [q2] at h6; cases h6
/-! own: an array's component, by its Arv -/
theorem own_ldI (X : Stand p l e R s m args below meth c T locs cells slots) (hx : p.tables.exec = Jvm.exec) (hZ : Z.Warmed39 s.vm) (eT : T.heap = h) (F : Arv Z h a k .int n vs d) (q : ¬ j < 0 ∧ j < n) (u : vs.getD j.toNatClampNeg d = v) (hg : g.method = m) {rest : List Value} (hs : g.stack = .int j :: .ref a :: rest) (hd : decode c.code g.pc = .ok (.iaload, 1)) :
    ∀ t, Steps p.tables e below (T.setTop { g with pc := g.pc + 1, stack := v :: rest }) t → Steps p.tables e below (T.setTop g) t := by
  obtain ⟨cl, Ar, -, Sz, -, Hs, -⟩ := F
  exact fun t kt => X.iaload hx (by rw [eT]; exact Ar.1) (State.isArrayOf_alike hZ.alike Ar.2.1) Ar.2.2 (inb_of Sz q) (Hs.at (inb_of Sz q) u) hg hs hd t kt
theorem own_ldJ (X : Stand p l e R s m args below meth c T locs cells slots) (hx : p.tables.exec = Jvm.exec) (hZ : Z.Warmed39 s.vm) (eT : T.heap = h) (F : Arv Z h a k .long n vs d) (q : ¬ j < 0 ∧ j < n) (u : vs.getD j.toNatClampNeg d = v) (hg : g.method = m) {rest : List Value} (hs : g.stack = .int j :: .ref a :: rest) (hd : decode c.code g.pc = .ok (.laload, 1)) :
    ∀ t, Steps p.tables e below (T.setTop { g with pc := g.pc + 1, stack := v :: rest }) t → Steps p.tables e below (T.setTop g) t := by
  obtain ⟨cl, Ar, -, Sz, -, Hs, -⟩ := F
  exact fun t kt => X.laload hx (by rw [eT]; exact Ar.1) (State.isArrayOf_alike hZ.alike Ar.2.1) Ar.2.2 (inb_of Sz q) (Hs.at (inb_of Sz q) u) hg hs hd t kt
theorem own_ldB (X : Stand p l e R s m args below meth c T locs cells slots) (hx : p.tables.exec = Jvm.exec) (hZ : Z.Warmed39 s.vm) (eT : T.heap = h) (F : Arv Z h a k .byte n vs d) (q : ¬ j < 0 ∧ j < n) (u : vs.getD j.toNatClampNeg d = v) (hg : g.method = m) {rest : List Value} (hs : g.stack = .int j :: .ref a :: rest) (hd : decode c.code g.pc = .ok (.baload, 1)) :
    ∀ t, Steps p.tables e below (T.setTop { g with pc := g.pc + 1, stack := v :: rest }) t → Steps p.tables e below (T.setTop g) t := by
  obtain ⟨cl, Ar, -, Sz, -, Hs, -⟩ := F
  exact fun t kt => X.baloadBytes hx (by rw [eT]; exact Ar.1) (State.isArrayOf_alike hZ.alike Ar.2.1) Ar.2.2 (inb_of Sz q) (Hs.at (inb_of Sz q) u) hg hs hd t kt
theorem own_len (X : Stand p l e R s m args below meth c T locs cells slots) (hx : p.tables.exec = Jvm.exec) (hZ : Z.Warmed39 s.vm) (eT : T.heap = h) {ty : FieldType} (F : Arv Z h a k ty n vs d) (hg : g.method = m) {rest : List Value} (hs : g.stack = .ref a :: rest) (hd : decode c.code g.pc = .ok (.arraylength, 1)) :
    ∀ t, Steps p.tables e below (T.setTop { g with pc := g.pc + 1, stack := .int n :: rest }) t → Steps p.tables e below (T.setTop g) t := by
  obtain ⟨cl, Ar, -, Sz, Ng, -, -⟩ := F
  intro t kt
  refine X.arraylength hx (by rw [eT]; exact Ar.1) (State.isArrayOf_alike hZ.alike Ar.2.1) hg hs hd t ?_
  rw [len_of Sz Ng]; exact kt
theorem own_stI (X : Stand p l e R s m args below meth c T locs cells slots) (hx : p.tables.exec = Jvm.exec) (hZ : Z.Warmed39 s.vm) (eT : T.heap = h) (F : Arv Z h a k .int n vs d) (N : Fr n0 locs) (ge : n0 ≤ a) {x : Int32} (q : ¬ j < 0 ∧ j < n) (i : Nat) (hi : j.toNatClampNeg = i) (hl : i < vs.length) (hg : g.method = m) {rest : List Value} (hs : g.stack = .int x :: .int j :: .ref a :: rest) (hd : decode c.code g.pc = .ok (.iastore, 1)) :
    ∃ T' h' L, Stand p l e R s m args below meth c T' L cells slots ∧ T'.heap = h' ∧ Fr n0 L ∧ Wr h h' a j.toNatClampNeg (.int x) ∧ Arv Z h' a k .int n (vs.set i (.int x)) d ∧ ∀ t, Steps p.tables e below (T'.setTop { g with pc := g.pc + 1, stack := rest }) t → Steps p.tables e below (T.setTop g) t := by
  obtain ⟨cl, Ar, q1, Sz, Ng, Hs, Gs⟩ := F
  obtain ⟨T', h', X', e', W, st⟩ := stI X hx hZ eT Ar (j := j) (x := x) (inb_of Sz q) hg hs hd
  exact ⟨T', h', _, X', e', Fr.snoc X' N ge, W, Arv.set Ar q1 Sz Ng Hs Gs rfl W i hi hl, st⟩
theorem own_stJ (X : Stand p l e R s m args below meth c T locs cells slots) (hx : p.tables.exec = Jvm.exec) (hZ : Z.Warmed39 s.vm) (eT : T.heap = h) (F : Arv Z h a k .long n vs d) (N : Fr n0 locs) (ge : n0 ≤ a) {x : Int64} (q : ¬ j < 0 ∧ j < n) (i : Nat) (hi : j.toNatClampNeg = i) (hl : i < vs.length) (hg : g.method = m) {rest : List Value} (hs : g.stack = .long x :: .int j :: .ref a :: rest) (hd : decode c.code g.pc = .ok (.lastore, 1)) :
    ∃ T' h' L, Stand p l e R s m args below meth c T' L cells slots ∧ T'.heap = h' ∧ Fr n0 L ∧ Wr h h' a j.toNatClampNeg (.long x) ∧ Arv Z h' a k .long n (vs.set i (.long x)) d ∧ ∀ t, Steps p.tables e below (T'.setTop { g with pc := g.pc + 1, stack := rest }) t → Steps p.tables e below (T.setTop g) t := by
  obtain ⟨cl, Ar, q1, Sz, Ng, Hs, Gs⟩ := F
  obtain ⟨T', h', X', e', W, st⟩ := stJ X hx hZ eT Ar (j := j) (x := x) (inb_of Sz q) hg hs hd
  exact ⟨T', h', _, X', e', Fr.snoc X' N ge, W, Arv.set Ar q1 Sz Ng Hs Gs rfl W i hi hl, st⟩
theorem own_stB (X : Stand p l e R s m args below meth c T locs cells slots) (hx : p.tables.exec = Jvm.exec) (hZ : Z.Warmed39 s.vm) (eT : T.heap = h) (F : Arv Z h a k .byte n vs d) (N : Fr n0 locs) (ge : n0 ≤ a) {x : Int32} (q : ¬ j < 0 ∧ j < n) (i : Nat) (hi : j.toNatClampNeg = i) (hl : i < vs.length) (hg : g.method = m) {rest : List Value} (hs : g.stack = .int x :: .int j :: .ref a :: rest) (hd : decode c.code g.pc = .ok (.bastore, 1)) :
    ∃ T' h' L, Stand p l e R s m args below meth c T' L cells slots ∧ T'.heap = h' ∧ Fr n0 L ∧ Wr h h' a j.toNatClampNeg (.int (nar .byte x)) ∧ Arv Z h' a k .byte n (vs.set i (.int (nar .byte x))) d ∧ ∀ t, Steps p.tables e below (T'.setTop { g with pc := g.pc + 1, stack := rest }) t → Steps p.tables e below (T.setTop g) t := by
  obtain ⟨cl, Ar, q1, Sz, Ng, Hs, Gs⟩ := F
  obtain ⟨T', h', X', e', W, st⟩ := stB X hx hZ eT Ar (j := j) (x := x) (inb_of Sz q) hg hs hd
  exact ⟨T', h', _, X', e', Fr.snoc X' N ge, W, Arv.set Ar q1 Sz Ng Hs Gs (fits_nar_byte _) W i hi hl, st⟩
theorem own_ldR {Cn : String} (X : Stand p l e R s m args below meth c T locs cells slots) (hx : p.tables.exec = Jvm.exec) (hZ : Z.Warmed39 s.vm) (eT : T.heap = h) (F : Arv Z h a k (.object Cn) n vs d) (q : ¬ j < 0 ∧ j < n) (u : vs.getD j.toNatClampNeg d = v) (hg : g.method = m) {rest : List Value} (hs : g.stack = .int j :: .ref a :: rest) (hd : decode c.code g.pc = .ok (.aaload, 1)) :
    ∀ t, Steps p.tables e below (T.setTop { g with pc := g.pc + 1, stack := v :: rest }) t → Steps p.tables e below (T.setTop g) t := by
  obtain ⟨cl, Ar, -, Sz, -, Hs, -⟩ := F
  exact fun t kt => X.aaload hx (by rw [eT]; exact Ar.1) (State.isArrayOf_alike hZ.alike Ar.2.1) rfl Ar.2.2 (inb_of Sz q) (Hs.at (inb_of Sz q) u) hg hs hd t kt
theorem own_stR {Cn : String} {y : Addr} (X : Stand p l e R s m args below meth c T locs cells slots) (hx : p.tables.exec = Jvm.exec) (hZ : Z.Warmed39 s.vm) (eT : T.heap = h) (F : Arv Z h a k (.object Cn) n vs d) (O : Ovr Z k Cn) (I : Ins Z h y Cn true) (N : Fr n0 locs) (ge : n0 ≤ a) (q : ¬ j < 0 ∧ j < n) (i : Nat) (hi : j.toNatClampNeg = i) (hl : i < vs.length) (hg : g.method = m) {rest : List Value} (hs : g.stack = .ref y :: .int j :: .ref a :: rest) (hd : decode c.code g.pc = .ok (.aastore, 1)) :
    ∃ T' h' L, Stand p l e R s m args below meth c T' L cells slots ∧ T'.heap = h' ∧ Fr n0 L ∧ Wr h h' a j.toNatClampNeg (.ref y) ∧ Arv Z h' a k (.object Cn) n (vs.set i (.ref y)) d ∧ ∀ t, Steps p.tables e below (T'.setTop { g with pc := g.pc + 1, stack := rest }) t → Steps p.tables e below (T.setTop g) t := by
  obtain ⟨cl, Ar, q1, Sz, Ng, Hs, Gs⟩ := F
  obtain ⟨T', h', X', e', W, st⟩ := stR X hx hZ eT Ar (j := j) (v := .ref y) (inb_of Sz q) rfl (Sto.ofV Ar q1 O I) hg hs hd
  exact ⟨T', h', _, X', e', Fr.snoc X' N ge, W, Arv.set Ar q1 Sz Ng Hs Gs rfl W i hi hl, st⟩
end OwnRun
theorem own_selP {Z s : State} {y : MethodName} {n : Nat} {a0 args : Array Value} (hZ : Z.Warmed39 s.vm) (wi : (Cond.instantiable y.cls n).before a0 Z = true) (wp : (Cond.privateMethod y).before a0 Z = true) (wm : (Cond.instanceMethod y).before a0 Z = true) (hy : y.cls ≠ "java/lang/invoke/MethodHandle" ∧ y.cls ≠ "java/lang/invoke/VarHandle") : (Cond.selects y.cls y y).before args s = true := by
  obtain ⟨c, k, hc, hk, -, hniab, -, -⟩ := Cond.instantiable_spec (mvT (args := args) hZ wi)
  exact selects_self_of_private hc hk (Bool.or_eq_false_iff.mp hniab).1 (Cond.privateMethod_at (mvP hZ wp (args := #[]))) (mvT hZ wm) hy
theorem own_strAtoms {Z : State} {a0 : Array Value} (hw : ∀ d ∈ tables_1, d.before a0 Z = true) : ∀ a ∈ Bundle.stringAtoms, a.before a0 Z = true := by
  intro a ha
  simp only [Bundle.stringAtoms, Bundle.sN, List.mem_cons, List.not_mem_nil, or_false] at ha
  rcases ha with rfl | rfl | rfl | rfl | rfl | rfl | rfl
  · exact hw _ (List.mem_of_getElem? (i := 23) rfl)
  · exact hw _ (List.mem_of_getElem? (i := 24) rfl)
  · exact hw _ (List.mem_of_getElem? (i := 25) rfl)
  · exact hw _ (List.mem_of_getElem? (i := 26) rfl)
  · exact hw _ (List.mem_of_getElem? (i := 27) rfl)
  · exact hw _ (List.mem_of_getElem? (i := 28) rfl)
  · exact hw _ (List.mem_of_getElem? (i := 29) rfl)

theorem own_d1_0 : decode jdk_29_method_65_code 0 = .ok (.iload_n 0, 1) := by decide +kernel
theorem own_d1_1 : decode jdk_29_method_65_code 1 = .ok (.iload_n 1, 1) := by decide +kernel
theorem own_d1_2 : decode jdk_29_method_65_code 2 = .ok (.if_icmp .lt 7, 3) := by decide +kernel
theorem own_d1_5 : decode jdk_29_method_65_code 5 = .ok (.iload_n 0, 1) := by decide +kernel
theorem own_d1_6 : decode jdk_29_method_65_code 6 = .ok (.goto 4, 3) := by decide +kernel
theorem own_d1_9 : decode jdk_29_method_65_code 9 = .ok (.iload_n 1, 1) := by decide +kernel
theorem own_d1_10 : decode jdk_29_method_65_code 10 = .ok (.ireturn, 1) := by decide +kernel
def own_f1_j10_S0 (p0 : Int32) (p1 : Int32) : Int32 := (if p0 < p1 then p1 else p0)
def own_r1 (p0 : Int32) (p1 : Int32) : Int32 := (own_f1_j10_S0 p0 p1)
theorem own_ef1 (m : MethodId) (p0 : Int32) (p1 : Int32) : entryFrame m #[(.int p0), (.int p1)] 2 = (mkF m 0 #[.val (.int p0), .val (.int p1)] []) := by first | (simp [entryFrame, mkF, argsToLocals, Value.category]; done) | rfl
set_option maxRecDepth 65536 in
set_option maxHeartbeats 40000000 in
theorem rm1 (l : Launch) (Z : State) (av0 : Array Value) (hw : ∀ d ∈ tables_1, d.before av0 Z = true) (ws : List Jvm.Cond) (p0 : Int32) (p1 : Int32) (h0 : Heap) (n0 : Nat) (Z0 : n0 ≤ h0.size) :
    MetFree l (⟨"java/lang/Math", "max", "(II)I"⟩ : MethodName) (head1 (Jvm.Cond.code (⟨"java/lang/Math", "max", "(II)I"⟩ : MethodName) jdk_29_method_65_code 2 (some .int) :: ws) ({ frames := 0, cells := 0, slots := 0, locals := 0 } : Room)) (fun a U => a = #[(.int p0), (.int p1)] ∧ Z.Warmed39 U.vm ∧ U.heap = h0) (fun _ _ _ _ _ => True) (fun _ U o U' => ∃ v L, o = .returned v ∧ own_Q n0 (fun h => h = h0) (some (.int (own_r1 p0 p1))) v U'.heap L ∧ FrameEnd U o U' L ({ frames := 0, cells := 0, slots := 0, locals := 0 } : Room).cells ({ frames := 0, cells := 0, slots := 0, locals := 0 } : Room).slots) := by
  refine MetFree.of_bodySF (Jvm.Free.JP.mathPlain rfl (by decide +kernel)) hisR ?_
  intro p e s m args below meth c s₁ Bd hml0 hP hK
  obtain ⟨rfl, hZ, hh⟩ := hP
  have hx := Bd.exec
  have hby := Bd.bytes
  have hml : c.maxLocals = 2 := hml0
  have hown : s.vm.findClass "java/lang/Math" = some m.cls := findClass_of_methodNamed Bd.named
  have hnm := (name_of_methodNamed Bd.named Bd.method).1
  have hret := Bd.returns
  have hlk : meth.locks = false := BodyLoose.notSynchronized Bd
  have X0 : Stand p l e ({ frames := 0, cells := 0, slots := 0, locals := 0 } : Room) s m #[(.int p0), (.int p1)] below meth c s₁ [] 0 0 := Stand.of_body Bd
  have e0 : s₁.heap = h0 := by rw [← hh, Bd.state]; rfl
  have N0 := Fr.nil n0
  clear Bd hh hK
  refine own_fin ?_
  refine own_entry (own_ef1 m p0 p1) ?_
  show own_Run p e below s₁ _ (own_Ret _ s below _ _ (own_Q n0 _ (some (.int (own_f1_j10_S0 p0 p1)))))
  show own_Run p e below s₁ (mkF m 0 #[.val (.int p0), .val (.int p1)] []) _
  refine own_step (fun t k => XS.iloadN X0.here hx rfl (hb hby own_d1_0) rfl  k) ?_
  show own_Run p e below s₁ (mkF m 1 #[.val (.int p0), .val (.int p1)] [(.int p0)]) _
  refine own_step (fun t k => XS.iloadN X0.here hx rfl (hb hby own_d1_1) rfl  k) ?_
  show own_Run p e below s₁ (mkF m 2 #[.val (.int p0), .val (.int p1)] [(.int p1), (.int p0)]) _
  obtain ⟨_, st3, rfl⟩ : own_Run p e below s₁ (mkF m 2 #[.val (.int p0), .val (.int p1)] [(.int p1), (.int p0)]) (fun t => t = s₁.setTop (mkF m 10 #[.val (.int p0), .val (.int p1)] [(.int (own_f1_j10_S0 p0 p1))])) := by
    by_cases hc4 : p0 < p1
    · refine own_step (fun t k => XS.icmpYes X0.here hx rfl (pc0 := 2) (pc' := 9) rfl (hb hby own_d1_2) rfl (tlt hc4).1 (by decide) (by decide) k) ?_
      show own_Run p e below s₁ (mkF m 9 #[.val (.int p0), .val (.int p1)] []) _
      refine own_step (fun t k => XS.iloadN X0.here hx rfl (hb hby own_d1_9) rfl  k) ?_
      show own_Run p e below s₁ (mkF m 10 #[.val (.int p0), .val (.int p1)] [(.int p1)]) _
      have hj0 : (own_f1_j10_S0 p0 p1) = p1 := (if_pos hc4)
      exact own_here (by rw [hj0])
    · refine own_step (fun t k => XS.icmpNo X0.here hx rfl (hb hby own_d1_2) rfl (flt hc4).1 k) ?_
      show own_Run p e below s₁ (mkF m 5 #[.val (.int p0), .val (.int p1)] []) _
      refine own_step (fun t k => XS.iloadN X0.here hx rfl (hb hby own_d1_5) rfl  k) ?_
      show own_Run p e below s₁ (mkF m 6 #[.val (.int p0), .val (.int p1)] [(.int p0)]) _
      refine own_step (fun t k => XS.goto X0.here hx rfl (pc0 := 6) (pc' := 10) rfl (hb hby own_d1_6) (by decide) (by decide) k) ?_
      show own_Run p e below s₁ (mkF m 10 #[.val (.int p0), .val (.int p1)] [(.int p0)]) _
      have hj0 : (own_f1_j10_S0 p0 p1) = p0 := (if_neg hc4)
      exact own_here (by rw [hj0])
  refine own_tr st3 ?_
  show own_Run p e below s₁ (mkF m 10 #[.val (.int p0), .val (.int p1)] [(.int (own_f1_j10_S0 p0 p1))]) _
  exact own_retI X0 hx hlk hret (hb hby own_d1_10) (by decide) (by decide) N0 e0
theorem own_pn0 : plainName "java/lang/Record" = true := by first | (simp [plainName, overriddenIn]; done) | decide +kernel
theorem own_d3_0 : decode jdk_30_method_1_code 0 = .ok (.aload_n 0, 1) := by decide +kernel
theorem own_d3_1 : decode jdk_30_method_1_code 1 = .ok (.invokespecial 1, 3) := by decide +kernel
theorem own_d3_4 : decode jdk_30_method_1_code 4 = .ok (.return_, 1) := by decide +kernel
theorem own_ef3 (m : MethodId) (a0 : Addr) : entryFrame m #[(.ref a0)] 1 = (mkF m 0 #[.val (.ref a0)] []) := by first | (simp [entryFrame, mkF, argsToLocals, Value.category]; done) | rfl
set_option maxRecDepth 65536 in
set_option maxHeartbeats 40000000 in
theorem rm3 (l : Launch) (Z : State) (av0 : Array Value) (hw : ∀ d ∈ tables_1, d.before av0 Z = true) (ws : List Jvm.Cond) (a0 : Addr) (h0 : Heap) (n0 : Nat) (Z0 : n0 ≤ h0.size) :
    MetFree l (⟨"java/lang/Record", "<init>", "()V"⟩ : MethodName) (head1 (Jvm.Cond.code (⟨"java/lang/Record", "<init>", "()V"⟩ : MethodName) jdk_30_method_1_code 1 none :: ws) ({ frames := 1, cells := 0, slots := 0, locals := 12 } : Room)) (fun a U => a = #[(.ref a0)] ∧ Z.Warmed39 U.vm ∧ U.heap = h0) (fun _ _ _ _ _ => True) (fun _ U o U' => ∃ v L, o = .returned v ∧ own_Q n0 (fun h => h = h0) none v U'.heap L ∧ FrameEnd U o U' L ({ frames := 1, cells := 0, slots := 0, locals := 12 } : Room).cells ({ frames := 1, cells := 0, slots := 0, locals := 12 } : Room).slots) := by
  refine MetFree.of_bodySF (plainFor_of_name own_pn0) hisR ?_
  intro p e s m args below meth c s₁ Bd hml0 hP hK
  obtain ⟨rfl, hZ, hh⟩ := hP
  have hx := Bd.exec
  have hby := Bd.bytes
  have hml : c.maxLocals = 1 := hml0
  have hown : s.vm.findClass "java/lang/Record" = some m.cls := findClass_of_methodNamed Bd.named
  have hnm := (name_of_methodNamed Bd.named Bd.method).1
  have hret := Bd.returns
  have hlk : meth.locks = false := BodyLoose.notSynchronized Bd
  have X0 : Stand p l e ({ frames := 1, cells := 0, slots := 0, locals := 12 } : Room) s m #[(.ref a0)] below meth c s₁ [] 0 0 := Stand.of_body Bd
  have e0 : s₁.heap = h0 := by rw [← hh, Bd.state]; rfl
  have N0 := Fr.nil n0
  clear Bd hh hK
  refine own_fin ?_
  refine own_entry (own_ef3 m a0) ?_
  show own_Run p e below s₁ (mkF m 0 #[.val (.ref a0)] []) _
  refine own_step (fun t k => XS.aloadN X0.here hx rfl (hb hby own_d3_0) rfl rfl k) ?_
  show own_Run p e below s₁ (mkF m 1 #[.val (.ref a0)] [(.ref a0)]) _
  obtain ⟨T2, X2, e2, st2⟩ := initO X0 hx hZ hown (hw _ (List.mem_of_getElem? (i := 19) rfl)) (hw _ (List.mem_of_getElem? (i := 20) rfl)) (hw _ (List.mem_of_getElem? (i := 21) rfl)) e0 (g := (mkF m 1 #[.val (.ref a0)] [(.ref a0)])) rfl (by rw [hml]; rfl) rfl (hb hby own_d3_1) (by decide) (W := 0) (by show 2 * 0 + _ ≤ _; exact Nat.le_of_eq rfl) (by decide)
  refine own_step st2 ?_
  show own_Run p e below T2 (mkF m 4 #[.val (.ref a0)] []) _
  exact own_retV X2 hx hlk hret (hb hby own_d3_4) (by decide) (by decide) N0 e2
theorem own_pn1 : plainName "java/util/Objects" = true := by first | (simp [plainName, overriddenIn]; done) | decide +kernel
theorem own_d5_0 : decode jdk_31_method_11_code 0 = .ok (.aload_n 0, 1) := by decide +kernel
theorem own_d5_1 : decode jdk_31_method_11_code 1 = .ok (.ifnonnull 12, 3) := by decide +kernel
theorem own_d5_13 : decode jdk_31_method_11_code 13 = .ok (.aload_n 0, 1) := by decide +kernel
theorem own_d5_14 : decode jdk_31_method_11_code 14 = .ok (.areturn, 1) := by decide +kernel
theorem own_ef5 (m : MethodId) (a0 : Addr) (a1 : Addr) : entryFrame m #[(.ref a0), (.ref a1)] 2 = (mkF m 0 #[.val (.ref a0), .val (.ref a1)] []) := by first | (simp [entryFrame, mkF, argsToLocals, Value.category]; done) | rfl
set_option maxRecDepth 65536 in
set_option maxHeartbeats 40000000 in
theorem rm5 (l : Launch) (Z : State) (av0 : Array Value) (hw : ∀ d ∈ tables_1, d.before av0 Z = true) (ws : List Jvm.Cond) (a0 : Addr) (a1 : Addr) (h0 : Heap) (n0 : Nat) (Z0 : n0 ≤ h0.size) :
    MetFree l (⟨"java/util/Objects", "requireNonNull", "(Ljava/lang/Object;Ljava/lang/String;)Ljava/lang/Object;"⟩ : MethodName) (head1 (Jvm.Cond.code (⟨"java/util/Objects", "requireNonNull", "(Ljava/lang/Object;Ljava/lang/String;)Ljava/lang/Object;"⟩ : MethodName) jdk_31_method_11_code 2 (some (.object "java/lang/Object")) :: ws) ({ frames := 0, cells := 0, slots := 0, locals := 0 } : Room)) (fun a U => a = #[(.ref a0), (.ref a1)] ∧ Z.Warmed39 U.vm ∧ U.heap = h0) (fun _ _ _ _ _ => True) (fun _ U o U' => ∃ v L, o = .returned v ∧ own_Q n0 (fun h => h = h0) (some (.ref a0)) v U'.heap L ∧ FrameEnd U o U' L ({ frames := 0, cells := 0, slots := 0, locals := 0 } : Room).cells ({ frames := 0, cells := 0, slots := 0, locals := 0 } : Room).slots) := by
  refine MetFree.of_bodySF (plainFor_of_name own_pn1) hisR ?_
  intro p e s m args below meth c s₁ Bd hml0 hP hK
  obtain ⟨rfl, hZ, hh⟩ := hP
  have hx := Bd.exec
  have hby := Bd.bytes
  have hml : c.maxLocals = 2 := hml0
  have hown : s.vm.findClass "java/util/Objects" = some m.cls := findClass_of_methodNamed Bd.named
  have hnm := (name_of_methodNamed Bd.named Bd.method).1
  have hret := Bd.returns
  have hlk : meth.locks = false := BodyLoose.notSynchronized Bd
  have X0 : Stand p l e ({ frames := 0, cells := 0, slots := 0, locals := 0 } : Room) s m #[(.ref a0), (.ref a1)] below meth c s₁ [] 0 0 := Stand.of_body Bd
  have e0 : s₁.heap = h0 := by rw [← hh, Bd.state]; rfl
  have N0 := Fr.nil n0
  clear Bd hh hK
  refine own_fin ?_
  refine own_entry (own_ef5 m a0 a1) ?_
  show own_Run p e below s₁ (mkF m 0 #[.val (.ref a0), .val (.ref a1)] []) _
  refine own_step (fun t k => XS.aloadN X0.here hx rfl (hb hby own_d5_0) rfl rfl k) ?_
  show own_Run p e below s₁ (mkF m 1 #[.val (.ref a0), .val (.ref a1)] [(.ref a0)]) _
  refine own_step (fun t k => XS.ifnonnullYes X0.here hx rfl (pc0 := 1) (pc' := 13) rfl (hb hby own_d5_1) rfl (by decide) (by decide) k) ?_
  show own_Run p e below s₁ (mkF m 13 #[.val (.ref a0), .val (.ref a1)] []) _
  refine own_step (fun t k => XS.aloadN X0.here hx rfl (hb hby own_d5_13) rfl rfl k) ?_
  show own_Run p e below s₁ (mkF m 14 #[.val (.ref a0), .val (.ref a1)] [(.ref a0)]) _
  exact own_retA X0 hx hlk hret rfl rfl (hb hby own_d5_14) (by decide) (by decide) N0 e0
theorem own_pd14 : parseMethodDescriptor "()V" = some ⟨[], none⟩ := by decide +kernel
theorem own_pd15 : parseMethodDescriptor "(Ljava/lang/Object;Ljava/lang/String;)Ljava/lang/Object;" = some ⟨[(.object "java/lang/Object"), (.object "java/lang/String")], some (.object "java/lang/Object")⟩ := by decide +kernel
theorem own_pn2 : plainName "com/example/kuva/kuva/camera/StreamSizes" = true := by first | (simp [plainName, overriddenIn]; done) | decide +kernel
theorem own_d2_0 : decode prog_7_method_1_code 0 = .ok (.aload_n 0, 1) := by decide +kernel
theorem own_d2_1 : decode prog_7_method_1_code 1 = .ok (.invokespecial 1, 3) := by decide +kernel
theorem own_d2_4 : decode prog_7_method_1_code 4 = .ok (.aload_n 1, 1) := by decide +kernel
theorem own_d2_5 : decode prog_7_method_1_code 5 = .ok (.ldc 7, 2) := by decide +kernel
theorem own_d2_7 : decode prog_7_method_1_code 7 = .ok (.invokestatic 9, 3) := by decide +kernel
theorem own_d2_10 : decode prog_7_method_1_code 10 = .ok (.pop, 1) := by decide +kernel
theorem own_d2_11 : decode prog_7_method_1_code 11 = .ok (.iload 6, 2) := by decide +kernel
theorem own_d2_13 : decode prog_7_method_1_code 13 = .ok (.iconst 1, 1) := by decide +kernel
theorem own_d2_14 : decode prog_7_method_1_code 14 = .ok (.if_icmp .ge 18, 3) := by decide +kernel
theorem own_d2_32 : decode prog_7_method_1_code 32 = .ok (.aload_n 0, 1) := by decide +kernel
theorem own_d2_33 : decode prog_7_method_1_code 33 = .ok (.aload_n 1, 1) := by decide +kernel
theorem own_d2_34 : decode prog_7_method_1_code 34 = .ok (.putfield 24, 3) := by decide +kernel
theorem own_d2_37 : decode prog_7_method_1_code 37 = .ok (.aload_n 0, 1) := by decide +kernel
theorem own_d2_38 : decode prog_7_method_1_code 38 = .ok (.iload_n 2, 1) := by decide +kernel
theorem own_d2_39 : decode prog_7_method_1_code 39 = .ok (.putfield 29, 3) := by decide +kernel
theorem own_d2_42 : decode prog_7_method_1_code 42 = .ok (.aload_n 0, 1) := by decide +kernel
theorem own_d2_43 : decode prog_7_method_1_code 43 = .ok (.iload_n 3, 1) := by decide +kernel
theorem own_d2_44 : decode prog_7_method_1_code 44 = .ok (.putfield 33, 3) := by decide +kernel
theorem own_d2_47 : decode prog_7_method_1_code 47 = .ok (.aload_n 0, 1) := by decide +kernel
theorem own_d2_48 : decode prog_7_method_1_code 48 = .ok (.iload 4, 2) := by decide +kernel
theorem own_d2_50 : decode prog_7_method_1_code 50 = .ok (.putfield 36, 3) := by decide +kernel
theorem own_d2_53 : decode prog_7_method_1_code 53 = .ok (.aload_n 0, 1) := by decide +kernel
theorem own_d2_54 : decode prog_7_method_1_code 54 = .ok (.iload 5, 2) := by decide +kernel
theorem own_d2_56 : decode prog_7_method_1_code 56 = .ok (.putfield 39, 3) := by decide +kernel
theorem own_d2_59 : decode prog_7_method_1_code 59 = .ok (.aload_n 0, 1) := by decide +kernel
theorem own_d2_60 : decode prog_7_method_1_code 60 = .ok (.iload 6, 2) := by decide +kernel
theorem own_d2_62 : decode prog_7_method_1_code 62 = .ok (.putfield 42, 3) := by decide +kernel
theorem own_d2_65 : decode prog_7_method_1_code 65 = .ok (.return_, 1) := by decide +kernel
theorem own_ef2 (m : MethodId) (a0 : Addr) (a1 : Addr) (p2 : Int32) (p3 : Int32) (p4 : Int32) (p5 : Int32) (p6 : Int32) : entryFrame m #[(.ref a0), (.ref a1), (.int p2), (.int p3), (.int p4), (.int p5), (.int p6)] 7 = (mkF m 0 #[.val (.ref a0), .val (.ref a1), .val (.int p2), .val (.int p3), .val (.int p4), .val (.int p5), .val (.int p6)] []) := by first | (simp [entryFrame, mkF, argsToLocals, Value.category]; done) | rfl
set_option maxRecDepth 65536 in
set_option maxHeartbeats 40000000 in
theorem rm2 (l : Launch) (Z : State) (av0 : Array Value) (hw : ∀ d ∈ tables_1, d.before av0 Z = true) (ws : List Jvm.Cond) (a0 : Addr) (a1 : Addr) (p2 : Int32) (p3 : Int32) (p4 : Int32) (p5 : Int32) (p6 : Int32) (h0 : Heap) (n0 : Nat) (Z0 : n0 ≤ h0.size) (g0 : n0 ≤ a0) (hs : ¬ p6 < (1 : Int32)) (Ff : Fld Z h0 a0 "com/example/kuva/kuva/camera/StreamSizes" "format" "Lcom/example/kuva/kuva/camera/ImageFormat;" .null) (Fi0 : Fld Z h0 a0 "com/example/kuva/kuva/camera/StreamSizes" "minWidth" "I" (.int (0 : Int32))) (Fi1 : Fld Z h0 a0 "com/example/kuva/kuva/camera/StreamSizes" "maxWidth" "I" (.int (0 : Int32))) (Fi2 : Fld Z h0 a0 "com/example/kuva/kuva/camera/StreamSizes" "minHeight" "I" (.int (0 : Int32))) (Fi3 : Fld Z h0 a0 "com/example/kuva/kuva/camera/StreamSizes" "maxHeight" "I" (.int (0 : Int32))) (Fi4 : Fld Z h0 a0 "com/example/kuva/kuva/camera/StreamSizes" "step" "I" (.int (0 : Int32))) (E0 : Exa Z h0 a0 "com/example/kuva/kuva/camera/StreamSizes") :
    MetFree l (⟨"com/example/kuva/kuva/camera/StreamSizes", "<init>", "(Lcom/example/kuva/kuva/camera/ImageFormat;IIIII)V"⟩ : MethodName) (head1 (Jvm.Cond.code (⟨"com/example/kuva/kuva/camera/StreamSizes", "<init>", "(Lcom/example/kuva/kuva/camera/ImageFormat;IIIII)V"⟩ : MethodName) prog_7_method_1_code 7 none :: ws) ({ frames := 2, cells := 2, slots := 28, locals := 24 } : Room)) (fun a U => a = #[(.ref a0), (.ref a1), (.int p2), (.int p3), (.int p4), (.int p5), (.int p6)] ∧ Z.Warmed39 U.vm ∧ U.heap = h0) (fun _ _ _ _ _ => True) (fun _ U o U' => ∃ v L, o = .returned v ∧ own_Q n0 (fun h => Keep h0 h [a0] ∧ Exa Z h a0 "com/example/kuva/kuva/camera/StreamSizes" ∧ Fld Z h a0 "com/example/kuva/kuva/camera/StreamSizes" "minWidth" "I" (.int p2) ∧ Fld Z h a0 "com/example/kuva/kuva/camera/StreamSizes" "maxWidth" "I" (.int p3) ∧ Fld Z h a0 "com/example/kuva/kuva/camera/StreamSizes" "minHeight" "I" (.int p4) ∧ Fld Z h a0 "com/example/kuva/kuva/camera/StreamSizes" "maxHeight" "I" (.int p5) ∧ Fld Z h a0 "com/example/kuva/kuva/camera/StreamSizes" "step" "I" (.int p6)) none v U'.heap L ∧ ReturnedEndW U o U' L ({ frames := 2, cells := 2, slots := 28, locals := 24 } : Room).cells ({ frames := 2, cells := 2, slots := 28, locals := 24 } : Room).slots) := by
  refine MetFree.of_bodySF (plainFor_of_name own_pn2) hisR ?_
  intro p e s m args below meth c s₁ Bd hml0 hP hK
  obtain ⟨rfl, hZ, hh⟩ := hP
  have hx := Bd.exec
  have hby := Bd.bytes
  have hml : c.maxLocals = 7 := hml0
  have hown : s.vm.findClass "com/example/kuva/kuva/camera/StreamSizes" = some m.cls := findClass_of_methodNamed Bd.named
  have hnm := (name_of_methodNamed Bd.named Bd.method).1
  have hret := Bd.returns
  have hlk : meth.locks = false := BodyLoose.notSynchronized Bd
  have X0 : Stand p l e ({ frames := 2, cells := 2, slots := 28, locals := 24 } : Room) s m #[(.ref a0), (.ref a1), (.int p2), (.int p3), (.int p4), (.int p5), (.int p6)] below meth c s₁ [] 0 0 := Stand.of_body Bd
  have e0 : s₁.heap = h0 := by rw [← hh, Bd.state]; rfl
  have N0 := Fr.nil n0
  clear Bd hh hK
  refine own_fin ?_
  refine own_entry (own_ef2 m a0 a1 p2 p3 p4 p5 p6) ?_
  show own_Run p e below s₁ (mkF m 0 #[.val (.ref a0), .val (.ref a1), .val (.int p2), .val (.int p3), .val (.int p4), .val (.int p5), .val (.int p6)] []) _
  refine own_step (fun t k => XS.aloadN X0.here hx rfl (hb hby own_d2_0) rfl rfl k) ?_
  show own_Run p e below s₁ (mkF m 1 #[.val (.ref a0), .val (.ref a1), .val (.int p2), .val (.int p3), .val (.int p4), .val (.int p5), .val (.int p6)] [(.ref a0)]) _
  obtain ⟨_, _, ⟨T59, L59, kq59, nq59⟩, -, X59, ⟨Lc59, hQ59, lq59, yq59, zq59⟩, st59⟩ := X0.specialBack hx (y := (⟨"java/lang/Record", "<init>", "()V"⟩ : MethodName)) rfl hown (mvT hZ (hw _ (List.mem_of_getElem? (i := 14) rfl))) (mvT hZ (hw _ (List.mem_of_getElem? (i := 15) rfl))) (mvT hZ (hw _ (List.mem_of_getElem? (i := 18) rfl))) (by decide) (backOf (W := 0) (rm3 l Z av0 hw [] a0 h0 n0 Z0 ) hZ (hw _ (List.mem_of_getElem? (i := 18) rfl)) (hw _ (List.mem_of_getElem? (i := 17) rfl)) (by decide) (by decide)) (g := (mkF m 1 #[.val (.ref a0), .val (.ref a1), .val (.int p2), .val (.int p3), .val (.int p4), .val (.int p5), .val (.int p6)] [(.ref a0)])) rfl (by rw [hml]; rfl) (Steps.refl _) (a := a0) (argsL := []) (rest := []) (lenOf own_pd14 rfl) rfl (by show 2 * 0 + _ ≤ _; exact Nat.le_of_eq rfl) (hb hby own_d2_1) (fun _ _ => ⟨rfl, e0, (by decide : 0 + 0 ≤ _), (by decide : 0 + 0 ≤ _)⟩)
  dsimp only [Pt.U, Pt.locs, Pt.cells, Pt.slots] at X59 lq59 yq59 zq59 st59 hQ59
  subst lq59 yq59 zq59
  obtain ⟨rfl, N59q, e59⟩ := hQ59
  have N59 := Fr.app N0 N59q
  refine own_tr st59 ?_
  show own_Run p e below T59 (mkF m 4 #[.val (.ref a0), .val (.ref a1), .val (.int p2), .val (.int p3), .val (.int p4), .val (.int p5), .val (.int p6)] []) _
  refine own_step (fun t k => XS.aloadN X59.here hx rfl (hb hby own_d2_4) rfl rfl k) ?_
  show own_Run p e below T59 (mkF m 5 #[.val (.ref a0), .val (.ref a1), .val (.int p2), .val (.int p3), .val (.int p4), .val (.int p5), .val (.int p6)] [(.ref a1)]) _
  obtain ⟨a60, T60, h60, kk60, X60, e60, E60, hS60, sk60, hZ60, hown60, st60⟩ := ldcS (s := s) (vm0 := s.vm) X59 hx hZ hown (hw _ (List.mem_of_getElem? (i := 22) rfl)) (own_strAtoms hw) e59 ((State.WarmedH.refl s).since 0) (Nat.zero_le _) (g := (mkF m 5 #[.val (.ref a0), .val (.ref a1), .val (.int p2), .val (.int p3), .val (.int p4), .val (.int p5), .val (.int p6)] [(.ref a1)])) rfl (hb hby own_d2_5) (n := 24) (by decide) (by decide) (by decide) (by decide)
  have hZ := hZ60
  have hown := hown60
  have f61 := Fld.ext E60 Ff
  have f62 := Fld.ext E60 Fi0
  have f63 := Fld.ext E60 Fi1
  have f64 := Fld.ext E60 Fi2
  have f65 := Fld.ext E60 Fi3
  have f66 := Fld.ext E60 Fi4
  have f67 := Exa.ext E60 E0
  have Zn60 : n0 ≤ h60.size := Nat.le_trans Z0 E60.1
  have K60 : Keep h0 h60 [a0] := (Keep.refl h0 [a0]).ext E60
  refine own_step st60 ?_
  show own_Run p e below T60 (mkF m 7 #[.val (.ref a0), .val (.ref a1), .val (.int p2), .val (.int p3), .val (.int p4), .val (.int p5), .val (.int p6)] [(.ref a60), (.ref a1)]) _
  obtain ⟨_, _, ⟨T68, L68, kq68, nq68⟩, -, X68, ⟨Lc68, hQ68, lq68, yq68, zq68⟩, st68⟩ := Jvm.LawKit.callS X60 hx (y := (⟨"java/util/Objects", "requireNonNull", "(Ljava/lang/Object;Ljava/lang/String;)Ljava/lang/Object;"⟩ : MethodName)) hown (mvT hZ (hw _ (List.mem_of_getElem? (i := 30) rfl))) (mvT hZ (hw _ (List.mem_of_getElem? (i := 31) rfl))) (mvT hZ (hw _ (List.mem_of_getElem? (i := 32) rfl))) (mvT hZ (hw _ (List.mem_of_getElem? (i := 33) rfl))) (by decide) (backOf (W := 0) (rm5 l Z av0 hw [] a1 a60 h60 n0 Zn60 ) hZ (hw _ (List.mem_of_getElem? (i := 33) rfl)) (hw _ (List.mem_of_getElem? (i := 32) rfl)) (by decide) (by decide)) (g := (mkF m 7 #[.val (.ref a0), .val (.ref a1), .val (.int p2), .val (.int p3), .val (.int p4), .val (.int p5), .val (.int p6)] [(.ref a60), (.ref a1)])) rfl (by rw [hml]; rfl) (argsL := [(.ref a1), (.ref a60)]) (rest := []) (lenOf own_pd15 rfl) rfl (by show 2 * 0 + _ ≤ _; exact Nat.le_of_eq rfl) (hb hby own_d2_7) (fun _ _ => ⟨rfl, e60, (by decide : 2 + 0 ≤ _), (by decide : 28 + 0 ≤ _)⟩)
  dsimp only [Pt.U, Pt.locs, Pt.cells, Pt.slots] at X68 lq68 yq68 zq68 st68 hQ68
  subst lq68 yq68 zq68
  obtain ⟨rfl, N68q, e68⟩ := hQ68
  have N68 := Fr.app N59 N68q
  refine own_step st68 ?_
  show own_Run p e below T68 (mkF m 10 #[.val (.ref a0), .val (.ref a1), .val (.int p2), .val (.int p3), .val (.int p4), .val (.int p5), .val (.int p6)] [(.ref a1)]) _
  refine own_step (fun t k => XS.pop X68.here hx rfl (hb hby own_d2_10) rfl rfl k) ?_
  show own_Run p e below T68 (mkF m 11 #[.val (.ref a0), .val (.ref a1), .val (.int p2), .val (.int p3), .val (.int p4), .val (.int p5), .val (.int p6)] []) _
  refine own_step (fun t k => XS.iload X68.here hx rfl (hb hby own_d2_11) rfl  k) ?_
  show own_Run p e below T68 (mkF m 13 #[.val (.ref a0), .val (.ref a1), .val (.int p2), .val (.int p3), .val (.int p4), .val (.int p5), .val (.int p6)] [(.int p6)]) _
  refine own_step (fun t k => XS.iconst X68.here hx rfl (hb hby own_d2_13) k) ?_
  show own_Run p e below T68 (mkF m 14 #[.val (.ref a0), .val (.ref a1), .val (.int p2), .val (.int p3), .val (.int p4), .val (.int p5), .val (.int p6)] [(.int (1 : Int32)), (.int p6)]) _
  refine own_step (fun t k => XS.icmpYes X68.here hx rfl (pc0 := 14) (pc' := 32) rfl (hb hby own_d2_14) rfl (flt hs).2.1 (by decide) (by decide) k) ?_
  show own_Run p e below T68 (mkF m 32 #[.val (.ref a0), .val (.ref a1), .val (.int p2), .val (.int p3), .val (.int p4), .val (.int p5), .val (.int p6)] []) _
  refine own_step (fun t k => XS.aloadN X68.here hx rfl (hb hby own_d2_32) rfl rfl k) ?_
  show own_Run p e below T68 (mkF m 33 #[.val (.ref a0), .val (.ref a1), .val (.int p2), .val (.int p3), .val (.int p4), .val (.int p5), .val (.int p6)] [(.ref a0)]) _
  refine own_step (fun t k => XS.aloadN X68.here hx rfl (hb hby own_d2_33) rfl rfl k) ?_
  show own_Run p e below T68 (mkF m 34 #[.val (.ref a0), .val (.ref a1), .val (.int p2), .val (.int p3), .val (.int p4), .val (.int p5), .val (.int p6)] [(.ref a1), (.ref a0)]) _
  obtain ⟨T69, h69, X69, e69, W69, st69⟩ := putF X68 hx hZ hown (host := "") (Or.inl (hw _ (List.mem_of_getElem? (i := 34) rfl))) Via.refl e68 f61 f67 (Or.inr ⟨(hw _ (List.mem_of_getElem? (i := 35) rfl)), rfl, hnm⟩) (hw _ (List.mem_of_getElem? (i := 9) rfl)) (ty := (.object "com/example/kuva/kuva/camera/ImageFormat")) (by decide) rfl rfl (g := (mkF m 34 #[.val (.ref a0), .val (.ref a1), .val (.int p2), .val (.int p3), .val (.int p4), .val (.int p5), .val (.int p6)] [(.ref a1), (.ref a0)])) rfl rfl (hb hby own_d2_34)
  have f70 := f61.same W69
  have f71 := f62.other W69 (Or.inr (slot_ne (Or.inr (hw _ (List.mem_of_getElem? (i := 37) rfl))) (Or.inr (hw _ (List.mem_of_getElem? (i := 35) rfl))) (by decide) (t := .int) (t' := (.object "com/example/kuva/kuva/camera/ImageFormat")) (by decide) (by decide)))
  have f72 := f63.other W69 (Or.inr (slot_ne (Or.inr (hw _ (List.mem_of_getElem? (i := 39) rfl))) (Or.inr (hw _ (List.mem_of_getElem? (i := 35) rfl))) (by decide) (t := .int) (t' := (.object "com/example/kuva/kuva/camera/ImageFormat")) (by decide) (by decide)))
  have f73 := f64.other W69 (Or.inr (slot_ne (Or.inr (hw _ (List.mem_of_getElem? (i := 41) rfl))) (Or.inr (hw _ (List.mem_of_getElem? (i := 35) rfl))) (by decide) (t := .int) (t' := (.object "com/example/kuva/kuva/camera/ImageFormat")) (by decide) (by decide)))
  have f74 := f65.other W69 (Or.inr (slot_ne (Or.inr (hw _ (List.mem_of_getElem? (i := 43) rfl))) (Or.inr (hw _ (List.mem_of_getElem? (i := 35) rfl))) (by decide) (t := .int) (t' := (.object "com/example/kuva/kuva/camera/ImageFormat")) (by decide) (by decide)))
  have f75 := f66.other W69 (Or.inr (slot_ne (Or.inr (hw _ (List.mem_of_getElem? (i := 45) rfl))) (Or.inr (hw _ (List.mem_of_getElem? (i := 35) rfl))) (by decide) (t := .int) (t' := (.object "com/example/kuva/kuva/camera/ImageFormat")) (by decide) (by decide)))
  have f76 := f67.wr W69
  have N69 := Fr.snoc X69 N68 g0
  have Zn69 : n0 ≤ h69.size := Nat.le_trans Zn60 (Keep.of_wr W69).1
  have K69 : Keep h0 h69 [a0] := K60.wr W69 (Or.inl (List.mem_of_getElem? (i := 0) rfl))
  have sk69 := Nat.le_trans sk60 (Keep.of_wr W69).1
  refine own_step st69 ?_
  show own_Run p e below T69 (mkF m 37 #[.val (.ref a0), .val (.ref a1), .val (.int p2), .val (.int p3), .val (.int p4), .val (.int p5), .val (.int p6)] []) _
  refine own_step (fun t k => XS.aloadN X69.here hx rfl (hb hby own_d2_37) rfl rfl k) ?_
  show own_Run p e below T69 (mkF m 38 #[.val (.ref a0), .val (.ref a1), .val (.int p2), .val (.int p3), .val (.int p4), .val (.int p5), .val (.int p6)] [(.ref a0)]) _
  refine own_step (fun t k => XS.iloadN X69.here hx rfl (hb hby own_d2_38) rfl  k) ?_
  show own_Run p e below T69 (mkF m 39 #[.val (.ref a0), .val (.ref a1), .val (.int p2), .val (.int p3), .val (.int p4), .val (.int p5), .val (.int p6)] [(.int p2), (.ref a0)]) _
  obtain ⟨T77, h77, X77, e77, W77, st77⟩ := putF X69 hx hZ hown (host := "") (Or.inl (hw _ (List.mem_of_getElem? (i := 36) rfl))) Via.refl e69 f71 f76 (Or.inr ⟨(hw _ (List.mem_of_getElem? (i := 37) rfl)), rfl, hnm⟩) (hw _ (List.mem_of_getElem? (i := 9) rfl)) (ty := .int) (by decide) rfl rfl (g := (mkF m 39 #[.val (.ref a0), .val (.ref a1), .val (.int p2), .val (.int p3), .val (.int p4), .val (.int p5), .val (.int p6)] [(.int p2), (.ref a0)])) rfl rfl (hb hby own_d2_39)
  have f78 := f70.other W77 (Or.inr (slot_ne (Or.inr (hw _ (List.mem_of_getElem? (i := 35) rfl))) (Or.inr (hw _ (List.mem_of_getElem? (i := 37) rfl))) (by decide) (t := (.object "com/example/kuva/kuva/camera/ImageFormat")) (t' := .int) (by decide) (by decide)))
  have f79 := f71.same W77
  have f80 := f72.other W77 (Or.inr (slot_ne (Or.inr (hw _ (List.mem_of_getElem? (i := 39) rfl))) (Or.inr (hw _ (List.mem_of_getElem? (i := 37) rfl))) (by decide) (t := .int) (t' := .int) (by decide) (by decide)))
  have f81 := f73.other W77 (Or.inr (slot_ne (Or.inr (hw _ (List.mem_of_getElem? (i := 41) rfl))) (Or.inr (hw _ (List.mem_of_getElem? (i := 37) rfl))) (by decide) (t := .int) (t' := .int) (by decide) (by decide)))
  have f82 := f74.other W77 (Or.inr (slot_ne (Or.inr (hw _ (List.mem_of_getElem? (i := 43) rfl))) (Or.inr (hw _ (List.mem_of_getElem? (i := 37) rfl))) (by decide) (t := .int) (t' := .int) (by decide) (by decide)))
  have f83 := f75.other W77 (Or.inr (slot_ne (Or.inr (hw _ (List.mem_of_getElem? (i := 45) rfl))) (Or.inr (hw _ (List.mem_of_getElem? (i := 37) rfl))) (by decide) (t := .int) (t' := .int) (by decide) (by decide)))
  have f84 := f76.wr W77
  have N77 := Fr.snoc X77 N69 g0
  have Zn77 : n0 ≤ h77.size := Nat.le_trans Zn69 (Keep.of_wr W77).1
  have K77 : Keep h0 h77 [a0] := K69.wr W77 (Or.inl (List.mem_of_getElem? (i := 0) rfl))
  have sk77 := Nat.le_trans sk69 (Keep.of_wr W77).1
  refine own_step st77 ?_
  show own_Run p e below T77 (mkF m 42 #[.val (.ref a0), .val (.ref a1), .val (.int p2), .val (.int p3), .val (.int p4), .val (.int p5), .val (.int p6)] []) _
  refine own_step (fun t k => XS.aloadN X77.here hx rfl (hb hby own_d2_42) rfl rfl k) ?_
  show own_Run p e below T77 (mkF m 43 #[.val (.ref a0), .val (.ref a1), .val (.int p2), .val (.int p3), .val (.int p4), .val (.int p5), .val (.int p6)] [(.ref a0)]) _
  refine own_step (fun t k => XS.iloadN X77.here hx rfl (hb hby own_d2_43) rfl  k) ?_
  show own_Run p e below T77 (mkF m 44 #[.val (.ref a0), .val (.ref a1), .val (.int p2), .val (.int p3), .val (.int p4), .val (.int p5), .val (.int p6)] [(.int p3), (.ref a0)]) _
  obtain ⟨T85, h85, X85, e85, W85, st85⟩ := putF X77 hx hZ hown (host := "") (Or.inl (hw _ (List.mem_of_getElem? (i := 38) rfl))) Via.refl e77 f80 f84 (Or.inr ⟨(hw _ (List.mem_of_getElem? (i := 39) rfl)), rfl, hnm⟩) (hw _ (List.mem_of_getElem? (i := 9) rfl)) (ty := .int) (by decide) rfl rfl (g := (mkF m 44 #[.val (.ref a0), .val (.ref a1), .val (.int p2), .val (.int p3), .val (.int p4), .val (.int p5), .val (.int p6)] [(.int p3), (.ref a0)])) rfl rfl (hb hby own_d2_44)
  have f86 := f78.other W85 (Or.inr (slot_ne (Or.inr (hw _ (List.mem_of_getElem? (i := 35) rfl))) (Or.inr (hw _ (List.mem_of_getElem? (i := 39) rfl))) (by decide) (t := (.object "com/example/kuva/kuva/camera/ImageFormat")) (t' := .int) (by decide) (by decide)))
  have f87 := f79.other W85 (Or.inr (slot_ne (Or.inr (hw _ (List.mem_of_getElem? (i := 37) rfl))) (Or.inr (hw _ (List.mem_of_getElem? (i := 39) rfl))) (by decide) (t := .int) (t' := .int) (by decide) (by decide)))
  have f88 := f80.same W85
  have f89 := f81.other W85 (Or.inr (slot_ne (Or.inr (hw _ (List.mem_of_getElem? (i := 41) rfl))) (Or.inr (hw _ (List.mem_of_getElem? (i := 39) rfl))) (by decide) (t := .int) (t' := .int) (by decide) (by decide)))
  have f90 := f82.other W85 (Or.inr (slot_ne (Or.inr (hw _ (List.mem_of_getElem? (i := 43) rfl))) (Or.inr (hw _ (List.mem_of_getElem? (i := 39) rfl))) (by decide) (t := .int) (t' := .int) (by decide) (by decide)))
  have f91 := f83.other W85 (Or.inr (slot_ne (Or.inr (hw _ (List.mem_of_getElem? (i := 45) rfl))) (Or.inr (hw _ (List.mem_of_getElem? (i := 39) rfl))) (by decide) (t := .int) (t' := .int) (by decide) (by decide)))
  have f92 := f84.wr W85
  have N85 := Fr.snoc X85 N77 g0
  have Zn85 : n0 ≤ h85.size := Nat.le_trans Zn77 (Keep.of_wr W85).1
  have K85 : Keep h0 h85 [a0] := K77.wr W85 (Or.inl (List.mem_of_getElem? (i := 0) rfl))
  have sk85 := Nat.le_trans sk77 (Keep.of_wr W85).1
  refine own_step st85 ?_
  show own_Run p e below T85 (mkF m 47 #[.val (.ref a0), .val (.ref a1), .val (.int p2), .val (.int p3), .val (.int p4), .val (.int p5), .val (.int p6)] []) _
  refine own_step (fun t k => XS.aloadN X85.here hx rfl (hb hby own_d2_47) rfl rfl k) ?_
  show own_Run p e below T85 (mkF m 48 #[.val (.ref a0), .val (.ref a1), .val (.int p2), .val (.int p3), .val (.int p4), .val (.int p5), .val (.int p6)] [(.ref a0)]) _
  refine own_step (fun t k => XS.iload X85.here hx rfl (hb hby own_d2_48) rfl  k) ?_
  show own_Run p e below T85 (mkF m 50 #[.val (.ref a0), .val (.ref a1), .val (.int p2), .val (.int p3), .val (.int p4), .val (.int p5), .val (.int p6)] [(.int p4), (.ref a0)]) _
  obtain ⟨T93, h93, X93, e93, W93, st93⟩ := putF X85 hx hZ hown (host := "") (Or.inl (hw _ (List.mem_of_getElem? (i := 40) rfl))) Via.refl e85 f89 f92 (Or.inr ⟨(hw _ (List.mem_of_getElem? (i := 41) rfl)), rfl, hnm⟩) (hw _ (List.mem_of_getElem? (i := 9) rfl)) (ty := .int) (by decide) rfl rfl (g := (mkF m 50 #[.val (.ref a0), .val (.ref a1), .val (.int p2), .val (.int p3), .val (.int p4), .val (.int p5), .val (.int p6)] [(.int p4), (.ref a0)])) rfl rfl (hb hby own_d2_50)
  have f94 := f86.other W93 (Or.inr (slot_ne (Or.inr (hw _ (List.mem_of_getElem? (i := 35) rfl))) (Or.inr (hw _ (List.mem_of_getElem? (i := 41) rfl))) (by decide) (t := (.object "com/example/kuva/kuva/camera/ImageFormat")) (t' := .int) (by decide) (by decide)))
  have f95 := f87.other W93 (Or.inr (slot_ne (Or.inr (hw _ (List.mem_of_getElem? (i := 37) rfl))) (Or.inr (hw _ (List.mem_of_getElem? (i := 41) rfl))) (by decide) (t := .int) (t' := .int) (by decide) (by decide)))
  have f96 := f88.other W93 (Or.inr (slot_ne (Or.inr (hw _ (List.mem_of_getElem? (i := 39) rfl))) (Or.inr (hw _ (List.mem_of_getElem? (i := 41) rfl))) (by decide) (t := .int) (t' := .int) (by decide) (by decide)))
  have f97 := f89.same W93
  have f98 := f90.other W93 (Or.inr (slot_ne (Or.inr (hw _ (List.mem_of_getElem? (i := 43) rfl))) (Or.inr (hw _ (List.mem_of_getElem? (i := 41) rfl))) (by decide) (t := .int) (t' := .int) (by decide) (by decide)))
  have f99 := f91.other W93 (Or.inr (slot_ne (Or.inr (hw _ (List.mem_of_getElem? (i := 45) rfl))) (Or.inr (hw _ (List.mem_of_getElem? (i := 41) rfl))) (by decide) (t := .int) (t' := .int) (by decide) (by decide)))
  have f100 := f92.wr W93
  have N93 := Fr.snoc X93 N85 g0
  have Zn93 : n0 ≤ h93.size := Nat.le_trans Zn85 (Keep.of_wr W93).1
  have K93 : Keep h0 h93 [a0] := K85.wr W93 (Or.inl (List.mem_of_getElem? (i := 0) rfl))
  have sk93 := Nat.le_trans sk85 (Keep.of_wr W93).1
  refine own_step st93 ?_
  show own_Run p e below T93 (mkF m 53 #[.val (.ref a0), .val (.ref a1), .val (.int p2), .val (.int p3), .val (.int p4), .val (.int p5), .val (.int p6)] []) _
  refine own_step (fun t k => XS.aloadN X93.here hx rfl (hb hby own_d2_53) rfl rfl k) ?_
  show own_Run p e below T93 (mkF m 54 #[.val (.ref a0), .val (.ref a1), .val (.int p2), .val (.int p3), .val (.int p4), .val (.int p5), .val (.int p6)] [(.ref a0)]) _
  refine own_step (fun t k => XS.iload X93.here hx rfl (hb hby own_d2_54) rfl  k) ?_
  show own_Run p e below T93 (mkF m 56 #[.val (.ref a0), .val (.ref a1), .val (.int p2), .val (.int p3), .val (.int p4), .val (.int p5), .val (.int p6)] [(.int p5), (.ref a0)]) _
  obtain ⟨T101, h101, X101, e101, W101, st101⟩ := putF X93 hx hZ hown (host := "") (Or.inl (hw _ (List.mem_of_getElem? (i := 42) rfl))) Via.refl e93 f98 f100 (Or.inr ⟨(hw _ (List.mem_of_getElem? (i := 43) rfl)), rfl, hnm⟩) (hw _ (List.mem_of_getElem? (i := 9) rfl)) (ty := .int) (by decide) rfl rfl (g := (mkF m 56 #[.val (.ref a0), .val (.ref a1), .val (.int p2), .val (.int p3), .val (.int p4), .val (.int p5), .val (.int p6)] [(.int p5), (.ref a0)])) rfl rfl (hb hby own_d2_56)
  have f102 := f94.other W101 (Or.inr (slot_ne (Or.inr (hw _ (List.mem_of_getElem? (i := 35) rfl))) (Or.inr (hw _ (List.mem_of_getElem? (i := 43) rfl))) (by decide) (t := (.object "com/example/kuva/kuva/camera/ImageFormat")) (t' := .int) (by decide) (by decide)))
  have f103 := f95.other W101 (Or.inr (slot_ne (Or.inr (hw _ (List.mem_of_getElem? (i := 37) rfl))) (Or.inr (hw _ (List.mem_of_getElem? (i := 43) rfl))) (by decide) (t := .int) (t' := .int) (by decide) (by decide)))
  have f104 := f96.other W101 (Or.inr (slot_ne (Or.inr (hw _ (List.mem_of_getElem? (i := 39) rfl))) (Or.inr (hw _ (List.mem_of_getElem? (i := 43) rfl))) (by decide) (t := .int) (t' := .int) (by decide) (by decide)))
  have f105 := f97.other W101 (Or.inr (slot_ne (Or.inr (hw _ (List.mem_of_getElem? (i := 41) rfl))) (Or.inr (hw _ (List.mem_of_getElem? (i := 43) rfl))) (by decide) (t := .int) (t' := .int) (by decide) (by decide)))
  have f106 := f98.same W101
  have f107 := f99.other W101 (Or.inr (slot_ne (Or.inr (hw _ (List.mem_of_getElem? (i := 45) rfl))) (Or.inr (hw _ (List.mem_of_getElem? (i := 43) rfl))) (by decide) (t := .int) (t' := .int) (by decide) (by decide)))
  have f108 := f100.wr W101
  have N101 := Fr.snoc X101 N93 g0
  have Zn101 : n0 ≤ h101.size := Nat.le_trans Zn93 (Keep.of_wr W101).1
  have K101 : Keep h0 h101 [a0] := K93.wr W101 (Or.inl (List.mem_of_getElem? (i := 0) rfl))
  have sk101 := Nat.le_trans sk93 (Keep.of_wr W101).1
  refine own_step st101 ?_
  show own_Run p e below T101 (mkF m 59 #[.val (.ref a0), .val (.ref a1), .val (.int p2), .val (.int p3), .val (.int p4), .val (.int p5), .val (.int p6)] []) _
  refine own_step (fun t k => XS.aloadN X101.here hx rfl (hb hby own_d2_59) rfl rfl k) ?_
  show own_Run p e below T101 (mkF m 60 #[.val (.ref a0), .val (.ref a1), .val (.int p2), .val (.int p3), .val (.int p4), .val (.int p5), .val (.int p6)] [(.ref a0)]) _
  refine own_step (fun t k => XS.iload X101.here hx rfl (hb hby own_d2_60) rfl  k) ?_
  show own_Run p e below T101 (mkF m 62 #[.val (.ref a0), .val (.ref a1), .val (.int p2), .val (.int p3), .val (.int p4), .val (.int p5), .val (.int p6)] [(.int p6), (.ref a0)]) _
  obtain ⟨T109, h109, X109, e109, W109, st109⟩ := putF X101 hx hZ hown (host := "") (Or.inl (hw _ (List.mem_of_getElem? (i := 44) rfl))) Via.refl e101 f107 f108 (Or.inr ⟨(hw _ (List.mem_of_getElem? (i := 45) rfl)), rfl, hnm⟩) (hw _ (List.mem_of_getElem? (i := 9) rfl)) (ty := .int) (by decide) rfl rfl (g := (mkF m 62 #[.val (.ref a0), .val (.ref a1), .val (.int p2), .val (.int p3), .val (.int p4), .val (.int p5), .val (.int p6)] [(.int p6), (.ref a0)])) rfl rfl (hb hby own_d2_62)
  have f110 := f102.other W109 (Or.inr (slot_ne (Or.inr (hw _ (List.mem_of_getElem? (i := 35) rfl))) (Or.inr (hw _ (List.mem_of_getElem? (i := 45) rfl))) (by decide) (t := (.object "com/example/kuva/kuva/camera/ImageFormat")) (t' := .int) (by decide) (by decide)))
  have f111 := f103.other W109 (Or.inr (slot_ne (Or.inr (hw _ (List.mem_of_getElem? (i := 37) rfl))) (Or.inr (hw _ (List.mem_of_getElem? (i := 45) rfl))) (by decide) (t := .int) (t' := .int) (by decide) (by decide)))
  have f112 := f104.other W109 (Or.inr (slot_ne (Or.inr (hw _ (List.mem_of_getElem? (i := 39) rfl))) (Or.inr (hw _ (List.mem_of_getElem? (i := 45) rfl))) (by decide) (t := .int) (t' := .int) (by decide) (by decide)))
  have f113 := f105.other W109 (Or.inr (slot_ne (Or.inr (hw _ (List.mem_of_getElem? (i := 41) rfl))) (Or.inr (hw _ (List.mem_of_getElem? (i := 45) rfl))) (by decide) (t := .int) (t' := .int) (by decide) (by decide)))
  have f114 := f106.other W109 (Or.inr (slot_ne (Or.inr (hw _ (List.mem_of_getElem? (i := 43) rfl))) (Or.inr (hw _ (List.mem_of_getElem? (i := 45) rfl))) (by decide) (t := .int) (t' := .int) (by decide) (by decide)))
  have f115 := f107.same W109
  have f116 := f108.wr W109
  have N109 := Fr.snoc X109 N101 g0
  have Zn109 : n0 ≤ h109.size := Nat.le_trans Zn101 (Keep.of_wr W109).1
  have K109 : Keep h0 h109 [a0] := K101.wr W109 (Or.inl (List.mem_of_getElem? (i := 0) rfl))
  have sk109 := Nat.le_trans sk101 (Keep.of_wr W109).1
  refine own_step st109 ?_
  show own_Run p e below T109 (mkF m 65 #[.val (.ref a0), .val (.ref a1), .val (.int p2), .val (.int p3), .val (.int p4), .val (.int p5), .val (.int p6)] []) _
  exact own_retVW X109 hx hlk hret (hb hby own_d2_65) (by decide) (by decide) N109 (by rw [e109]; exact ⟨K109, f116, f111, f112, f113, f114, f115⟩) hS60 (by rw [e109]; exact sk109)
theorem own_pn3 : plainName "com/example/kuva/kuva/camera/StreamSizesAllowsPinLaw" = true := by first | (simp [plainName, overriddenIn]; done) | decide +kernel
theorem own_d6_0 : decode method_2_code 0 = .ok (.iload_n 0, 1) := by decide +kernel
theorem own_d6_1 : decode method_2_code 1 = .ok (.i2l, 1) := by decide +kernel
theorem own_d6_2 : decode method_2_code 2 = .ok (.iload_n 1, 1) := by decide +kernel
theorem own_d6_3 : decode method_2_code 3 = .ok (.i2l, 1) := by decide +kernel
theorem own_d6_4 : decode method_2_code 4 = .ok (.lsub, 1) := by decide +kernel
theorem own_d6_5 : decode method_2_code 5 = .ok (.lstore 4, 2) := by decide +kernel
theorem own_d6_7 : decode method_2_code 7 = .ok (.lload 4, 2) := by decide +kernel
theorem own_d6_9 : decode method_2_code 9 = .ok (.lconst 0, 1) := by decide +kernel
theorem own_d6_10 : decode method_2_code 10 = .ok (.lcmp, 1) := by decide +kernel
theorem own_d6_11 : decode method_2_code 11 = .ok (.ifCond .ge 5, 3) := by decide +kernel
theorem own_d6_14 : decode method_2_code 14 = .ok (.iconst 0, 1) := by decide +kernel
theorem own_d6_15 : decode method_2_code 15 = .ok (.ireturn, 1) := by decide +kernel
theorem own_d6_16 : decode method_2_code 16 = .ok (.iload_n 0, 1) := by decide +kernel
theorem own_d6_17 : decode method_2_code 17 = .ok (.iload_n 2, 1) := by decide +kernel
theorem own_d6_18 : decode method_2_code 18 = .ok (.if_icmp .le 5, 3) := by decide +kernel
theorem own_d6_21 : decode method_2_code 21 = .ok (.iconst 0, 1) := by decide +kernel
theorem own_d6_22 : decode method_2_code 22 = .ok (.ireturn, 1) := by decide +kernel
theorem own_d6_23 : decode method_2_code 23 = .ok (.lload 4, 2) := by decide +kernel
theorem own_d6_25 : decode method_2_code 25 = .ok (.iload_n 3, 1) := by decide +kernel
theorem own_d6_26 : decode method_2_code 26 = .ok (.i2l, 1) := by decide +kernel
theorem own_d6_27 : decode method_2_code 27 = .ok (.ldiv, 1) := by decide +kernel
theorem own_d6_28 : decode method_2_code 28 = .ok (.lstore 6, 2) := by decide +kernel
theorem own_d6_30 : decode method_2_code 30 = .ok (.lload 6, 2) := by decide +kernel
theorem own_d6_32 : decode method_2_code 32 = .ok (.iload_n 3, 1) := by decide +kernel
theorem own_d6_33 : decode method_2_code 33 = .ok (.i2l, 1) := by decide +kernel
theorem own_d6_34 : decode method_2_code 34 = .ok (.lmul, 1) := by decide +kernel
theorem own_d6_35 : decode method_2_code 35 = .ok (.lload 4, 2) := by decide +kernel
theorem own_d6_37 : decode method_2_code 37 = .ok (.lcmp, 1) := by decide +kernel
theorem own_d6_38 : decode method_2_code 38 = .ok (.ifCond .ne 7, 3) := by decide +kernel
theorem own_d6_41 : decode method_2_code 41 = .ok (.iconst 1, 1) := by decide +kernel
theorem own_d6_42 : decode method_2_code 42 = .ok (.goto 4, 3) := by decide +kernel
theorem own_d6_45 : decode method_2_code 45 = .ok (.iconst 0, 1) := by decide +kernel
theorem own_d6_46 : decode method_2_code 46 = .ok (.ireturn, 1) := by decide +kernel
def own_f6_5 (p0 : Int32) (p1 : Int32) : Int64 := ((p0).toInt64 - (p1).toInt64)
def own_f6_28 (p0 : Int32) (p1 : Int32) (p3 : Int32) : Int64 := ((own_f6_5 p0 p1) / (p3).toInt64)
def own_r6 (p0 : Int32) (p1 : Int32) (p2 : Int32) (p3 : Int32) : Int32 := (if (lcmpW (own_f6_5 p0 p1) (0 : Int64)) < (0 : Int32) then (0 : Int32) else (if p2 < p0 then (0 : Int32) else (if (lcmpW ((own_f6_28 p0 p1 p3) * (p3).toInt64) (own_f6_5 p0 p1)) = (0 : Int32) then (1 : Int32) else (0 : Int32))))
theorem own_ef6 (m : MethodId) (p0 : Int32) (p1 : Int32) (p2 : Int32) (p3 : Int32) : entryFrame m #[(.int p0), (.int p1), (.int p2), (.int p3)] 8 = (mkF m 0 #[.val (.int p0), .val (.int p1), .val (.int p2), .val (.int p3), .unset, .unset, .unset, .unset] []) := by first | (simp [entryFrame, mkF, argsToLocals, Value.category]; done) | rfl
set_option maxRecDepth 65536 in
set_option maxHeartbeats 40000000 in
theorem rm6 (l : Launch) (Z : State) (av0 : Array Value) (hw : ∀ d ∈ tables_1, d.before av0 Z = true) (ws : List Jvm.Cond) (p0 : Int32) (p1 : Int32) (p2 : Int32) (p3 : Int32) (h0 : Heap) (n0 : Nat) (Z0 : n0 ≤ h0.size) (hz : (p3).toInt64 ≠ (0 : Int64)) :
    MetFree l (⟨"com/example/kuva/kuva/camera/StreamSizesAllowsPinLaw", "fits", "(IIII)Z"⟩ : MethodName) (head1 (Jvm.Cond.code (⟨"com/example/kuva/kuva/camera/StreamSizesAllowsPinLaw", "fits", "(IIII)Z"⟩ : MethodName) method_2_code 8 (some .boolean) :: ws) ({ frames := 0, cells := 0, slots := 0, locals := 0 } : Room)) (fun a U => a = #[(.int p0), (.int p1), (.int p2), (.int p3)] ∧ Z.Warmed39 U.vm ∧ U.heap = h0) (fun _ _ _ _ _ => True) (fun _ U o U' => ∃ v L, o = .returned v ∧ own_Q n0 (fun h => h = h0) (some (.int (own_r6 p0 p1 p2 p3))) v U'.heap L ∧ FrameEnd U o U' L ({ frames := 0, cells := 0, slots := 0, locals := 0 } : Room).cells ({ frames := 0, cells := 0, slots := 0, locals := 0 } : Room).slots) := by
  refine MetFree.of_bodySF (plainFor_of_name own_pn3) hisR ?_
  intro p e s m args below meth c s₁ Bd hml0 hP hK
  obtain ⟨rfl, hZ, hh⟩ := hP
  have hx := Bd.exec
  have hby := Bd.bytes
  have hml : c.maxLocals = 8 := hml0
  have hown : s.vm.findClass "com/example/kuva/kuva/camera/StreamSizesAllowsPinLaw" = some m.cls := findClass_of_methodNamed Bd.named
  have hnm := (name_of_methodNamed Bd.named Bd.method).1
  have hret := Bd.returns
  have hlk : meth.locks = false := BodyLoose.notSynchronized Bd
  have X0 : Stand p l e ({ frames := 0, cells := 0, slots := 0, locals := 0 } : Room) s m #[(.int p0), (.int p1), (.int p2), (.int p3)] below meth c s₁ [] 0 0 := Stand.of_body Bd
  have e0 : s₁.heap = h0 := by rw [← hh, Bd.state]; rfl
  have N0 := Fr.nil n0
  clear Bd hh hK
  refine own_fin ?_
  refine own_entry (own_ef6 m p0 p1 p2 p3) ?_
  show own_Run p e below s₁ _ (own_Ret _ s below _ _ (own_Q n0 _ (some (.int (if (lcmpW (own_f6_5 p0 p1) (0 : Int64)) < (0 : Int32) then (0 : Int32) else (if p2 < p0 then (0 : Int32) else (if (lcmpW ((own_f6_28 p0 p1 p3) * (p3).toInt64) (own_f6_5 p0 p1)) = (0 : Int32) then (1 : Int32) else (0 : Int32))))))))
  show own_Run p e below s₁ (mkF m 0 #[.val (.int p0), .val (.int p1), .val (.int p2), .val (.int p3), .unset, .unset, .unset, .unset] []) _
  refine own_step (fun t k => XS.iloadN X0.here hx rfl (hb hby own_d6_0) rfl  k) ?_
  show own_Run p e below s₁ (mkF m 1 #[.val (.int p0), .val (.int p1), .val (.int p2), .val (.int p3), .unset, .unset, .unset, .unset] [(.int p0)]) _
  refine own_step (fun t k => XS.i2l X0.here hx rfl (hb hby own_d6_1) rfl k) ?_
  show own_Run p e below s₁ (mkF m 2 #[.val (.int p0), .val (.int p1), .val (.int p2), .val (.int p3), .unset, .unset, .unset, .unset] [(.long (p0).toInt64)]) _
  refine own_step (fun t k => XS.iloadN X0.here hx rfl (hb hby own_d6_2) rfl  k) ?_
  show own_Run p e below s₁ (mkF m 3 #[.val (.int p0), .val (.int p1), .val (.int p2), .val (.int p3), .unset, .unset, .unset, .unset] [(.int p1), (.long (p0).toInt64)]) _
  refine own_step (fun t k => XS.i2l X0.here hx rfl (hb hby own_d6_3) rfl k) ?_
  show own_Run p e below s₁ (mkF m 4 #[.val (.int p0), .val (.int p1), .val (.int p2), .val (.int p3), .unset, .unset, .unset, .unset] [(.long (p1).toInt64), (.long (p0).toInt64)]) _
  refine own_step (fun t k => XS.lsub X0.here hx rfl (hb hby own_d6_4) rfl k) ?_
  show own_Run p e below s₁ (mkF m 5 #[.val (.int p0), .val (.int p1), .val (.int p2), .val (.int p3), .unset, .unset, .unset, .unset] [(.long ((p0).toInt64 - (p1).toInt64))]) _
  refine own_step (fun t k => XS.lstore X0.here hx rfl (hb hby own_d6_5) rfl (l' := #[.val (.int p0), .val (.int p1), .val (.int p2), .val (.int p3), .val (.long (own_f6_5 p0 p1)), .second, .unset, .unset]) rfl k) ?_
  show own_Run p e below s₁ (mkF m 7 #[.val (.int p0), .val (.int p1), .val (.int p2), .val (.int p3), .val (.long (own_f6_5 p0 p1)), .second, .unset, .unset] []) _
  refine own_step (fun t k => XS.lload X0.here hx rfl (hb hby own_d6_7) rfl  k) ?_
  show own_Run p e below s₁ (mkF m 9 #[.val (.int p0), .val (.int p1), .val (.int p2), .val (.int p3), .val (.long (own_f6_5 p0 p1)), .second, .unset, .unset] [(.long (own_f6_5 p0 p1))]) _
  refine own_step (fun t k => XS.lconst X0.here hx rfl (hb hby own_d6_9) k) ?_
  show own_Run p e below s₁ (mkF m 10 #[.val (.int p0), .val (.int p1), .val (.int p2), .val (.int p3), .val (.long (own_f6_5 p0 p1)), .second, .unset, .unset] [(.long (0 : Int64)), (.long (own_f6_5 p0 p1))]) _
  refine own_step (fun t k => XS.lcmp X0.here hx rfl (hb hby own_d6_10) rfl k) ?_
  show own_Run p e below s₁ (mkF m 11 #[.val (.int p0), .val (.int p1), .val (.int p2), .val (.int p3), .val (.long (own_f6_5 p0 p1)), .second, .unset, .unset] [(.int (lcmpW (own_f6_5 p0 p1) (0 : Int64)))]) _
  by_cases hc4 : (lcmpW (own_f6_5 p0 p1) (0 : Int64)) < (0 : Int32)
  · refine own_vi (if_pos hc4) ?_
    refine own_step (fun t k => XS.ifNo X0.here hx rfl (hb hby own_d6_11) rfl ((if0 _ _).trans (tlt hc4).2.1) k) ?_
    show own_Run p e below s₁ (mkF m 14 #[.val (.int p0), .val (.int p1), .val (.int p2), .val (.int p3), .val (.long (own_f6_5 p0 p1)), .second, .unset, .unset] []) _
    refine own_step (fun t k => XS.iconst X0.here hx rfl (hb hby own_d6_14) k) ?_
    show own_Run p e below s₁ (mkF m 15 #[.val (.int p0), .val (.int p1), .val (.int p2), .val (.int p3), .val (.long (own_f6_5 p0 p1)), .second, .unset, .unset] [(.int (0 : Int32))]) _
    exact own_retZ X0 hx hlk hret (hb hby own_d6_15) (by decide) (by decide) N0 e0
  · refine own_vi (if_neg hc4) ?_
    refine own_step (fun t k => XS.ifYes X0.here hx rfl (pc0 := 11) (pc' := 16) rfl (hb hby own_d6_11) rfl ((if0 _ _).trans (flt hc4).2.1) (by decide) (by decide) k) ?_
    show own_Run p e below s₁ (mkF m 16 #[.val (.int p0), .val (.int p1), .val (.int p2), .val (.int p3), .val (.long (own_f6_5 p0 p1)), .second, .unset, .unset] []) _
    refine own_step (fun t k => XS.iloadN X0.here hx rfl (hb hby own_d6_16) rfl  k) ?_
    show own_Run p e below s₁ (mkF m 17 #[.val (.int p0), .val (.int p1), .val (.int p2), .val (.int p3), .val (.long (own_f6_5 p0 p1)), .second, .unset, .unset] [(.int p0)]) _
    refine own_step (fun t k => XS.iloadN X0.here hx rfl (hb hby own_d6_17) rfl  k) ?_
    show own_Run p e below s₁ (mkF m 18 #[.val (.int p0), .val (.int p1), .val (.int p2), .val (.int p3), .val (.long (own_f6_5 p0 p1)), .second, .unset, .unset] [(.int p2), (.int p0)]) _
    by_cases hc5 : p2 < p0
    · refine own_vi (if_pos hc5) ?_
      refine own_step (fun t k => XS.icmpNo X0.here hx rfl (hb hby own_d6_18) rfl (tlt hc5).2.2.2 k) ?_
      show own_Run p e below s₁ (mkF m 21 #[.val (.int p0), .val (.int p1), .val (.int p2), .val (.int p3), .val (.long (own_f6_5 p0 p1)), .second, .unset, .unset] []) _
      refine own_step (fun t k => XS.iconst X0.here hx rfl (hb hby own_d6_21) k) ?_
      show own_Run p e below s₁ (mkF m 22 #[.val (.int p0), .val (.int p1), .val (.int p2), .val (.int p3), .val (.long (own_f6_5 p0 p1)), .second, .unset, .unset] [(.int (0 : Int32))]) _
      exact own_retZ X0 hx hlk hret (hb hby own_d6_22) (by decide) (by decide) N0 e0
    · refine own_vi (if_neg hc5) ?_
      refine own_step (fun t k => XS.icmpYes X0.here hx rfl (pc0 := 18) (pc' := 23) rfl (hb hby own_d6_18) rfl (flt hc5).2.2.2 (by decide) (by decide) k) ?_
      show own_Run p e below s₁ (mkF m 23 #[.val (.int p0), .val (.int p1), .val (.int p2), .val (.int p3), .val (.long (own_f6_5 p0 p1)), .second, .unset, .unset] []) _
      refine own_step (fun t k => XS.lload X0.here hx rfl (hb hby own_d6_23) rfl  k) ?_
      show own_Run p e below s₁ (mkF m 25 #[.val (.int p0), .val (.int p1), .val (.int p2), .val (.int p3), .val (.long (own_f6_5 p0 p1)), .second, .unset, .unset] [(.long (own_f6_5 p0 p1))]) _
      refine own_step (fun t k => XS.iloadN X0.here hx rfl (hb hby own_d6_25) rfl  k) ?_
      show own_Run p e below s₁ (mkF m 26 #[.val (.int p0), .val (.int p1), .val (.int p2), .val (.int p3), .val (.long (own_f6_5 p0 p1)), .second, .unset, .unset] [(.int p3), (.long (own_f6_5 p0 p1))]) _
      refine own_step (fun t k => XS.i2l X0.here hx rfl (hb hby own_d6_26) rfl k) ?_
      show own_Run p e below s₁ (mkF m 27 #[.val (.int p0), .val (.int p1), .val (.int p2), .val (.int p3), .val (.long (own_f6_5 p0 p1)), .second, .unset, .unset] [(.long (p3).toInt64), (.long (own_f6_5 p0 p1))]) _
      refine own_step (fun t k => XS.ldiv X0.here hx rfl (hb hby own_d6_27) rfl hz k) ?_
      show own_Run p e below s₁ (mkF m 28 #[.val (.int p0), .val (.int p1), .val (.int p2), .val (.int p3), .val (.long (own_f6_5 p0 p1)), .second, .unset, .unset] [(.long ((own_f6_5 p0 p1) / (p3).toInt64))]) _
      refine own_step (fun t k => XS.lstore X0.here hx rfl (hb hby own_d6_28) rfl (l' := #[.val (.int p0), .val (.int p1), .val (.int p2), .val (.int p3), .val (.long (own_f6_5 p0 p1)), .second, .val (.long (own_f6_28 p0 p1 p3)), .second]) rfl k) ?_
      show own_Run p e below s₁ (mkF m 30 #[.val (.int p0), .val (.int p1), .val (.int p2), .val (.int p3), .val (.long (own_f6_5 p0 p1)), .second, .val (.long (own_f6_28 p0 p1 p3)), .second] []) _
      refine own_step (fun t k => XS.lload X0.here hx rfl (hb hby own_d6_30) rfl  k) ?_
      show own_Run p e below s₁ (mkF m 32 #[.val (.int p0), .val (.int p1), .val (.int p2), .val (.int p3), .val (.long (own_f6_5 p0 p1)), .second, .val (.long (own_f6_28 p0 p1 p3)), .second] [(.long (own_f6_28 p0 p1 p3))]) _
      refine own_step (fun t k => XS.iloadN X0.here hx rfl (hb hby own_d6_32) rfl  k) ?_
      show own_Run p e below s₁ (mkF m 33 #[.val (.int p0), .val (.int p1), .val (.int p2), .val (.int p3), .val (.long (own_f6_5 p0 p1)), .second, .val (.long (own_f6_28 p0 p1 p3)), .second] [(.int p3), (.long (own_f6_28 p0 p1 p3))]) _
      refine own_step (fun t k => XS.i2l X0.here hx rfl (hb hby own_d6_33) rfl k) ?_
      show own_Run p e below s₁ (mkF m 34 #[.val (.int p0), .val (.int p1), .val (.int p2), .val (.int p3), .val (.long (own_f6_5 p0 p1)), .second, .val (.long (own_f6_28 p0 p1 p3)), .second] [(.long (p3).toInt64), (.long (own_f6_28 p0 p1 p3))]) _
      refine own_step (fun t k => XS.lmul X0.here hx rfl (hb hby own_d6_34) rfl k) ?_
      show own_Run p e below s₁ (mkF m 35 #[.val (.int p0), .val (.int p1), .val (.int p2), .val (.int p3), .val (.long (own_f6_5 p0 p1)), .second, .val (.long (own_f6_28 p0 p1 p3)), .second] [(.long ((own_f6_28 p0 p1 p3) * (p3).toInt64))]) _
      refine own_step (fun t k => XS.lload X0.here hx rfl (hb hby own_d6_35) rfl  k) ?_
      show own_Run p e below s₁ (mkF m 37 #[.val (.int p0), .val (.int p1), .val (.int p2), .val (.int p3), .val (.long (own_f6_5 p0 p1)), .second, .val (.long (own_f6_28 p0 p1 p3)), .second] [(.long (own_f6_5 p0 p1)), (.long ((own_f6_28 p0 p1 p3) * (p3).toInt64))]) _
      refine own_step (fun t k => XS.lcmp X0.here hx rfl (hb hby own_d6_37) rfl k) ?_
      show own_Run p e below s₁ (mkF m 38 #[.val (.int p0), .val (.int p1), .val (.int p2), .val (.int p3), .val (.long (own_f6_5 p0 p1)), .second, .val (.long (own_f6_28 p0 p1 p3)), .second] [(.int (lcmpW ((own_f6_28 p0 p1 p3) * (p3).toInt64) (own_f6_5 p0 p1)))]) _
      by_cases hc6 : (lcmpW ((own_f6_28 p0 p1 p3) * (p3).toInt64) (own_f6_5 p0 p1)) = (0 : Int32)
      · refine own_vi (if_pos hc6) ?_
        refine own_step (fun t k => XS.ifNo X0.here hx rfl (hb hby own_d6_38) rfl ((if0 _ _).trans (teq hc6).2) k) ?_
        show own_Run p e below s₁ (mkF m 41 #[.val (.int p0), .val (.int p1), .val (.int p2), .val (.int p3), .val (.long (own_f6_5 p0 p1)), .second, .val (.long (own_f6_28 p0 p1 p3)), .second] []) _
        refine own_step (fun t k => XS.iconst X0.here hx rfl (hb hby own_d6_41) k) ?_
        show own_Run p e below s₁ (mkF m 42 #[.val (.int p0), .val (.int p1), .val (.int p2), .val (.int p3), .val (.long (own_f6_5 p0 p1)), .second, .val (.long (own_f6_28 p0 p1 p3)), .second] [(.int (1 : Int32))]) _
        refine own_step (fun t k => XS.goto X0.here hx rfl (pc0 := 42) (pc' := 46) rfl (hb hby own_d6_42) (by decide) (by decide) k) ?_
        show own_Run p e below s₁ (mkF m 46 #[.val (.int p0), .val (.int p1), .val (.int p2), .val (.int p3), .val (.long (own_f6_5 p0 p1)), .second, .val (.long (own_f6_28 p0 p1 p3)), .second] [(.int (1 : Int32))]) _
        exact own_retZ X0 hx hlk hret (hb hby own_d6_46) (by decide) (by decide) N0 e0
      · refine own_vi (if_neg hc6) ?_
        refine own_step (fun t k => XS.ifYes X0.here hx rfl (pc0 := 38) (pc' := 45) rfl (hb hby own_d6_38) rfl ((if0 _ _).trans (feq hc6).2) (by decide) (by decide) k) ?_
        show own_Run p e below s₁ (mkF m 45 #[.val (.int p0), .val (.int p1), .val (.int p2), .val (.int p3), .val (.long (own_f6_5 p0 p1)), .second, .val (.long (own_f6_28 p0 p1 p3)), .second] []) _
        refine own_step (fun t k => XS.iconst X0.here hx rfl (hb hby own_d6_45) k) ?_
        show own_Run p e below s₁ (mkF m 46 #[.val (.int p0), .val (.int p1), .val (.int p2), .val (.int p3), .val (.long (own_f6_5 p0 p1)), .second, .val (.long (own_f6_28 p0 p1 p3)), .second] [(.int (0 : Int32))]) _
        exact own_retZ X0 hx hlk hret (hb hby own_d6_46) (by decide) (by decide) N0 e0
theorem own_d8_0 : decode prog_7_method_3_code 0 = .ok (.iload_n 1, 1) := by decide +kernel
theorem own_d8_1 : decode prog_7_method_3_code 1 = .ok (.iload_n 2, 1) := by decide +kernel
theorem own_d8_2 : decode prog_7_method_3_code 2 = .ok (.if_icmp .lt 23, 3) := by decide +kernel
theorem own_d8_5 : decode prog_7_method_3_code 5 = .ok (.iload_n 1, 1) := by decide +kernel
theorem own_d8_6 : decode prog_7_method_3_code 6 = .ok (.iload_n 3, 1) := by decide +kernel
theorem own_d8_7 : decode prog_7_method_3_code 7 = .ok (.if_icmp .gt 18, 3) := by decide +kernel
theorem own_d8_10 : decode prog_7_method_3_code 10 = .ok (.iload_n 1, 1) := by decide +kernel
theorem own_d8_11 : decode prog_7_method_3_code 11 = .ok (.iload_n 2, 1) := by decide +kernel
theorem own_d8_12 : decode prog_7_method_3_code 12 = .ok (.isub, 1) := by decide +kernel
theorem own_d8_13 : decode prog_7_method_3_code 13 = .ok (.aload_n 0, 1) := by decide +kernel
theorem own_d8_14 : decode prog_7_method_3_code 14 = .ok (.getfield 42, 3) := by decide +kernel
theorem own_d8_17 : decode prog_7_method_3_code 17 = .ok (.irem, 1) := by decide +kernel
theorem own_d8_18 : decode prog_7_method_3_code 18 = .ok (.ifCond .ne 7, 3) := by decide +kernel
theorem own_d8_21 : decode prog_7_method_3_code 21 = .ok (.iconst 1, 1) := by decide +kernel
theorem own_d8_22 : decode prog_7_method_3_code 22 = .ok (.goto 4, 3) := by decide +kernel
theorem own_d8_25 : decode prog_7_method_3_code 25 = .ok (.iconst 0, 1) := by decide +kernel
theorem own_d8_26 : decode prog_7_method_3_code 26 = .ok (.ireturn, 1) := by decide +kernel
def own_f8_j26_S0 (p1 : Int32) (p2 : Int32) (p3 : Int32) (x4 : Int32) : Int32 := (if p1 < p2 then (0 : Int32) else (if p3 < p1 then (0 : Int32) else (if (own_rem (p1 - p2) x4) = (0 : Int32) then (1 : Int32) else (0 : Int32))))
def own_r8 (p1 : Int32) (p2 : Int32) (p3 : Int32) (x4 : Int32) : Int32 := (nar .boolean (own_f8_j26_S0 p1 p2 p3 x4))
theorem own_ef8 (m : MethodId) (a0 : Addr) (p1 : Int32) (p2 : Int32) (p3 : Int32) : entryFrame m #[(.ref a0), (.int p1), (.int p2), (.int p3)] 4 = (mkF m 0 #[.val (.ref a0), .val (.int p1), .val (.int p2), .val (.int p3)] []) := by first | (simp [entryFrame, mkF, argsToLocals, Value.category]; done) | rfl
set_option maxRecDepth 65536 in
set_option maxHeartbeats 40000000 in
theorem rm8 (l : Launch) (Z : State) (av0 : Array Value) (hw : ∀ d ∈ tables_1, d.before av0 Z = true) (ws : List Jvm.Cond) (a0 : Addr) (p1 : Int32) (p2 : Int32) (p3 : Int32) (x4 : Int32) (h0 : Heap) (n0 : Nat) (Z0 : n0 ≤ h0.size) (hz : x4 ≠ (0 : Int32)) (Fx4 : Fld Z h0 a0 "com/example/kuva/kuva/camera/StreamSizes" "step" "I" (.int x4)) :
    MetFree l (⟨"com/example/kuva/kuva/camera/StreamSizes", "allows", "(III)Z"⟩ : MethodName) (head1 (Jvm.Cond.code (⟨"com/example/kuva/kuva/camera/StreamSizes", "allows", "(III)Z"⟩ : MethodName) prog_7_method_3_code 4 (some .boolean) :: ws) ({ frames := 0, cells := 0, slots := 0, locals := 0 } : Room)) (fun a U => a = #[(.ref a0), (.int p1), (.int p2), (.int p3)] ∧ Z.Warmed39 U.vm ∧ U.heap = h0) (fun _ _ _ _ _ => True) (fun _ U o U' => ∃ v L, o = .returned v ∧ own_Q n0 (fun h => h = h0) (some (.int (own_r8 p1 p2 p3 x4))) v U'.heap L ∧ FrameEnd U o U' L ({ frames := 0, cells := 0, slots := 0, locals := 0 } : Room).cells ({ frames := 0, cells := 0, slots := 0, locals := 0 } : Room).slots) := by
  refine MetFree.of_bodySF (plainFor_of_name own_pn2) hisR ?_
  intro p e s m args below meth c s₁ Bd hml0 hP hK
  obtain ⟨rfl, hZ, hh⟩ := hP
  have hx := Bd.exec
  have hby := Bd.bytes
  have hml : c.maxLocals = 4 := hml0
  have hown : s.vm.findClass "com/example/kuva/kuva/camera/StreamSizes" = some m.cls := findClass_of_methodNamed Bd.named
  have hnm := (name_of_methodNamed Bd.named Bd.method).1
  have hret := Bd.returns
  have hlk : meth.locks = false := BodyLoose.notSynchronized Bd
  have X0 : Stand p l e ({ frames := 0, cells := 0, slots := 0, locals := 0 } : Room) s m #[(.ref a0), (.int p1), (.int p2), (.int p3)] below meth c s₁ [] 0 0 := Stand.of_body Bd
  have e0 : s₁.heap = h0 := by rw [← hh, Bd.state]; rfl
  have N0 := Fr.nil n0
  clear Bd hh hK
  refine own_fin ?_
  refine own_entry (own_ef8 m a0 p1 p2 p3) ?_
  show own_Run p e below s₁ _ (own_Ret _ s below _ _ (own_Q n0 _ (some (.int (nar .boolean (own_f8_j26_S0 p1 p2 p3 x4))))))
  show own_Run p e below s₁ (mkF m 0 #[.val (.ref a0), .val (.int p1), .val (.int p2), .val (.int p3)] []) _
  refine own_step (fun t k => XS.iloadN X0.here hx rfl (hb hby own_d8_0) rfl  k) ?_
  show own_Run p e below s₁ (mkF m 1 #[.val (.ref a0), .val (.int p1), .val (.int p2), .val (.int p3)] [(.int p1)]) _
  refine own_step (fun t k => XS.iloadN X0.here hx rfl (hb hby own_d8_1) rfl  k) ?_
  show own_Run p e below s₁ (mkF m 2 #[.val (.ref a0), .val (.int p1), .val (.int p2), .val (.int p3)] [(.int p2), (.int p1)]) _
  obtain ⟨_, st6, T6, L6, rfl, X6, e6, N6⟩ : own_Run p e below s₁ (mkF m 2 #[.val (.ref a0), .val (.int p1), .val (.int p2), .val (.int p3)] [(.int p2), (.int p1)]) (fun t => ∃ (T' : State) (L' : List Loc) , t = T'.setTop (mkF m 26 #[.val (.ref a0), .val (.int p1), .val (.int p2), .val (.int p3)] [(.int (own_f8_j26_S0 p1 p2 p3 x4))]) ∧ Stand p l e ({ frames := 0, cells := 0, slots := 0, locals := 0 } : Room) s m #[(.ref a0), (.int p1), (.int p2), (.int p3)] below meth c T' L' 0 0 ∧ T'.heap = h0 ∧ Fr n0 L') := by
    by_cases hc7 : p1 < p2
    · refine own_step (fun t k => XS.icmpYes X0.here hx rfl (pc0 := 2) (pc' := 25) rfl (hb hby own_d8_2) rfl (tlt hc7).1 (by decide) (by decide) k) ?_
      show own_Run p e below s₁ (mkF m 25 #[.val (.ref a0), .val (.int p1), .val (.int p2), .val (.int p3)] []) _
      refine own_step (fun t k => XS.iconst X0.here hx rfl (hb hby own_d8_25) k) ?_
      show own_Run p e below s₁ (mkF m 26 #[.val (.ref a0), .val (.int p1), .val (.int p2), .val (.int p3)] [(.int (0 : Int32))]) _
      have hj0 : (own_f8_j26_S0 p1 p2 p3 x4) = (0 : Int32) := (if_pos hc7)
      exact own_here ⟨s₁, _, (by rw [hj0]), X0, e0, N0⟩
    · refine own_step (fun t k => XS.icmpNo X0.here hx rfl (hb hby own_d8_2) rfl (flt hc7).1 k) ?_
      show own_Run p e below s₁ (mkF m 5 #[.val (.ref a0), .val (.int p1), .val (.int p2), .val (.int p3)] []) _
      refine own_step (fun t k => XS.iloadN X0.here hx rfl (hb hby own_d8_5) rfl  k) ?_
      show own_Run p e below s₁ (mkF m 6 #[.val (.ref a0), .val (.int p1), .val (.int p2), .val (.int p3)] [(.int p1)]) _
      refine own_step (fun t k => XS.iloadN X0.here hx rfl (hb hby own_d8_6) rfl  k) ?_
      show own_Run p e below s₁ (mkF m 7 #[.val (.ref a0), .val (.int p1), .val (.int p2), .val (.int p3)] [(.int p3), (.int p1)]) _
      by_cases hc8 : p3 < p1
      · refine own_step (fun t k => XS.icmpYes X0.here hx rfl (pc0 := 7) (pc' := 25) rfl (hb hby own_d8_7) rfl (tlt hc8).2.2.1 (by decide) (by decide) k) ?_
        show own_Run p e below s₁ (mkF m 25 #[.val (.ref a0), .val (.int p1), .val (.int p2), .val (.int p3)] []) _
        refine own_step (fun t k => XS.iconst X0.here hx rfl (hb hby own_d8_25) k) ?_
        show own_Run p e below s₁ (mkF m 26 #[.val (.ref a0), .val (.int p1), .val (.int p2), .val (.int p3)] [(.int (0 : Int32))]) _
        have hj0 : (own_f8_j26_S0 p1 p2 p3 x4) = (0 : Int32) := ((if_neg hc7).trans (if_pos hc8))
        exact own_here ⟨s₁, _, (by rw [hj0]), X0, e0, N0⟩
      · refine own_step (fun t k => XS.icmpNo X0.here hx rfl (hb hby own_d8_7) rfl (flt hc8).2.2.1 k) ?_
        show own_Run p e below s₁ (mkF m 10 #[.val (.ref a0), .val (.int p1), .val (.int p2), .val (.int p3)] []) _
        refine own_step (fun t k => XS.iloadN X0.here hx rfl (hb hby own_d8_10) rfl  k) ?_
        show own_Run p e below s₁ (mkF m 11 #[.val (.ref a0), .val (.int p1), .val (.int p2), .val (.int p3)] [(.int p1)]) _
        refine own_step (fun t k => XS.iloadN X0.here hx rfl (hb hby own_d8_11) rfl  k) ?_
        show own_Run p e below s₁ (mkF m 12 #[.val (.ref a0), .val (.int p1), .val (.int p2), .val (.int p3)] [(.int p2), (.int p1)]) _
        refine own_step (fun t k => XS.isub X0.here hx rfl (hb hby own_d8_12) rfl k) ?_
        show own_Run p e below s₁ (mkF m 13 #[.val (.ref a0), .val (.int p1), .val (.int p2), .val (.int p3)] [(.int (p1 - p2))]) _
        refine own_step (fun t k => XS.aloadN X0.here hx rfl (hb hby own_d8_13) rfl rfl k) ?_
        show own_Run p e below s₁ (mkF m 14 #[.val (.ref a0), .val (.int p1), .val (.int p2), .val (.int p3)] [(.ref a0), (.int (p1 - p2))]) _
        obtain ⟨T9, X9, e9, st9⟩ := getF X0 hx hZ hown (host := "") (Or.inl (hw _ (List.mem_of_getElem? (i := 44) rfl))) Via.refl e0 Fx4 (g := (mkF m 14 #[.val (.ref a0), .val (.int p1), .val (.int p2), .val (.int p3)] [(.ref a0), (.int (p1 - p2))])) rfl rfl (hb hby own_d8_14)
        refine own_step st9 ?_
        show own_Run p e below T9 (mkF m 17 #[.val (.ref a0), .val (.int p1), .val (.int p2), .val (.int p3)] [(.int x4), (.int (p1 - p2))]) _
        refine own_step (fun t k => XS.irem X9.here hx rfl (hb hby own_d8_17) rfl hz k) ?_
        show own_Run p e below T9 (mkF m 18 #[.val (.ref a0), .val (.int p1), .val (.int p2), .val (.int p3)] [(.int (own_rem (p1 - p2) x4))]) _
        by_cases hc10 : (own_rem (p1 - p2) x4) = (0 : Int32)
        · refine own_step (fun t k => XS.ifNo X9.here hx rfl (hb hby own_d8_18) rfl ((if0 _ _).trans (teq hc10).2) k) ?_
          show own_Run p e below T9 (mkF m 21 #[.val (.ref a0), .val (.int p1), .val (.int p2), .val (.int p3)] []) _
          refine own_step (fun t k => XS.iconst X9.here hx rfl (hb hby own_d8_21) k) ?_
          show own_Run p e below T9 (mkF m 22 #[.val (.ref a0), .val (.int p1), .val (.int p2), .val (.int p3)] [(.int (1 : Int32))]) _
          refine own_step (fun t k => XS.goto X9.here hx rfl (pc0 := 22) (pc' := 26) rfl (hb hby own_d8_22) (by decide) (by decide) k) ?_
          show own_Run p e below T9 (mkF m 26 #[.val (.ref a0), .val (.int p1), .val (.int p2), .val (.int p3)] [(.int (1 : Int32))]) _
          have hj0 : (own_f8_j26_S0 p1 p2 p3 x4) = (1 : Int32) := ((if_neg hc7).trans ((if_neg hc8).trans (if_pos hc10)))
          exact own_here ⟨T9, _, (by rw [hj0]), X9, e9, N0⟩
        · refine own_step (fun t k => XS.ifYes X9.here hx rfl (pc0 := 18) (pc' := 25) rfl (hb hby own_d8_18) rfl ((if0 _ _).trans (feq hc10).2) (by decide) (by decide) k) ?_
          show own_Run p e below T9 (mkF m 25 #[.val (.ref a0), .val (.int p1), .val (.int p2), .val (.int p3)] []) _
          refine own_step (fun t k => XS.iconst X9.here hx rfl (hb hby own_d8_25) k) ?_
          show own_Run p e below T9 (mkF m 26 #[.val (.ref a0), .val (.int p1), .val (.int p2), .val (.int p3)] [(.int (0 : Int32))]) _
          have hj0 : (own_f8_j26_S0 p1 p2 p3 x4) = (0 : Int32) := ((if_neg hc7).trans ((if_neg hc8).trans (if_neg hc10)))
          exact own_here ⟨T9, _, (by rw [hj0]), X9, e9, N0⟩
  refine own_tr st6 ?_
  show own_Run p e below T6 (mkF m 26 #[.val (.ref a0), .val (.int p1), .val (.int p2), .val (.int p3)] [(.int (own_f8_j26_S0 p1 p2 p3 x4))]) _
  exact own_retZ X6 hx hlk hret (hb hby own_d8_26) (by decide) (by decide) N6 e6
theorem own_pd94 : parseMethodDescriptor "(III)Z" = some ⟨[.int, .int, .int], some .boolean⟩ := by decide +kernel
theorem own_d7_0 : decode prog_7_method_2_code 0 = .ok (.aload_n 0, 1) := by decide +kernel
theorem own_d7_1 : decode prog_7_method_2_code 1 = .ok (.iload_n 1, 1) := by decide +kernel
theorem own_d7_2 : decode prog_7_method_2_code 2 = .ok (.aload_n 0, 1) := by decide +kernel
theorem own_d7_3 : decode prog_7_method_2_code 3 = .ok (.getfield 29, 3) := by decide +kernel
theorem own_d7_6 : decode prog_7_method_2_code 6 = .ok (.aload_n 0, 1) := by decide +kernel
theorem own_d7_7 : decode prog_7_method_2_code 7 = .ok (.getfield 33, 3) := by decide +kernel
theorem own_d7_10 : decode prog_7_method_2_code 10 = .ok (.invokevirtual 45, 3) := by decide +kernel
theorem own_d7_13 : decode prog_7_method_2_code 13 = .ok (.ifCond .eq 23, 3) := by decide +kernel
theorem own_d7_16 : decode prog_7_method_2_code 16 = .ok (.aload_n 0, 1) := by decide +kernel
theorem own_d7_17 : decode prog_7_method_2_code 17 = .ok (.iload_n 2, 1) := by decide +kernel
theorem own_d7_18 : decode prog_7_method_2_code 18 = .ok (.aload_n 0, 1) := by decide +kernel
theorem own_d7_19 : decode prog_7_method_2_code 19 = .ok (.getfield 36, 3) := by decide +kernel
theorem own_d7_22 : decode prog_7_method_2_code 22 = .ok (.aload_n 0, 1) := by decide +kernel
theorem own_d7_23 : decode prog_7_method_2_code 23 = .ok (.getfield 39, 3) := by decide +kernel
theorem own_d7_26 : decode prog_7_method_2_code 26 = .ok (.invokevirtual 45, 3) := by decide +kernel
theorem own_d7_29 : decode prog_7_method_2_code 29 = .ok (.ifCond .eq 7, 3) := by decide +kernel
theorem own_d7_32 : decode prog_7_method_2_code 32 = .ok (.iconst 1, 1) := by decide +kernel
theorem own_d7_33 : decode prog_7_method_2_code 33 = .ok (.goto 4, 3) := by decide +kernel
theorem own_d7_36 : decode prog_7_method_2_code 36 = .ok (.iconst 0, 1) := by decide +kernel
theorem own_d7_37 : decode prog_7_method_2_code 37 = .ok (.ireturn, 1) := by decide +kernel
def own_f7_j37_S0 (p1 : Int32) (x0 : Int32) (x1 : Int32) (x4 : Int32) (p2 : Int32) (x2 : Int32) (x3 : Int32) : Int32 := (if (own_r8 p1 x0 x1 x4) = (0 : Int32) then (0 : Int32) else (if (own_r8 p2 x2 x3 x4) = (0 : Int32) then (0 : Int32) else (1 : Int32)))
def own_r7 (p1 : Int32) (p2 : Int32) (x0 : Int32) (x1 : Int32) (x2 : Int32) (x3 : Int32) (x4 : Int32) : Int32 := (nar .boolean (own_f7_j37_S0 p1 x0 x1 x4 p2 x2 x3))
theorem own_ef7 (m : MethodId) (a0 : Addr) (p1 : Int32) (p2 : Int32) : entryFrame m #[(.ref a0), (.int p1), (.int p2)] 3 = (mkF m 0 #[.val (.ref a0), .val (.int p1), .val (.int p2)] []) := by first | (simp [entryFrame, mkF, argsToLocals, Value.category]; done) | rfl
set_option maxRecDepth 65536 in
set_option maxHeartbeats 40000000 in
theorem rm7 (l : Launch) (Z : State) (av0 : Array Value) (hw : ∀ d ∈ tables_1, d.before av0 Z = true) (ws : List Jvm.Cond) (a0 : Addr) (p1 : Int32) (p2 : Int32) (x0 : Int32) (x1 : Int32) (x2 : Int32) (x3 : Int32) (x4 : Int32) (h0 : Heap) (n0 : Nat) (Z0 : n0 ≤ h0.size) (hz : x4 ≠ (0 : Int32)) (Fx0 : Fld Z h0 a0 "com/example/kuva/kuva/camera/StreamSizes" "minWidth" "I" (.int x0)) (Fx1 : Fld Z h0 a0 "com/example/kuva/kuva/camera/StreamSizes" "maxWidth" "I" (.int x1)) (Fx2 : Fld Z h0 a0 "com/example/kuva/kuva/camera/StreamSizes" "minHeight" "I" (.int x2)) (Fx3 : Fld Z h0 a0 "com/example/kuva/kuva/camera/StreamSizes" "maxHeight" "I" (.int x3)) (Fx4 : Fld Z h0 a0 "com/example/kuva/kuva/camera/StreamSizes" "step" "I" (.int x4)) (E0 : Exa Z h0 a0 "com/example/kuva/kuva/camera/StreamSizes") :
    MetFree l (⟨"com/example/kuva/kuva/camera/StreamSizes", "allows", "(II)Z"⟩ : MethodName) (head1 (Jvm.Cond.code (⟨"com/example/kuva/kuva/camera/StreamSizes", "allows", "(II)Z"⟩ : MethodName) prog_7_method_2_code 3 (some .boolean) :: ws) ({ frames := 1, cells := 0, slots := 0, locals := 15 } : Room)) (fun a U => a = #[(.ref a0), (.int p1), (.int p2)] ∧ Z.Warmed39 U.vm ∧ U.heap = h0) (fun _ _ _ _ _ => True) (fun _ U o U' => ∃ v L, o = .returned v ∧ own_Q n0 (fun h => h = h0) (some (.int (own_r7 p1 p2 x0 x1 x2 x3 x4))) v U'.heap L ∧ FrameEnd U o U' L ({ frames := 1, cells := 0, slots := 0, locals := 15 } : Room).cells ({ frames := 1, cells := 0, slots := 0, locals := 15 } : Room).slots) := by
  refine MetFree.of_bodySF (plainFor_of_name own_pn2) hisR ?_
  intro p e s m args below meth c s₁ Bd hml0 hP hK
  obtain ⟨rfl, hZ, hh⟩ := hP
  have hx := Bd.exec
  have hby := Bd.bytes
  have hml : c.maxLocals = 3 := hml0
  have hown : s.vm.findClass "com/example/kuva/kuva/camera/StreamSizes" = some m.cls := findClass_of_methodNamed Bd.named
  have hnm := (name_of_methodNamed Bd.named Bd.method).1
  have hret := Bd.returns
  have hlk : meth.locks = false := BodyLoose.notSynchronized Bd
  have X0 : Stand p l e ({ frames := 1, cells := 0, slots := 0, locals := 15 } : Room) s m #[(.ref a0), (.int p1), (.int p2)] below meth c s₁ [] 0 0 := Stand.of_body Bd
  have e0 : s₁.heap = h0 := by rw [← hh, Bd.state]; rfl
  have N0 := Fr.nil n0
  clear Bd hh hK
  refine own_fin ?_
  refine own_entry (own_ef7 m a0 p1 p2) ?_
  show own_Run p e below s₁ _ (own_Ret _ s below _ _ (own_Q n0 _ (some (.int (nar .boolean (own_f7_j37_S0 p1 x0 x1 x4 p2 x2 x3))))))
  show own_Run p e below s₁ (mkF m 0 #[.val (.ref a0), .val (.int p1), .val (.int p2)] []) _
  refine own_step (fun t k => XS.aloadN X0.here hx rfl (hb hby own_d7_0) rfl rfl k) ?_
  show own_Run p e below s₁ (mkF m 1 #[.val (.ref a0), .val (.int p1), .val (.int p2)] [(.ref a0)]) _
  refine own_step (fun t k => XS.iloadN X0.here hx rfl (hb hby own_d7_1) rfl  k) ?_
  show own_Run p e below s₁ (mkF m 2 #[.val (.ref a0), .val (.int p1), .val (.int p2)] [(.int p1), (.ref a0)]) _
  refine own_step (fun t k => XS.aloadN X0.here hx rfl (hb hby own_d7_2) rfl rfl k) ?_
  show own_Run p e below s₁ (mkF m 3 #[.val (.ref a0), .val (.int p1), .val (.int p2)] [(.ref a0), (.int p1), (.ref a0)]) _
  obtain ⟨T10, X10, e10, st10⟩ := getF X0 hx hZ hown (host := "") (Or.inl (hw _ (List.mem_of_getElem? (i := 36) rfl))) Via.refl e0 Fx0 (g := (mkF m 3 #[.val (.ref a0), .val (.int p1), .val (.int p2)] [(.ref a0), (.int p1), (.ref a0)])) rfl rfl (hb hby own_d7_3)
  refine own_step st10 ?_
  show own_Run p e below T10 (mkF m 6 #[.val (.ref a0), .val (.int p1), .val (.int p2)] [(.int x0), (.int p1), (.ref a0)]) _
  refine own_step (fun t k => XS.aloadN X10.here hx rfl (hb hby own_d7_6) rfl rfl k) ?_
  show own_Run p e below T10 (mkF m 7 #[.val (.ref a0), .val (.int p1), .val (.int p2)] [(.ref a0), (.int x0), (.int p1), (.ref a0)]) _
  obtain ⟨T11, X11, e11, st11⟩ := getF X10 hx hZ hown (host := "") (Or.inl (hw _ (List.mem_of_getElem? (i := 38) rfl))) Via.refl e10 Fx1 (g := (mkF m 7 #[.val (.ref a0), .val (.int p1), .val (.int p2)] [(.ref a0), (.int x0), (.int p1), (.ref a0)])) rfl rfl (hb hby own_d7_7)
  refine own_step st11 ?_
  show own_Run p e below T11 (mkF m 10 #[.val (.ref a0), .val (.int p1), .val (.int p2)] [(.int x1), (.int x0), (.int p1), (.ref a0)]) _
  obtain ⟨cq12, q12, q12'⟩ := E0.cell
  obtain ⟨_, _, ⟨T12, L12, kq12, nq12⟩, -, X12, ⟨Lc12, hQ12, lq12, yq12, zq12⟩, st12⟩ := X11.privateBack hx (y := (⟨"com/example/kuva/kuva/camera/StreamSizes", "allows", "(III)Z"⟩ : MethodName)) hown (mvT hZ (hw _ (List.mem_of_getElem? (i := 55) rfl))) (mvT hZ (hw _ (List.mem_of_getElem? (i := 56) rfl))) (own_selP hZ (hw _ (List.mem_of_getElem? (i := 9) rfl)) (hw _ (List.mem_of_getElem? (i := 57) rfl)) (hw _ (List.mem_of_getElem? (i := 56) rfl)) (by decide)) (Cond.privateMethod_at (mvP hZ (hw _ (List.mem_of_getElem? (i := 57) rfl)) (args := #[]))) (mvT hZ (hw _ (List.mem_of_getElem? (i := 58) rfl))) (by decide) (backOf (W := 0) (rm8 l Z av0 hw [] a0 p1 x0 x1 x4 h0 n0 Z0 hz Fx4) hZ (hw _ (List.mem_of_getElem? (i := 58) rfl)) (hw _ (List.mem_of_getElem? (i := 10) rfl)) (by decide) (by decide)) (g := (mkF m 10 #[.val (.ref a0), .val (.int p1), .val (.int p2)] [(.int x1), (.int x0), (.int p1), (.ref a0)])) rfl (by rw [hml]; rfl) (Steps.refl _) (a := a0) (by rw [e11]; exact q12) q12' (argsL := [(.int p1), (.int x0), (.int x1)]) (rest := []) (lenOf own_pd94 rfl) rfl (by show 2 * 0 + _ ≤ _; exact Nat.le_of_eq rfl) (hb hby own_d7_10) (fun _ _ => ⟨rfl, e11, (by decide : 0 + 0 ≤ _), (by decide : 0 + 0 ≤ _)⟩)
  dsimp only [Pt.U, Pt.locs, Pt.cells, Pt.slots] at X12 lq12 yq12 zq12 st12 hQ12
  subst lq12 yq12 zq12
  obtain ⟨rfl, N12q, e12⟩ := hQ12
  have N12 := Fr.app N0 N12q
  refine own_tr st12 ?_
  show own_Run p e below T12 (mkF m 13 #[.val (.ref a0), .val (.int p1), .val (.int p2)] [(.int (own_r8 p1 x0 x1 x4))]) _
  obtain ⟨_, st13, T13, L13, rfl, X13, e13, N13⟩ : own_Run p e below T12 (mkF m 13 #[.val (.ref a0), .val (.int p1), .val (.int p2)] [(.int (own_r8 p1 x0 x1 x4))]) (fun t => ∃ (T' : State) (L' : List Loc) , t = T'.setTop (mkF m 37 #[.val (.ref a0), .val (.int p1), .val (.int p2)] [(.int (own_f7_j37_S0 p1 x0 x1 x4 p2 x2 x3))]) ∧ Stand p l e ({ frames := 1, cells := 0, slots := 0, locals := 15 } : Room) s m #[(.ref a0), (.int p1), (.int p2)] below meth c T' L' 0 0 ∧ T'.heap = h0 ∧ Fr n0 L') := by
    by_cases hc14 : (own_r8 p1 x0 x1 x4) = (0 : Int32)
    · refine own_step (fun t k => XS.ifYes X12.here hx rfl (pc0 := 13) (pc' := 36) rfl (hb hby own_d7_13) rfl ((if0 _ _).trans (teq hc14).1) (by decide) (by decide) k) ?_
      show own_Run p e below T12 (mkF m 36 #[.val (.ref a0), .val (.int p1), .val (.int p2)] []) _
      refine own_step (fun t k => XS.iconst X12.here hx rfl (hb hby own_d7_36) k) ?_
      show own_Run p e below T12 (mkF m 37 #[.val (.ref a0), .val (.int p1), .val (.int p2)] [(.int (0 : Int32))]) _
      have hj0 : (own_f7_j37_S0 p1 x0 x1 x4 p2 x2 x3) = (0 : Int32) := (if_pos hc14)
      exact own_here ⟨T12, _, (by rw [hj0]), X12, e12, N12⟩
    · refine own_step (fun t k => XS.ifNo X12.here hx rfl (hb hby own_d7_13) rfl ((if0 _ _).trans (feq hc14).1) k) ?_
      show own_Run p e below T12 (mkF m 16 #[.val (.ref a0), .val (.int p1), .val (.int p2)] []) _
      refine own_step (fun t k => XS.aloadN X12.here hx rfl (hb hby own_d7_16) rfl rfl k) ?_
      show own_Run p e below T12 (mkF m 17 #[.val (.ref a0), .val (.int p1), .val (.int p2)] [(.ref a0)]) _
      refine own_step (fun t k => XS.iloadN X12.here hx rfl (hb hby own_d7_17) rfl  k) ?_
      show own_Run p e below T12 (mkF m 18 #[.val (.ref a0), .val (.int p1), .val (.int p2)] [(.int p2), (.ref a0)]) _
      refine own_step (fun t k => XS.aloadN X12.here hx rfl (hb hby own_d7_18) rfl rfl k) ?_
      show own_Run p e below T12 (mkF m 19 #[.val (.ref a0), .val (.int p1), .val (.int p2)] [(.ref a0), (.int p2), (.ref a0)]) _
      obtain ⟨T15, X15, e15, st15⟩ := getF X12 hx hZ hown (host := "") (Or.inl (hw _ (List.mem_of_getElem? (i := 40) rfl))) Via.refl e12 Fx2 (g := (mkF m 19 #[.val (.ref a0), .val (.int p1), .val (.int p2)] [(.ref a0), (.int p2), (.ref a0)])) rfl rfl (hb hby own_d7_19)
      refine own_step st15 ?_
      show own_Run p e below T15 (mkF m 22 #[.val (.ref a0), .val (.int p1), .val (.int p2)] [(.int x2), (.int p2), (.ref a0)]) _
      refine own_step (fun t k => XS.aloadN X15.here hx rfl (hb hby own_d7_22) rfl rfl k) ?_
      show own_Run p e below T15 (mkF m 23 #[.val (.ref a0), .val (.int p1), .val (.int p2)] [(.ref a0), (.int x2), (.int p2), (.ref a0)]) _
      obtain ⟨T16, X16, e16, st16⟩ := getF X15 hx hZ hown (host := "") (Or.inl (hw _ (List.mem_of_getElem? (i := 42) rfl))) Via.refl e15 Fx3 (g := (mkF m 23 #[.val (.ref a0), .val (.int p1), .val (.int p2)] [(.ref a0), (.int x2), (.int p2), (.ref a0)])) rfl rfl (hb hby own_d7_23)
      refine own_step st16 ?_
      show own_Run p e below T16 (mkF m 26 #[.val (.ref a0), .val (.int p1), .val (.int p2)] [(.int x3), (.int x2), (.int p2), (.ref a0)]) _
      obtain ⟨cq17, q17, q17'⟩ := E0.cell
      obtain ⟨_, _, ⟨T17, L17, kq17, nq17⟩, -, X17, ⟨Lc17, hQ17, lq17, yq17, zq17⟩, st17⟩ := X16.privateBack hx (y := (⟨"com/example/kuva/kuva/camera/StreamSizes", "allows", "(III)Z"⟩ : MethodName)) hown (mvT hZ (hw _ (List.mem_of_getElem? (i := 55) rfl))) (mvT hZ (hw _ (List.mem_of_getElem? (i := 56) rfl))) (own_selP hZ (hw _ (List.mem_of_getElem? (i := 9) rfl)) (hw _ (List.mem_of_getElem? (i := 57) rfl)) (hw _ (List.mem_of_getElem? (i := 56) rfl)) (by decide)) (Cond.privateMethod_at (mvP hZ (hw _ (List.mem_of_getElem? (i := 57) rfl)) (args := #[]))) (mvT hZ (hw _ (List.mem_of_getElem? (i := 58) rfl))) (by decide) (backOf (W := 0) (rm8 l Z av0 hw [] a0 p2 x2 x3 x4 h0 n0 Z0 hz Fx4) hZ (hw _ (List.mem_of_getElem? (i := 58) rfl)) (hw _ (List.mem_of_getElem? (i := 10) rfl)) (by decide) (by decide)) (g := (mkF m 26 #[.val (.ref a0), .val (.int p1), .val (.int p2)] [(.int x3), (.int x2), (.int p2), (.ref a0)])) rfl (by rw [hml]; rfl) (Steps.refl _) (a := a0) (by rw [e16]; exact q17) q17' (argsL := [(.int p2), (.int x2), (.int x3)]) (rest := []) (lenOf own_pd94 rfl) rfl (by show 2 * 0 + _ ≤ _; exact Nat.le_of_eq rfl) (hb hby own_d7_26) (fun _ _ => ⟨rfl, e16, (by decide : 0 + 0 ≤ _), (by decide : 0 + 0 ≤ _)⟩)
      dsimp only [Pt.U, Pt.locs, Pt.cells, Pt.slots] at X17 lq17 yq17 zq17 st17 hQ17
      subst lq17 yq17 zq17
      obtain ⟨rfl, N17q, e17⟩ := hQ17
      have N17 := Fr.app N12 N17q
      refine own_tr st17 ?_
      show own_Run p e below T17 (mkF m 29 #[.val (.ref a0), .val (.int p1), .val (.int p2)] [(.int (own_r8 p2 x2 x3 x4))]) _
      by_cases hc18 : (own_r8 p2 x2 x3 x4) = (0 : Int32)
      · refine own_step (fun t k => XS.ifYes X17.here hx rfl (pc0 := 29) (pc' := 36) rfl (hb hby own_d7_29) rfl ((if0 _ _).trans (teq hc18).1) (by decide) (by decide) k) ?_
        show own_Run p e below T17 (mkF m 36 #[.val (.ref a0), .val (.int p1), .val (.int p2)] []) _
        refine own_step (fun t k => XS.iconst X17.here hx rfl (hb hby own_d7_36) k) ?_
        show own_Run p e below T17 (mkF m 37 #[.val (.ref a0), .val (.int p1), .val (.int p2)] [(.int (0 : Int32))]) _
        have hj0 : (own_f7_j37_S0 p1 x0 x1 x4 p2 x2 x3) = (0 : Int32) := ((if_neg hc14).trans (if_pos hc18))
        exact own_here ⟨T17, _, (by rw [hj0]), X17, e17, N17⟩
      · refine own_step (fun t k => XS.ifNo X17.here hx rfl (hb hby own_d7_29) rfl ((if0 _ _).trans (feq hc18).1) k) ?_
        show own_Run p e below T17 (mkF m 32 #[.val (.ref a0), .val (.int p1), .val (.int p2)] []) _
        refine own_step (fun t k => XS.iconst X17.here hx rfl (hb hby own_d7_32) k) ?_
        show own_Run p e below T17 (mkF m 33 #[.val (.ref a0), .val (.int p1), .val (.int p2)] [(.int (1 : Int32))]) _
        refine own_step (fun t k => XS.goto X17.here hx rfl (pc0 := 33) (pc' := 37) rfl (hb hby own_d7_33) (by decide) (by decide) k) ?_
        show own_Run p e below T17 (mkF m 37 #[.val (.ref a0), .val (.int p1), .val (.int p2)] [(.int (1 : Int32))]) _
        have hj0 : (own_f7_j37_S0 p1 x0 x1 x4 p2 x2 x3) = (1 : Int32) := ((if_neg hc14).trans (if_neg hc18))
        exact own_here ⟨T17, _, (by rw [hj0]), X17, e17, N17⟩
  refine own_tr st13 ?_
  show own_Run p e below T13 (mkF m 37 #[.val (.ref a0), .val (.int p1), .val (.int p2)] [(.int (own_f7_j37_S0 p1 x0 x1 x4 p2 x2 x3))]) _
  exact own_retZ X13 hx hlk hret (hb hby own_d7_37) (by decide) (by decide) N13 e13
theorem own_pd115 : parseMethodDescriptor "(II)I" = some ⟨[.int, .int], some .int⟩ := by decide +kernel
theorem own_pd116 : parseMethodDescriptor "(Lcom/example/kuva/kuva/camera/ImageFormat;IIIII)V" = some ⟨[(.object "com/example/kuva/kuva/camera/ImageFormat"), .int, .int, .int, .int, .int], none⟩ := by decide +kernel
theorem own_pd117 : parseMethodDescriptor "(IIII)Z" = some ⟨[.int, .int, .int, .int], some .boolean⟩ := by decide +kernel
theorem own_pd118 : parseMethodDescriptor "(II)Z" = some ⟨[.int, .int], some .boolean⟩ := by decide +kernel
def own_f0_j15_S0 (p0 : Int32) (w0 : Addr) (w1 : Addr) : Addr := (if (p0 &&& (1 : Int32)) = (0 : Int32) then w0 else w1)
def own_f0_25 (q1 : Int64) : Int32 := (((own_ushrL q1 (32 : Int32))).toInt32 &&& (2147483647 : Int32))
def own_f0_39 (q2 : Int64) : Int32 := (((own_ushrL q2 (32 : Int32))).toInt32 &&& (2147483647 : Int32))
def own_f0_54 (p3 : Int32) : Int32 := (own_r1 (1 : Int32) (p3 &&& (2147483647 : Int32)))
def own_f0_j110_S0 (p4 : Int32) (q1 : Int64) (p3 : Int32) (p5 : Int32) (q2 : Int64) : Int32 := (if (own_r6 p4 (own_f0_25 q1) (q1).toInt32 (own_f0_54 p3)) = (0 : Int32) then (0 : Int32) else (if (own_r6 p5 (own_f0_39 q2) (q2).toInt32 (own_f0_54 p3)) = (0 : Int32) then (0 : Int32) else (1 : Int32)))
def own_f0_110 (p4 : Int32) (q1 : Int64) (p3 : Int32) (p5 : Int32) (q2 : Int64) : Int32 := (own_f0_j110_S0 p4 q1 p3 p5 q2)
def own_f0_j131_S0 (p4 : Int32) (p5 : Int32) (q1 : Int64) (q2 : Int64) (p3 : Int32) : Int32 := (if (own_r7 p4 p5 (own_f0_25 q1) (q1).toInt32 (own_f0_39 q2) (q2).toInt32 (own_f0_54 p3)) = (own_f0_110 p4 q1 p3 p5 q2) then (1 : Int32) else (0 : Int32))
def own_r0 (p0 : Int32) (q1 : Int64) (q2 : Int64) (p3 : Int32) (p4 : Int32) (p5 : Int32) : Int32 := (nar .boolean (own_f0_j131_S0 p4 p5 q1 q2 p3))
theorem own_ge1 (p3 : Int32) : 1 ≤ (own_f0_54 p3).toInt := by
  have e1 : (1 : Int32).toInt = 1 := by decide
  unfold own_f0_54 own_r1 own_f1_j10_S0
  split
  · rename_i h; rw [Int32.lt_iff_toInt_lt, e1] at h; omega
  · rw [e1]; omega
theorem own_step1 (p3 : Int32) : ¬ (own_f0_54 p3) < (1 : Int32) := by
  have e1 : (1 : Int32).toInt = 1 := by decide
  have := own_ge1 p3
  rw [Int32.lt_iff_toInt_lt, e1]; omega
theorem own_step0 (p3 : Int32) : (own_f0_54 p3) ≠ (0 : Int32) := by
  intro h
  have := own_ge1 p3
  rw [h] at this; exact absurd this (by decide)
theorem own_stepL (p3 : Int32) : (own_f0_54 p3).toInt64 ≠ (0 : Int64) := by
  intro h
  have := own_ge1 p3
  have q := congrArg Int64.toInt h
  rw [Jvm.Kit.i64_of_i32] at q
  have z : (0 : Int64).toInt = 0 := by decide
  omega

theorem own_ef0 (m : MethodId) (p0 : Int32) (q1 : Int64) (q2 : Int64) (p3 : Int32) (p4 : Int32) (p5 : Int32) : entryFrame m #[(.int p0), (.long q1), (.long q2), (.int p3), (.int p4), (.int p5)] maxLocals = (mkF m 0 #[.val (.int p0), .val (.long q1), .second, .val (.long q2), .second, .val (.int p3), .val (.int p4), .val (.int p5), .unset, .unset, .unset, .unset, .unset, .unset, .unset, .unset] []) := by first | (simp [entryFrame, mkF, argsToLocals, Value.category, maxLocals]; done) | rfl
set_option maxRecDepth 65536 in
set_option maxHeartbeats 40000000 in
theorem rm0 (l : Launch) (Z : State) (av0 : Array Value) (hw : ∀ d ∈ tables_1, d.before av0 Z = true) (ws : List Jvm.Cond) (p0 : Int32) (q1 : Int64) (q2 : Int64) (p3 : Int32) (p4 : Int32) (p5 : Int32) (w0 : Addr) (w1 : Addr) (h0 : Heap) (n0 : Nat) (Z0 : n0 ≤ h0.size) (Sy : Sta Z h0 "com/example/kuva/kuva/camera/ImageFormat" "YUV_420" "Lcom/example/kuva/kuva/camera/ImageFormat;" (.ref w0)) (Sj : Sta Z h0 "com/example/kuva/kuva/camera/ImageFormat" "JPEG" "Lcom/example/kuva/kuva/camera/ImageFormat;" (.ref w1)) :
    MetFree l x (head1 (Jvm.Cond.code x code maxLocals ret :: ws) room_1) (fun a U => a = #[(.int p0), (.long q1), (.long q2), (.int p3), (.int p4), (.int p5)] ∧ Z.Warmed39 U.vm ∧ U.heap = h0) (fun _ _ _ _ _ => True) (fun _ U o U' => ∃ v L, o = .returned v ∧ own_Q n0 (fun _ => True) (some (.int (own_r0 p0 q1 q2 p3 p4 p5))) v U'.heap L ∧ ReturnedEndW U o U' L room_1.cells room_1.slots) := by
  refine MetFree.of_bodySF (plainFor_of_name own_pn3) hisR ?_
  intro p e s m args below meth c s₁ Bd hml0 hP hK
  obtain ⟨rfl, hZ, hh⟩ := hP
  have hx := Bd.exec
  have hby := Bd.bytes
  have hml : c.maxLocals = 16 := hml0
  have hown : s.vm.findClass "com/example/kuva/kuva/camera/StreamSizesAllowsPinLaw" = some m.cls := findClass_of_methodNamed Bd.named
  have hnm := (name_of_methodNamed Bd.named Bd.method).1
  have hret := Bd.returns
  have hlk : meth.locks = false := BodyLoose.notSynchronized Bd
  have X0 : Stand p l e room_1 s m #[(.int p0), (.long q1), (.long q2), (.int p3), (.int p4), (.int p5)] below meth c s₁ [] 0 0 := Stand.of_body Bd
  have e0 : s₁.heap = h0 := by rw [← hh, Bd.state]; rfl
  have N0 := Fr.nil n0
  clear Bd hh hK
  refine own_fin ?_
  refine own_entry (own_ef0 m p0 q1 q2 p3 p4 p5) ?_
  show own_Run p e below s₁ _ (own_Ret _ s below _ _ (own_Q n0 _ (some (.int (nar .boolean (own_f0_j131_S0 p4 p5 q1 q2 p3))))))
  show own_Run p e below s₁ (mkF m 0 #[.val (.int p0), .val (.long q1), .second, .val (.long q2), .second, .val (.int p3), .val (.int p4), .val (.int p5), .unset, .unset, .unset, .unset, .unset, .unset, .unset, .unset] []) _
  refine own_step (fun t k => XS.iloadN X0.here hx rfl (hb hby at_0) rfl  k) ?_
  show own_Run p e below s₁ (mkF m 1 #[.val (.int p0), .val (.long q1), .second, .val (.long q2), .second, .val (.int p3), .val (.int p4), .val (.int p5), .unset, .unset, .unset, .unset, .unset, .unset, .unset, .unset] [(.int p0)]) _
  refine own_step (fun t k => XS.iconst X0.here hx rfl (hb hby at_1) k) ?_
  show own_Run p e below s₁ (mkF m 2 #[.val (.int p0), .val (.long q1), .second, .val (.long q2), .second, .val (.int p3), .val (.int p4), .val (.int p5), .unset, .unset, .unset, .unset, .unset, .unset, .unset, .unset] [(.int (1 : Int32)), (.int p0)]) _
  refine own_step (fun t k => XS.iand X0.here hx rfl (hb hby at_2) rfl k) ?_
  show own_Run p e below s₁ (mkF m 3 #[.val (.int p0), .val (.long q1), .second, .val (.long q2), .second, .val (.int p3), .val (.int p4), .val (.int p5), .unset, .unset, .unset, .unset, .unset, .unset, .unset, .unset] [(.int (p0 &&& (1 : Int32)))]) _
  obtain ⟨_, st26, T26, L26, rfl, X26, e26, N26⟩ : own_Run p e below s₁ (mkF m 3 #[.val (.int p0), .val (.long q1), .second, .val (.long q2), .second, .val (.int p3), .val (.int p4), .val (.int p5), .unset, .unset, .unset, .unset, .unset, .unset, .unset, .unset] [(.int (p0 &&& (1 : Int32)))]) (fun t => ∃ (T' : State) (L' : List Loc) , t = T'.setTop (mkF m 15 #[.val (.int p0), .val (.long q1), .second, .val (.long q2), .second, .val (.int p3), .val (.int p4), .val (.int p5), .unset, .unset, .unset, .unset, .unset, .unset, .unset, .unset] [(.ref (own_f0_j15_S0 p0 w0 w1))]) ∧ Stand p l e room_1 s m #[(.int p0), (.long q1), (.long q2), (.int p3), (.int p4), (.int p5)] below meth c T' L' 0 0 ∧ T'.heap = h0 ∧ Fr n0 L') := by
    by_cases hc27 : (p0 &&& (1 : Int32)) = (0 : Int32)
    · refine own_step (fun t k => XS.ifYes X0.here hx rfl (pc0 := 3) (pc' := 12) rfl (hb hby at_3) rfl ((if0 _ _).trans (teq hc27).1) (by decide) (by decide) k) ?_
      show own_Run p e below s₁ (mkF m 12 #[.val (.int p0), .val (.long q1), .second, .val (.long q2), .second, .val (.int p3), .val (.int p4), .val (.int p5), .unset, .unset, .unset, .unset, .unset, .unset, .unset, .unset] []) _
      obtain ⟨T28, X28, e28, st28⟩ := getS2 X0 hx hZ hown (host := "") (Or.inl (hw _ (List.mem_of_getElem? (i := 0) rfl))) Via.refl e0 Sy (g := (mkF m 12 #[.val (.int p0), .val (.long q1), .second, .val (.long q2), .second, .val (.int p3), .val (.int p4), .val (.int p5), .unset, .unset, .unset, .unset, .unset, .unset, .unset, .unset] [])) rfl (hb hby at_12)
      refine own_step st28 ?_
      show own_Run p e below T28 (mkF m 15 #[.val (.int p0), .val (.long q1), .second, .val (.long q2), .second, .val (.int p3), .val (.int p4), .val (.int p5), .unset, .unset, .unset, .unset, .unset, .unset, .unset, .unset] [(.ref w0)]) _
      have hj0 : (own_f0_j15_S0 p0 w0 w1) = w0 := (if_pos hc27)
      exact own_here ⟨T28, _, (by rw [hj0]), X28, e28, N0⟩
    · refine own_step (fun t k => XS.ifNo X0.here hx rfl (hb hby at_3) rfl ((if0 _ _).trans (feq hc27).1) k) ?_
      show own_Run p e below s₁ (mkF m 6 #[.val (.int p0), .val (.long q1), .second, .val (.long q2), .second, .val (.int p3), .val (.int p4), .val (.int p5), .unset, .unset, .unset, .unset, .unset, .unset, .unset, .unset] []) _
      obtain ⟨T29, X29, e29, st29⟩ := getS2 X0 hx hZ hown (host := "") (Or.inl (hw _ (List.mem_of_getElem? (i := 59) rfl))) Via.refl e0 Sj (g := (mkF m 6 #[.val (.int p0), .val (.long q1), .second, .val (.long q2), .second, .val (.int p3), .val (.int p4), .val (.int p5), .unset, .unset, .unset, .unset, .unset, .unset, .unset, .unset] [])) rfl (hb hby at_6)
      refine own_step st29 ?_
      show own_Run p e below T29 (mkF m 9 #[.val (.int p0), .val (.long q1), .second, .val (.long q2), .second, .val (.int p3), .val (.int p4), .val (.int p5), .unset, .unset, .unset, .unset, .unset, .unset, .unset, .unset] [(.ref w1)]) _
      refine own_step (fun t k => XS.goto X29.here hx rfl (pc0 := 9) (pc' := 15) rfl (hb hby at_9) (by decide) (by decide) k) ?_
      show own_Run p e below T29 (mkF m 15 #[.val (.int p0), .val (.long q1), .second, .val (.long q2), .second, .val (.int p3), .val (.int p4), .val (.int p5), .unset, .unset, .unset, .unset, .unset, .unset, .unset, .unset] [(.ref w1)]) _
      have hj0 : (own_f0_j15_S0 p0 w0 w1) = w1 := (if_neg hc27)
      exact own_here ⟨T29, _, (by rw [hj0]), X29, e29, N0⟩
  refine own_tr st26 ?_
  show own_Run p e below T26 (mkF m 15 #[.val (.int p0), .val (.long q1), .second, .val (.long q2), .second, .val (.int p3), .val (.int p4), .val (.int p5), .unset, .unset, .unset, .unset, .unset, .unset, .unset, .unset] [(.ref (own_f0_j15_S0 p0 w0 w1))]) _
  refine own_step (fun t k => XS.astore X26.here hx rfl (hb hby at_15) rfl rfl (l' := #[.val (.int p0), .val (.long q1), .second, .val (.long q2), .second, .val (.int p3), .val (.int p4), .val (.int p5), .val (.ref (own_f0_j15_S0 p0 w0 w1)), .unset, .unset, .unset, .unset, .unset, .unset, .unset]) rfl k) ?_
  show own_Run p e below T26 (mkF m 17 #[.val (.int p0), .val (.long q1), .second, .val (.long q2), .second, .val (.int p3), .val (.int p4), .val (.int p5), .val (.ref (own_f0_j15_S0 p0 w0 w1)), .unset, .unset, .unset, .unset, .unset, .unset, .unset] []) _
  refine own_step (fun t k => XS.lloadN X26.here hx rfl (hb hby at_17) rfl  k) ?_
  show own_Run p e below T26 (mkF m 18 #[.val (.int p0), .val (.long q1), .second, .val (.long q2), .second, .val (.int p3), .val (.int p4), .val (.int p5), .val (.ref (own_f0_j15_S0 p0 w0 w1)), .unset, .unset, .unset, .unset, .unset, .unset, .unset] [(.long q1)]) _
  refine own_step (fun t k => XS.bipush X26.here hx rfl (hb hby at_18) k) ?_
  show own_Run p e below T26 (mkF m 20 #[.val (.int p0), .val (.long q1), .second, .val (.long q2), .second, .val (.int p3), .val (.int p4), .val (.int p5), .val (.ref (own_f0_j15_S0 p0 w0 w1)), .unset, .unset, .unset, .unset, .unset, .unset, .unset] [(.int (32 : Int32)), (.long q1)]) _
  refine own_step (fun t k => XS.lushr X26.here hx rfl (hb hby at_20) rfl k) ?_
  show own_Run p e below T26 (mkF m 21 #[.val (.int p0), .val (.long q1), .second, .val (.long q2), .second, .val (.int p3), .val (.int p4), .val (.int p5), .val (.ref (own_f0_j15_S0 p0 w0 w1)), .unset, .unset, .unset, .unset, .unset, .unset, .unset] [(.long (own_ushrL q1 (32 : Int32)))]) _
  refine own_step (fun t k => XS.l2i X26.here hx rfl (hb hby at_21) rfl k) ?_
  show own_Run p e below T26 (mkF m 22 #[.val (.int p0), .val (.long q1), .second, .val (.long q2), .second, .val (.int p3), .val (.int p4), .val (.int p5), .val (.ref (own_f0_j15_S0 p0 w0 w1)), .unset, .unset, .unset, .unset, .unset, .unset, .unset] [(.int ((own_ushrL q1 (32 : Int32))).toInt32)]) _
  refine own_step (fun t k => X26.ldcInt hx hown (mvT hZ (hw _ (List.mem_of_getElem? (i := 3) rfl))) (g := (mkF m 22 #[.val (.int p0), .val (.long q1), .second, .val (.long q2), .second, .val (.int p3), .val (.int p4), .val (.int p5), .val (.ref (own_f0_j15_S0 p0 w0 w1)), .unset, .unset, .unset, .unset, .unset, .unset, .unset] [(.int ((own_ushrL q1 (32 : Int32))).toInt32)])) rfl (hb hby at_22) t k) ?_
  show own_Run p e below T26 (mkF m 24 #[.val (.int p0), .val (.long q1), .second, .val (.long q2), .second, .val (.int p3), .val (.int p4), .val (.int p5), .val (.ref (own_f0_j15_S0 p0 w0 w1)), .unset, .unset, .unset, .unset, .unset, .unset, .unset] [(.int (2147483647 : Int32)), (.int ((own_ushrL q1 (32 : Int32))).toInt32)]) _
  refine own_step (fun t k => XS.iand X26.here hx rfl (hb hby at_24) rfl k) ?_
  show own_Run p e below T26 (mkF m 25 #[.val (.int p0), .val (.long q1), .second, .val (.long q2), .second, .val (.int p3), .val (.int p4), .val (.int p5), .val (.ref (own_f0_j15_S0 p0 w0 w1)), .unset, .unset, .unset, .unset, .unset, .unset, .unset] [(.int (((own_ushrL q1 (32 : Int32))).toInt32 &&& (2147483647 : Int32)))]) _
  refine own_step (fun t k => XS.istore X26.here hx rfl (hb hby at_25) rfl (l' := #[.val (.int p0), .val (.long q1), .second, .val (.long q2), .second, .val (.int p3), .val (.int p4), .val (.int p5), .val (.ref (own_f0_j15_S0 p0 w0 w1)), .val (.int (own_f0_25 q1)), .unset, .unset, .unset, .unset, .unset, .unset]) rfl k) ?_
  show own_Run p e below T26 (mkF m 27 #[.val (.int p0), .val (.long q1), .second, .val (.long q2), .second, .val (.int p3), .val (.int p4), .val (.int p5), .val (.ref (own_f0_j15_S0 p0 w0 w1)), .val (.int (own_f0_25 q1)), .unset, .unset, .unset, .unset, .unset, .unset] []) _
  refine own_step (fun t k => XS.lloadN X26.here hx rfl (hb hby at_27) rfl  k) ?_
  show own_Run p e below T26 (mkF m 28 #[.val (.int p0), .val (.long q1), .second, .val (.long q2), .second, .val (.int p3), .val (.int p4), .val (.int p5), .val (.ref (own_f0_j15_S0 p0 w0 w1)), .val (.int (own_f0_25 q1)), .unset, .unset, .unset, .unset, .unset, .unset] [(.long q1)]) _
  refine own_step (fun t k => XS.l2i X26.here hx rfl (hb hby at_28) rfl k) ?_
  show own_Run p e below T26 (mkF m 29 #[.val (.int p0), .val (.long q1), .second, .val (.long q2), .second, .val (.int p3), .val (.int p4), .val (.int p5), .val (.ref (own_f0_j15_S0 p0 w0 w1)), .val (.int (own_f0_25 q1)), .unset, .unset, .unset, .unset, .unset, .unset] [(.int (q1).toInt32)]) _
  refine own_step (fun t k => XS.istore X26.here hx rfl (hb hby at_29) rfl (l' := #[.val (.int p0), .val (.long q1), .second, .val (.long q2), .second, .val (.int p3), .val (.int p4), .val (.int p5), .val (.ref (own_f0_j15_S0 p0 w0 w1)), .val (.int (own_f0_25 q1)), .val (.int (q1).toInt32), .unset, .unset, .unset, .unset, .unset]) rfl k) ?_
  show own_Run p e below T26 (mkF m 31 #[.val (.int p0), .val (.long q1), .second, .val (.long q2), .second, .val (.int p3), .val (.int p4), .val (.int p5), .val (.ref (own_f0_j15_S0 p0 w0 w1)), .val (.int (own_f0_25 q1)), .val (.int (q1).toInt32), .unset, .unset, .unset, .unset, .unset] []) _
  refine own_step (fun t k => XS.lloadN X26.here hx rfl (hb hby at_31) rfl  k) ?_
  show own_Run p e below T26 (mkF m 32 #[.val (.int p0), .val (.long q1), .second, .val (.long q2), .second, .val (.int p3), .val (.int p4), .val (.int p5), .val (.ref (own_f0_j15_S0 p0 w0 w1)), .val (.int (own_f0_25 q1)), .val (.int (q1).toInt32), .unset, .unset, .unset, .unset, .unset] [(.long q2)]) _
  refine own_step (fun t k => XS.bipush X26.here hx rfl (hb hby at_32) k) ?_
  show own_Run p e below T26 (mkF m 34 #[.val (.int p0), .val (.long q1), .second, .val (.long q2), .second, .val (.int p3), .val (.int p4), .val (.int p5), .val (.ref (own_f0_j15_S0 p0 w0 w1)), .val (.int (own_f0_25 q1)), .val (.int (q1).toInt32), .unset, .unset, .unset, .unset, .unset] [(.int (32 : Int32)), (.long q2)]) _
  refine own_step (fun t k => XS.lushr X26.here hx rfl (hb hby at_34) rfl k) ?_
  show own_Run p e below T26 (mkF m 35 #[.val (.int p0), .val (.long q1), .second, .val (.long q2), .second, .val (.int p3), .val (.int p4), .val (.int p5), .val (.ref (own_f0_j15_S0 p0 w0 w1)), .val (.int (own_f0_25 q1)), .val (.int (q1).toInt32), .unset, .unset, .unset, .unset, .unset] [(.long (own_ushrL q2 (32 : Int32)))]) _
  refine own_step (fun t k => XS.l2i X26.here hx rfl (hb hby at_35) rfl k) ?_
  show own_Run p e below T26 (mkF m 36 #[.val (.int p0), .val (.long q1), .second, .val (.long q2), .second, .val (.int p3), .val (.int p4), .val (.int p5), .val (.ref (own_f0_j15_S0 p0 w0 w1)), .val (.int (own_f0_25 q1)), .val (.int (q1).toInt32), .unset, .unset, .unset, .unset, .unset] [(.int ((own_ushrL q2 (32 : Int32))).toInt32)]) _
  refine own_step (fun t k => X26.ldcInt hx hown (mvT hZ (hw _ (List.mem_of_getElem? (i := 3) rfl))) (g := (mkF m 36 #[.val (.int p0), .val (.long q1), .second, .val (.long q2), .second, .val (.int p3), .val (.int p4), .val (.int p5), .val (.ref (own_f0_j15_S0 p0 w0 w1)), .val (.int (own_f0_25 q1)), .val (.int (q1).toInt32), .unset, .unset, .unset, .unset, .unset] [(.int ((own_ushrL q2 (32 : Int32))).toInt32)])) rfl (hb hby at_36) t k) ?_
  show own_Run p e below T26 (mkF m 38 #[.val (.int p0), .val (.long q1), .second, .val (.long q2), .second, .val (.int p3), .val (.int p4), .val (.int p5), .val (.ref (own_f0_j15_S0 p0 w0 w1)), .val (.int (own_f0_25 q1)), .val (.int (q1).toInt32), .unset, .unset, .unset, .unset, .unset] [(.int (2147483647 : Int32)), (.int ((own_ushrL q2 (32 : Int32))).toInt32)]) _
  refine own_step (fun t k => XS.iand X26.here hx rfl (hb hby at_38) rfl k) ?_
  show own_Run p e below T26 (mkF m 39 #[.val (.int p0), .val (.long q1), .second, .val (.long q2), .second, .val (.int p3), .val (.int p4), .val (.int p5), .val (.ref (own_f0_j15_S0 p0 w0 w1)), .val (.int (own_f0_25 q1)), .val (.int (q1).toInt32), .unset, .unset, .unset, .unset, .unset] [(.int (((own_ushrL q2 (32 : Int32))).toInt32 &&& (2147483647 : Int32)))]) _
  refine own_step (fun t k => XS.istore X26.here hx rfl (hb hby at_39) rfl (l' := #[.val (.int p0), .val (.long q1), .second, .val (.long q2), .second, .val (.int p3), .val (.int p4), .val (.int p5), .val (.ref (own_f0_j15_S0 p0 w0 w1)), .val (.int (own_f0_25 q1)), .val (.int (q1).toInt32), .val (.int (own_f0_39 q2)), .unset, .unset, .unset, .unset]) rfl k) ?_
  show own_Run p e below T26 (mkF m 41 #[.val (.int p0), .val (.long q1), .second, .val (.long q2), .second, .val (.int p3), .val (.int p4), .val (.int p5), .val (.ref (own_f0_j15_S0 p0 w0 w1)), .val (.int (own_f0_25 q1)), .val (.int (q1).toInt32), .val (.int (own_f0_39 q2)), .unset, .unset, .unset, .unset] []) _
  refine own_step (fun t k => XS.lloadN X26.here hx rfl (hb hby at_41) rfl  k) ?_
  show own_Run p e below T26 (mkF m 42 #[.val (.int p0), .val (.long q1), .second, .val (.long q2), .second, .val (.int p3), .val (.int p4), .val (.int p5), .val (.ref (own_f0_j15_S0 p0 w0 w1)), .val (.int (own_f0_25 q1)), .val (.int (q1).toInt32), .val (.int (own_f0_39 q2)), .unset, .unset, .unset, .unset] [(.long q2)]) _
  refine own_step (fun t k => XS.l2i X26.here hx rfl (hb hby at_42) rfl k) ?_
  show own_Run p e below T26 (mkF m 43 #[.val (.int p0), .val (.long q1), .second, .val (.long q2), .second, .val (.int p3), .val (.int p4), .val (.int p5), .val (.ref (own_f0_j15_S0 p0 w0 w1)), .val (.int (own_f0_25 q1)), .val (.int (q1).toInt32), .val (.int (own_f0_39 q2)), .unset, .unset, .unset, .unset] [(.int (q2).toInt32)]) _
  refine own_step (fun t k => XS.istore X26.here hx rfl (hb hby at_43) rfl (l' := #[.val (.int p0), .val (.long q1), .second, .val (.long q2), .second, .val (.int p3), .val (.int p4), .val (.int p5), .val (.ref (own_f0_j15_S0 p0 w0 w1)), .val (.int (own_f0_25 q1)), .val (.int (q1).toInt32), .val (.int (own_f0_39 q2)), .val (.int (q2).toInt32), .unset, .unset, .unset]) rfl k) ?_
  show own_Run p e below T26 (mkF m 45 #[.val (.int p0), .val (.long q1), .second, .val (.long q2), .second, .val (.int p3), .val (.int p4), .val (.int p5), .val (.ref (own_f0_j15_S0 p0 w0 w1)), .val (.int (own_f0_25 q1)), .val (.int (q1).toInt32), .val (.int (own_f0_39 q2)), .val (.int (q2).toInt32), .unset, .unset, .unset] []) _
  refine own_step (fun t k => XS.iconst X26.here hx rfl (hb hby at_45) k) ?_
  show own_Run p e below T26 (mkF m 46 #[.val (.int p0), .val (.long q1), .second, .val (.long q2), .second, .val (.int p3), .val (.int p4), .val (.int p5), .val (.ref (own_f0_j15_S0 p0 w0 w1)), .val (.int (own_f0_25 q1)), .val (.int (q1).toInt32), .val (.int (own_f0_39 q2)), .val (.int (q2).toInt32), .unset, .unset, .unset] [(.int (1 : Int32))]) _
  refine own_step (fun t k => XS.iload X26.here hx rfl (hb hby at_46) rfl  k) ?_
  show own_Run p e below T26 (mkF m 48 #[.val (.int p0), .val (.long q1), .second, .val (.long q2), .second, .val (.int p3), .val (.int p4), .val (.int p5), .val (.ref (own_f0_j15_S0 p0 w0 w1)), .val (.int (own_f0_25 q1)), .val (.int (q1).toInt32), .val (.int (own_f0_39 q2)), .val (.int (q2).toInt32), .unset, .unset, .unset] [(.int p3), (.int (1 : Int32))]) _
  refine own_step (fun t k => X26.ldcInt hx hown (mvT hZ (hw _ (List.mem_of_getElem? (i := 3) rfl))) (g := (mkF m 48 #[.val (.int p0), .val (.long q1), .second, .val (.long q2), .second, .val (.int p3), .val (.int p4), .val (.int p5), .val (.ref (own_f0_j15_S0 p0 w0 w1)), .val (.int (own_f0_25 q1)), .val (.int (q1).toInt32), .val (.int (own_f0_39 q2)), .val (.int (q2).toInt32), .unset, .unset, .unset] [(.int p3), (.int (1 : Int32))])) rfl (hb hby at_48) t k) ?_
  show own_Run p e below T26 (mkF m 50 #[.val (.int p0), .val (.long q1), .second, .val (.long q2), .second, .val (.int p3), .val (.int p4), .val (.int p5), .val (.ref (own_f0_j15_S0 p0 w0 w1)), .val (.int (own_f0_25 q1)), .val (.int (q1).toInt32), .val (.int (own_f0_39 q2)), .val (.int (q2).toInt32), .unset, .unset, .unset] [(.int (2147483647 : Int32)), (.int p3), (.int (1 : Int32))]) _
  refine own_step (fun t k => XS.iand X26.here hx rfl (hb hby at_50) rfl k) ?_
  show own_Run p e below T26 (mkF m 51 #[.val (.int p0), .val (.long q1), .second, .val (.long q2), .second, .val (.int p3), .val (.int p4), .val (.int p5), .val (.ref (own_f0_j15_S0 p0 w0 w1)), .val (.int (own_f0_25 q1)), .val (.int (q1).toInt32), .val (.int (own_f0_39 q2)), .val (.int (q2).toInt32), .unset, .unset, .unset] [(.int (p3 &&& (2147483647 : Int32))), (.int (1 : Int32))]) _
  obtain ⟨_, _, ⟨T30, L30, kq30, nq30⟩, -, X30, ⟨Lc30, hQ30, lq30, yq30, zq30⟩, st30⟩ := Jvm.LawKit.callS X26 hx (y := (⟨"java/lang/Math", "max", "(II)I"⟩ : MethodName)) hown (mvT hZ (hw _ (List.mem_of_getElem? (i := 4) rfl))) (mvT hZ (hw _ (List.mem_of_getElem? (i := 5) rfl))) (mvT hZ (hw _ (List.mem_of_getElem? (i := 6) rfl))) (mvT hZ (hw _ (List.mem_of_getElem? (i := 7) rfl))) (by decide) (backOf (W := 0) (rm1 l Z av0 hw [] (1 : Int32) (p3 &&& (2147483647 : Int32)) h0 n0 Z0 ) hZ (hw _ (List.mem_of_getElem? (i := 7) rfl)) (hw _ (List.mem_of_getElem? (i := 6) rfl)) (by decide) (by decide)) (g := (mkF m 51 #[.val (.int p0), .val (.long q1), .second, .val (.long q2), .second, .val (.int p3), .val (.int p4), .val (.int p5), .val (.ref (own_f0_j15_S0 p0 w0 w1)), .val (.int (own_f0_25 q1)), .val (.int (q1).toInt32), .val (.int (own_f0_39 q2)), .val (.int (q2).toInt32), .unset, .unset, .unset] [(.int (p3 &&& (2147483647 : Int32))), (.int (1 : Int32))])) rfl (by rw [hml]; rfl) (argsL := [(.int (1 : Int32)), (.int (p3 &&& (2147483647 : Int32)))]) (rest := []) (lenOf own_pd115 rfl) rfl (by show 2 * 0 + _ ≤ _; exact Nat.le_of_eq rfl) (hb hby at_51) (fun _ _ => ⟨rfl, e26, (by decide : 0 + 0 ≤ _), (by decide : 0 + 0 ≤ _)⟩)
  dsimp only [Pt.U, Pt.locs, Pt.cells, Pt.slots] at X30 lq30 yq30 zq30 st30 hQ30
  subst lq30 yq30 zq30
  obtain ⟨rfl, N30q, e30⟩ := hQ30
  have N30 := Fr.app N26 N30q
  refine own_step st30 ?_
  show own_Run p e below T30 (mkF m 54 #[.val (.int p0), .val (.long q1), .second, .val (.long q2), .second, .val (.int p3), .val (.int p4), .val (.int p5), .val (.ref (own_f0_j15_S0 p0 w0 w1)), .val (.int (own_f0_25 q1)), .val (.int (q1).toInt32), .val (.int (own_f0_39 q2)), .val (.int (q2).toInt32), .unset, .unset, .unset] [(.int (own_r1 (1 : Int32) (p3 &&& (2147483647 : Int32))))]) _
  refine own_step (fun t k => XS.istore X30.here hx rfl (hb hby at_54) rfl (l' := #[.val (.int p0), .val (.long q1), .second, .val (.long q2), .second, .val (.int p3), .val (.int p4), .val (.int p5), .val (.ref (own_f0_j15_S0 p0 w0 w1)), .val (.int (own_f0_25 q1)), .val (.int (q1).toInt32), .val (.int (own_f0_39 q2)), .val (.int (q2).toInt32), .val (.int (own_f0_54 p3)), .unset, .unset]) rfl k) ?_
  show own_Run p e below T30 (mkF m 56 #[.val (.int p0), .val (.long q1), .second, .val (.long q2), .second, .val (.int p3), .val (.int p4), .val (.int p5), .val (.ref (own_f0_j15_S0 p0 w0 w1)), .val (.int (own_f0_25 q1)), .val (.int (q1).toInt32), .val (.int (own_f0_39 q2)), .val (.int (q2).toInt32), .val (.int (own_f0_54 p3)), .unset, .unset] []) _
  obtain ⟨T31, h31, X31, e31, E31, A31, D31, -, st31⟩ := newO X30 hx hZ hown (hw _ (List.mem_of_getElem? (i := 8) rfl)) (hw _ (List.mem_of_getElem? (i := 9) rfl)) (hw _ (List.mem_of_getElem? (i := 10) rfl)) e30 (g := (mkF m 56 #[.val (.int p0), .val (.long q1), .second, .val (.long q2), .second, .val (.int p3), .val (.int p4), .val (.int p5), .val (.ref (own_f0_j15_S0 p0 w0 w1)), .val (.int (own_f0_25 q1)), .val (.int (q1).toInt32), .val (.int (own_f0_39 q2)), .val (.int (q2).toInt32), .val (.int (own_f0_54 p3)), .unset, .unset] [])) rfl (hb hby at_56) (by decide) (by decide)
  obtain ⟨b31, g31⟩ : ∃ z, z = h0.size := ⟨_, rfl⟩
  rw [← g31] at A31 D31 st31
  have f32 := Sta.ext E31 Sy
  have f33 := Sta.ext E31 Sj
  have geb31 : n0 ≤ b31 := Nat.le_trans Z0 (Nat.le_of_eq g31.symm)
  have Zn31 : n0 ≤ h31.size := Nat.le_trans Z0 E31.1
  have Fn34 : Fld Z h31 b31 "com/example/kuva/kuva/camera/StreamSizes" "format" "Lcom/example/kuva/kuva/camera/ImageFormat;" .null := D31 (Or.inr (hw _ (List.mem_of_getElem? (i := 35) rfl))) (ty := (.object "com/example/kuva/kuva/camera/ImageFormat")) (by decide)
  have Fn35 : Fld Z h31 b31 "com/example/kuva/kuva/camera/StreamSizes" "minWidth" "I" (.int (0 : Int32)) := D31 (Or.inr (hw _ (List.mem_of_getElem? (i := 37) rfl))) (ty := .int) (by decide)
  have Fn36 : Fld Z h31 b31 "com/example/kuva/kuva/camera/StreamSizes" "maxWidth" "I" (.int (0 : Int32)) := D31 (Or.inr (hw _ (List.mem_of_getElem? (i := 39) rfl))) (ty := .int) (by decide)
  have Fn37 : Fld Z h31 b31 "com/example/kuva/kuva/camera/StreamSizes" "minHeight" "I" (.int (0 : Int32)) := D31 (Or.inr (hw _ (List.mem_of_getElem? (i := 41) rfl))) (ty := .int) (by decide)
  have Fn38 : Fld Z h31 b31 "com/example/kuva/kuva/camera/StreamSizes" "maxHeight" "I" (.int (0 : Int32)) := D31 (Or.inr (hw _ (List.mem_of_getElem? (i := 43) rfl))) (ty := .int) (by decide)
  have Fn39 : Fld Z h31 b31 "com/example/kuva/kuva/camera/StreamSizes" "step" "I" (.int (0 : Int32)) := D31 (Or.inr (hw _ (List.mem_of_getElem? (i := 45) rfl))) (ty := .int) (by decide)
  refine own_step st31 ?_
  show own_Run p e below T31 (mkF m 59 #[.val (.int p0), .val (.long q1), .second, .val (.long q2), .second, .val (.int p3), .val (.int p4), .val (.int p5), .val (.ref (own_f0_j15_S0 p0 w0 w1)), .val (.int (own_f0_25 q1)), .val (.int (q1).toInt32), .val (.int (own_f0_39 q2)), .val (.int (q2).toInt32), .val (.int (own_f0_54 p3)), .unset, .unset] [(.ref b31)]) _
  refine own_step (fun t k => XS.dup X31.here hx rfl (hb hby at_59) rfl rfl k) ?_
  show own_Run p e below T31 (mkF m 60 #[.val (.int p0), .val (.long q1), .second, .val (.long q2), .second, .val (.int p3), .val (.int p4), .val (.int p5), .val (.ref (own_f0_j15_S0 p0 w0 w1)), .val (.int (own_f0_25 q1)), .val (.int (q1).toInt32), .val (.int (own_f0_39 q2)), .val (.int (q2).toInt32), .val (.int (own_f0_54 p3)), .unset, .unset] [(.ref b31), (.ref b31)]) _
  refine own_step (fun t k => XS.aload X31.here hx rfl (hb hby at_60) rfl rfl k) ?_
  show own_Run p e below T31 (mkF m 62 #[.val (.int p0), .val (.long q1), .second, .val (.long q2), .second, .val (.int p3), .val (.int p4), .val (.int p5), .val (.ref (own_f0_j15_S0 p0 w0 w1)), .val (.int (own_f0_25 q1)), .val (.int (q1).toInt32), .val (.int (own_f0_39 q2)), .val (.int (q2).toInt32), .val (.int (own_f0_54 p3)), .unset, .unset] [(.ref (own_f0_j15_S0 p0 w0 w1)), (.ref b31), (.ref b31)]) _
  refine own_step (fun t k => XS.iload X31.here hx rfl (hb hby at_62) rfl  k) ?_
  show own_Run p e below T31 (mkF m 64 #[.val (.int p0), .val (.long q1), .second, .val (.long q2), .second, .val (.int p3), .val (.int p4), .val (.int p5), .val (.ref (own_f0_j15_S0 p0 w0 w1)), .val (.int (own_f0_25 q1)), .val (.int (q1).toInt32), .val (.int (own_f0_39 q2)), .val (.int (q2).toInt32), .val (.int (own_f0_54 p3)), .unset, .unset] [(.int (own_f0_25 q1)), (.ref (own_f0_j15_S0 p0 w0 w1)), (.ref b31), (.ref b31)]) _
  refine own_step (fun t k => XS.iload X31.here hx rfl (hb hby at_64) rfl  k) ?_
  show own_Run p e below T31 (mkF m 66 #[.val (.int p0), .val (.long q1), .second, .val (.long q2), .second, .val (.int p3), .val (.int p4), .val (.int p5), .val (.ref (own_f0_j15_S0 p0 w0 w1)), .val (.int (own_f0_25 q1)), .val (.int (q1).toInt32), .val (.int (own_f0_39 q2)), .val (.int (q2).toInt32), .val (.int (own_f0_54 p3)), .unset, .unset] [(.int (q1).toInt32), (.int (own_f0_25 q1)), (.ref (own_f0_j15_S0 p0 w0 w1)), (.ref b31), (.ref b31)]) _
  refine own_step (fun t k => XS.iload X31.here hx rfl (hb hby at_66) rfl  k) ?_
  show own_Run p e below T31 (mkF m 68 #[.val (.int p0), .val (.long q1), .second, .val (.long q2), .second, .val (.int p3), .val (.int p4), .val (.int p5), .val (.ref (own_f0_j15_S0 p0 w0 w1)), .val (.int (own_f0_25 q1)), .val (.int (q1).toInt32), .val (.int (own_f0_39 q2)), .val (.int (q2).toInt32), .val (.int (own_f0_54 p3)), .unset, .unset] [(.int (own_f0_39 q2)), (.int (q1).toInt32), (.int (own_f0_25 q1)), (.ref (own_f0_j15_S0 p0 w0 w1)), (.ref b31), (.ref b31)]) _
  refine own_step (fun t k => XS.iload X31.here hx rfl (hb hby at_68) rfl  k) ?_
  show own_Run p e below T31 (mkF m 70 #[.val (.int p0), .val (.long q1), .second, .val (.long q2), .second, .val (.int p3), .val (.int p4), .val (.int p5), .val (.ref (own_f0_j15_S0 p0 w0 w1)), .val (.int (own_f0_25 q1)), .val (.int (q1).toInt32), .val (.int (own_f0_39 q2)), .val (.int (q2).toInt32), .val (.int (own_f0_54 p3)), .unset, .unset] [(.int (q2).toInt32), (.int (own_f0_39 q2)), (.int (q1).toInt32), (.int (own_f0_25 q1)), (.ref (own_f0_j15_S0 p0 w0 w1)), (.ref b31), (.ref b31)]) _
  refine own_step (fun t k => XS.iload X31.here hx rfl (hb hby at_70) rfl  k) ?_
  show own_Run p e below T31 (mkF m 72 #[.val (.int p0), .val (.long q1), .second, .val (.long q2), .second, .val (.int p3), .val (.int p4), .val (.int p5), .val (.ref (own_f0_j15_S0 p0 w0 w1)), .val (.int (own_f0_25 q1)), .val (.int (q1).toInt32), .val (.int (own_f0_39 q2)), .val (.int (q2).toInt32), .val (.int (own_f0_54 p3)), .unset, .unset] [(.int (own_f0_54 p3)), (.int (q2).toInt32), (.int (own_f0_39 q2)), (.int (q1).toInt32), (.int (own_f0_25 q1)), (.ref (own_f0_j15_S0 p0 w0 w1)), (.ref b31), (.ref b31)]) _
  obtain ⟨_, _, ⟨T40, L40, kq40, nq40⟩, -, X40, hS40, hgr40, ⟨Lc40, hQ40, lq40, yq40, zq40⟩, st40⟩ := X31.specialBackS hx (y := (⟨"com/example/kuva/kuva/camera/StreamSizes", "<init>", "(Lcom/example/kuva/kuva/camera/ImageFormat;IIIII)V"⟩ : MethodName)) rfl hown (mvT hZ (hw _ (List.mem_of_getElem? (i := 11) rfl))) (mvT hZ (hw _ (List.mem_of_getElem? (i := 12) rfl))) (mvT hZ (hw _ (List.mem_of_getElem? (i := 13) rfl))) (by decide) (backOfS (W := 1) (rm2 l Z av0 hw [] b31 (own_f0_j15_S0 p0 w0 w1) (own_f0_25 q1) (q1).toInt32 (own_f0_39 q2) (q2).toInt32 (own_f0_54 p3) h31 n0 Zn31 geb31 (own_step1 _) Fn34 Fn35 Fn36 Fn37 Fn38 Fn39 A31) hZ (hw _ (List.mem_of_getElem? (i := 13) rfl)) (hw _ (List.mem_of_getElem? (i := 10) rfl)) (by decide) (by decide)) (g := (mkF m 72 #[.val (.int p0), .val (.long q1), .second, .val (.long q2), .second, .val (.int p3), .val (.int p4), .val (.int p5), .val (.ref (own_f0_j15_S0 p0 w0 w1)), .val (.int (own_f0_25 q1)), .val (.int (q1).toInt32), .val (.int (own_f0_39 q2)), .val (.int (q2).toInt32), .val (.int (own_f0_54 p3)), .unset, .unset] [(.int (own_f0_54 p3)), (.int (q2).toInt32), (.int (own_f0_39 q2)), (.int (q1).toInt32), (.int (own_f0_25 q1)), (.ref (own_f0_j15_S0 p0 w0 w1)), (.ref b31), (.ref b31)])) rfl (by rw [hml]; rfl) (Steps.refl _) (a := b31) (argsL := [(.ref (own_f0_j15_S0 p0 w0 w1)), (.int (own_f0_25 q1)), (.int (q1).toInt32), (.int (own_f0_39 q2)), (.int (q2).toInt32), (.int (own_f0_54 p3))]) (rest := [(.ref b31)]) (lenOf own_pd116 rfl) rfl (by show 2 * 0 + _ ≤ _; exact Nat.le_of_eq rfl) (hb hby at_72) (fun _ _ => ⟨rfl, e31, (by decide : 1 + 2 ≤ _), (by decide : 6 + 28 ≤ _)⟩)
  have hZ : Z.Warmed39 (s.setVm T40.vm).vm := State.Warmed39.trans (t := s) hZ hS40.1
  have hown : (s.setVm T40.vm).vm.findClass "com/example/kuva/kuva/camera/StreamSizesAllowsPinLaw" = some m.cls := by rw [show (s.setVm T40.vm).vm = T40.vm from rfl, hS40.1.alike.findClass]; exact hown
  dsimp only [Pt.U, Pt.locs, Pt.cells, Pt.slots] at X40 lq40 yq40 zq40 st40 hQ40
  subst lq40 yq40 zq40
  obtain ⟨rfl, N40q, K40, P40_0, P40_1, P40_2, P40_3, P40_4, P40_5⟩ := hQ40
  have N40 := Fr.app N30 N40q
  have Zn40 : n0 ≤ T40.heap.size := Nat.le_trans Zn31 K40.1
  have P40_0x : Exa Z T40.heap b31 "com/example/kuva/kuva/camera/StreamSizes" := P40_0
  have P40_1x : Fld Z T40.heap b31 "com/example/kuva/kuva/camera/StreamSizes" "minWidth" "I" (.int (own_f0_25 q1)) := P40_1
  have P40_2x : Fld Z T40.heap b31 "com/example/kuva/kuva/camera/StreamSizes" "maxWidth" "I" (.int (q1).toInt32) := P40_2
  have P40_3x : Fld Z T40.heap b31 "com/example/kuva/kuva/camera/StreamSizes" "minHeight" "I" (.int (own_f0_39 q2)) := P40_3
  have P40_4x : Fld Z T40.heap b31 "com/example/kuva/kuva/camera/StreamSizes" "maxHeight" "I" (.int (q2).toInt32) := P40_4
  have P40_5x : Fld Z T40.heap b31 "com/example/kuva/kuva/camera/StreamSizes" "step" "I" (.int (own_f0_54 p3)) := P40_5
  have f41 := own_keepS f32 K40 (allS (own_plE A31) all0)
  have f42 := own_keepS f33 K40 (allS (own_plE A31) all0)
  refine own_tr st40 ?_
  show own_Run p e below T40 (mkF m 75 #[.val (.int p0), .val (.long q1), .second, .val (.long q2), .second, .val (.int p3), .val (.int p4), .val (.int p5), .val (.ref (own_f0_j15_S0 p0 w0 w1)), .val (.int (own_f0_25 q1)), .val (.int (q1).toInt32), .val (.int (own_f0_39 q2)), .val (.int (q2).toInt32), .val (.int (own_f0_54 p3)), .unset, .unset] [(.ref b31)]) _
  refine own_step (fun t k => XS.astore X40.here hx rfl (hb hby at_75) rfl rfl (l' := #[.val (.int p0), .val (.long q1), .second, .val (.long q2), .second, .val (.int p3), .val (.int p4), .val (.int p5), .val (.ref (own_f0_j15_S0 p0 w0 w1)), .val (.int (own_f0_25 q1)), .val (.int (q1).toInt32), .val (.int (own_f0_39 q2)), .val (.int (q2).toInt32), .val (.int (own_f0_54 p3)), .val (.ref b31), .unset]) rfl k) ?_
  show own_Run p e below T40 (mkF m 77 #[.val (.int p0), .val (.long q1), .second, .val (.long q2), .second, .val (.int p3), .val (.int p4), .val (.int p5), .val (.ref (own_f0_j15_S0 p0 w0 w1)), .val (.int (own_f0_25 q1)), .val (.int (q1).toInt32), .val (.int (own_f0_39 q2)), .val (.int (q2).toInt32), .val (.int (own_f0_54 p3)), .val (.ref b31), .unset] []) _
  refine own_step (fun t k => XS.iload X40.here hx rfl (hb hby at_77) rfl  k) ?_
  show own_Run p e below T40 (mkF m 79 #[.val (.int p0), .val (.long q1), .second, .val (.long q2), .second, .val (.int p3), .val (.int p4), .val (.int p5), .val (.ref (own_f0_j15_S0 p0 w0 w1)), .val (.int (own_f0_25 q1)), .val (.int (q1).toInt32), .val (.int (own_f0_39 q2)), .val (.int (q2).toInt32), .val (.int (own_f0_54 p3)), .val (.ref b31), .unset] [(.int p4)]) _
  refine own_step (fun t k => XS.iload X40.here hx rfl (hb hby at_79) rfl  k) ?_
  show own_Run p e below T40 (mkF m 81 #[.val (.int p0), .val (.long q1), .second, .val (.long q2), .second, .val (.int p3), .val (.int p4), .val (.int p5), .val (.ref (own_f0_j15_S0 p0 w0 w1)), .val (.int (own_f0_25 q1)), .val (.int (q1).toInt32), .val (.int (own_f0_39 q2)), .val (.int (q2).toInt32), .val (.int (own_f0_54 p3)), .val (.ref b31), .unset] [(.int (own_f0_25 q1)), (.int p4)]) _
  refine own_step (fun t k => XS.iload X40.here hx rfl (hb hby at_81) rfl  k) ?_
  show own_Run p e below T40 (mkF m 83 #[.val (.int p0), .val (.long q1), .second, .val (.long q2), .second, .val (.int p3), .val (.int p4), .val (.int p5), .val (.ref (own_f0_j15_S0 p0 w0 w1)), .val (.int (own_f0_25 q1)), .val (.int (q1).toInt32), .val (.int (own_f0_39 q2)), .val (.int (q2).toInt32), .val (.int (own_f0_54 p3)), .val (.ref b31), .unset] [(.int (q1).toInt32), (.int (own_f0_25 q1)), (.int p4)]) _
  refine own_step (fun t k => XS.iload X40.here hx rfl (hb hby at_83) rfl  k) ?_
  show own_Run p e below T40 (mkF m 85 #[.val (.int p0), .val (.long q1), .second, .val (.long q2), .second, .val (.int p3), .val (.int p4), .val (.int p5), .val (.ref (own_f0_j15_S0 p0 w0 w1)), .val (.int (own_f0_25 q1)), .val (.int (q1).toInt32), .val (.int (own_f0_39 q2)), .val (.int (q2).toInt32), .val (.int (own_f0_54 p3)), .val (.ref b31), .unset] [(.int (own_f0_54 p3)), (.int (q1).toInt32), (.int (own_f0_25 q1)), (.int p4)]) _
  obtain ⟨_, _, ⟨T43, L43, kq43, nq43⟩, -, X43, ⟨Lc43, hQ43, lq43, yq43, zq43⟩, st43⟩ := Jvm.LawKit.callS X40 hx (y := (⟨"com/example/kuva/kuva/camera/StreamSizesAllowsPinLaw", "fits", "(IIII)Z"⟩ : MethodName)) hown (mvT hZ (hw _ (List.mem_of_getElem? (i := 46) rfl))) (mvT hZ (hw _ (List.mem_of_getElem? (i := 47) rfl))) (mvT hZ (hw _ (List.mem_of_getElem? (i := 48) rfl))) (mvT hZ (hw _ (List.mem_of_getElem? (i := 49) rfl))) (by decide) (backOf (W := 0) (rm6 l Z av0 hw [] p4 (own_f0_25 q1) (q1).toInt32 (own_f0_54 p3) T40.heap n0 Zn40 (own_stepL _)) hZ (hw _ (List.mem_of_getElem? (i := 49) rfl)) (hw _ (List.mem_of_getElem? (i := 48) rfl)) (by decide) (by decide)) (g := (mkF m 85 #[.val (.int p0), .val (.long q1), .second, .val (.long q2), .second, .val (.int p3), .val (.int p4), .val (.int p5), .val (.ref (own_f0_j15_S0 p0 w0 w1)), .val (.int (own_f0_25 q1)), .val (.int (q1).toInt32), .val (.int (own_f0_39 q2)), .val (.int (q2).toInt32), .val (.int (own_f0_54 p3)), .val (.ref b31), .unset] [(.int (own_f0_54 p3)), (.int (q1).toInt32), (.int (own_f0_25 q1)), (.int p4)])) rfl (by rw [hml]; rfl) (argsL := [(.int p4), (.int (own_f0_25 q1)), (.int (q1).toInt32), (.int (own_f0_54 p3))]) (rest := []) (lenOf own_pd117 rfl) rfl (by show 2 * 0 + _ ≤ _; exact Nat.le_of_eq rfl) (hb hby at_85) (fun _ _ => ⟨rfl, rfl, (by decide : 3 + 0 ≤ _), (by decide : 34 + 0 ≤ _)⟩)
  dsimp only [Pt.U, Pt.locs, Pt.cells, Pt.slots] at X43 lq43 yq43 zq43 st43 hQ43
  subst lq43 yq43 zq43
  obtain ⟨rfl, N43q, e43⟩ := hQ43
  have N43 := Fr.app N40 N43q
  refine own_step st43 ?_
  show own_Run p e below T43 (mkF m 88 #[.val (.int p0), .val (.long q1), .second, .val (.long q2), .second, .val (.int p3), .val (.int p4), .val (.int p5), .val (.ref (own_f0_j15_S0 p0 w0 w1)), .val (.int (own_f0_25 q1)), .val (.int (q1).toInt32), .val (.int (own_f0_39 q2)), .val (.int (q2).toInt32), .val (.int (own_f0_54 p3)), .val (.ref b31), .unset] [(.int (own_r6 p4 (own_f0_25 q1) (q1).toInt32 (own_f0_54 p3)))]) _
  obtain ⟨_, st44, T44, L44, rfl, X44, e44, N44⟩ : own_Run p e below T43 (mkF m 88 #[.val (.int p0), .val (.long q1), .second, .val (.long q2), .second, .val (.int p3), .val (.int p4), .val (.int p5), .val (.ref (own_f0_j15_S0 p0 w0 w1)), .val (.int (own_f0_25 q1)), .val (.int (q1).toInt32), .val (.int (own_f0_39 q2)), .val (.int (q2).toInt32), .val (.int (own_f0_54 p3)), .val (.ref b31), .unset] [(.int (own_r6 p4 (own_f0_25 q1) (q1).toInt32 (own_f0_54 p3)))]) (fun t => ∃ (T' : State) (L' : List Loc) , t = T'.setTop (mkF m 110 #[.val (.int p0), .val (.long q1), .second, .val (.long q2), .second, .val (.int p3), .val (.int p4), .val (.int p5), .val (.ref (own_f0_j15_S0 p0 w0 w1)), .val (.int (own_f0_25 q1)), .val (.int (q1).toInt32), .val (.int (own_f0_39 q2)), .val (.int (q2).toInt32), .val (.int (own_f0_54 p3)), .val (.ref b31), .unset] [(.int (own_f0_j110_S0 p4 q1 p3 p5 q2))]) ∧ Stand p l e room_1 (s.setVm T40.vm) m #[(.int p0), (.long q1), (.long q2), (.int p3), (.int p4), (.int p5)] below meth c T' L' 3 34 ∧ T'.heap = T40.heap ∧ Fr n0 L') := by
    by_cases hc45 : (own_r6 p4 (own_f0_25 q1) (q1).toInt32 (own_f0_54 p3)) = (0 : Int32)
    · refine own_step (fun t k => XS.ifYes X43.here hx rfl (pc0 := 88) (pc' := 109) rfl (hb hby at_88) rfl ((if0 _ _).trans (teq hc45).1) (by decide) (by decide) k) ?_
      show own_Run p e below T43 (mkF m 109 #[.val (.int p0), .val (.long q1), .second, .val (.long q2), .second, .val (.int p3), .val (.int p4), .val (.int p5), .val (.ref (own_f0_j15_S0 p0 w0 w1)), .val (.int (own_f0_25 q1)), .val (.int (q1).toInt32), .val (.int (own_f0_39 q2)), .val (.int (q2).toInt32), .val (.int (own_f0_54 p3)), .val (.ref b31), .unset] []) _
      refine own_step (fun t k => XS.iconst X43.here hx rfl (hb hby at_109) k) ?_
      show own_Run p e below T43 (mkF m 110 #[.val (.int p0), .val (.long q1), .second, .val (.long q2), .second, .val (.int p3), .val (.int p4), .val (.int p5), .val (.ref (own_f0_j15_S0 p0 w0 w1)), .val (.int (own_f0_25 q1)), .val (.int (q1).toInt32), .val (.int (own_f0_39 q2)), .val (.int (q2).toInt32), .val (.int (own_f0_54 p3)), .val (.ref b31), .unset] [(.int (0 : Int32))]) _
      have hj0 : (own_f0_j110_S0 p4 q1 p3 p5 q2) = (0 : Int32) := (if_pos hc45)
      exact own_here ⟨T43, _, (by rw [hj0]), X43, e43, N43⟩
    · refine own_step (fun t k => XS.ifNo X43.here hx rfl (hb hby at_88) rfl ((if0 _ _).trans (feq hc45).1) k) ?_
      show own_Run p e below T43 (mkF m 91 #[.val (.int p0), .val (.long q1), .second, .val (.long q2), .second, .val (.int p3), .val (.int p4), .val (.int p5), .val (.ref (own_f0_j15_S0 p0 w0 w1)), .val (.int (own_f0_25 q1)), .val (.int (q1).toInt32), .val (.int (own_f0_39 q2)), .val (.int (q2).toInt32), .val (.int (own_f0_54 p3)), .val (.ref b31), .unset] []) _
      refine own_step (fun t k => XS.iload X43.here hx rfl (hb hby at_91) rfl  k) ?_
      show own_Run p e below T43 (mkF m 93 #[.val (.int p0), .val (.long q1), .second, .val (.long q2), .second, .val (.int p3), .val (.int p4), .val (.int p5), .val (.ref (own_f0_j15_S0 p0 w0 w1)), .val (.int (own_f0_25 q1)), .val (.int (q1).toInt32), .val (.int (own_f0_39 q2)), .val (.int (q2).toInt32), .val (.int (own_f0_54 p3)), .val (.ref b31), .unset] [(.int p5)]) _
      refine own_step (fun t k => XS.iload X43.here hx rfl (hb hby at_93) rfl  k) ?_
      show own_Run p e below T43 (mkF m 95 #[.val (.int p0), .val (.long q1), .second, .val (.long q2), .second, .val (.int p3), .val (.int p4), .val (.int p5), .val (.ref (own_f0_j15_S0 p0 w0 w1)), .val (.int (own_f0_25 q1)), .val (.int (q1).toInt32), .val (.int (own_f0_39 q2)), .val (.int (q2).toInt32), .val (.int (own_f0_54 p3)), .val (.ref b31), .unset] [(.int (own_f0_39 q2)), (.int p5)]) _
      refine own_step (fun t k => XS.iload X43.here hx rfl (hb hby at_95) rfl  k) ?_
      show own_Run p e below T43 (mkF m 97 #[.val (.int p0), .val (.long q1), .second, .val (.long q2), .second, .val (.int p3), .val (.int p4), .val (.int p5), .val (.ref (own_f0_j15_S0 p0 w0 w1)), .val (.int (own_f0_25 q1)), .val (.int (q1).toInt32), .val (.int (own_f0_39 q2)), .val (.int (q2).toInt32), .val (.int (own_f0_54 p3)), .val (.ref b31), .unset] [(.int (q2).toInt32), (.int (own_f0_39 q2)), (.int p5)]) _
      refine own_step (fun t k => XS.iload X43.here hx rfl (hb hby at_97) rfl  k) ?_
      show own_Run p e below T43 (mkF m 99 #[.val (.int p0), .val (.long q1), .second, .val (.long q2), .second, .val (.int p3), .val (.int p4), .val (.int p5), .val (.ref (own_f0_j15_S0 p0 w0 w1)), .val (.int (own_f0_25 q1)), .val (.int (q1).toInt32), .val (.int (own_f0_39 q2)), .val (.int (q2).toInt32), .val (.int (own_f0_54 p3)), .val (.ref b31), .unset] [(.int (own_f0_54 p3)), (.int (q2).toInt32), (.int (own_f0_39 q2)), (.int p5)]) _
      obtain ⟨_, _, ⟨T46, L46, kq46, nq46⟩, -, X46, ⟨Lc46, hQ46, lq46, yq46, zq46⟩, st46⟩ := Jvm.LawKit.callS X43 hx (y := (⟨"com/example/kuva/kuva/camera/StreamSizesAllowsPinLaw", "fits", "(IIII)Z"⟩ : MethodName)) hown (mvT hZ (hw _ (List.mem_of_getElem? (i := 46) rfl))) (mvT hZ (hw _ (List.mem_of_getElem? (i := 47) rfl))) (mvT hZ (hw _ (List.mem_of_getElem? (i := 48) rfl))) (mvT hZ (hw _ (List.mem_of_getElem? (i := 49) rfl))) (by decide) (backOf (W := 0) (rm6 l Z av0 hw [] p5 (own_f0_39 q2) (q2).toInt32 (own_f0_54 p3) T40.heap n0 Zn40 (own_stepL _)) hZ (hw _ (List.mem_of_getElem? (i := 49) rfl)) (hw _ (List.mem_of_getElem? (i := 48) rfl)) (by decide) (by decide)) (g := (mkF m 99 #[.val (.int p0), .val (.long q1), .second, .val (.long q2), .second, .val (.int p3), .val (.int p4), .val (.int p5), .val (.ref (own_f0_j15_S0 p0 w0 w1)), .val (.int (own_f0_25 q1)), .val (.int (q1).toInt32), .val (.int (own_f0_39 q2)), .val (.int (q2).toInt32), .val (.int (own_f0_54 p3)), .val (.ref b31), .unset] [(.int (own_f0_54 p3)), (.int (q2).toInt32), (.int (own_f0_39 q2)), (.int p5)])) rfl (by rw [hml]; rfl) (argsL := [(.int p5), (.int (own_f0_39 q2)), (.int (q2).toInt32), (.int (own_f0_54 p3))]) (rest := []) (lenOf own_pd117 rfl) rfl (by show 2 * 0 + _ ≤ _; exact Nat.le_of_eq rfl) (hb hby at_99) (fun _ _ => ⟨rfl, e43, (by decide : 3 + 0 ≤ _), (by decide : 34 + 0 ≤ _)⟩)
      dsimp only [Pt.U, Pt.locs, Pt.cells, Pt.slots] at X46 lq46 yq46 zq46 st46 hQ46
      subst lq46 yq46 zq46
      obtain ⟨rfl, N46q, e46⟩ := hQ46
      have N46 := Fr.app N43 N46q
      refine own_step st46 ?_
      show own_Run p e below T46 (mkF m 102 #[.val (.int p0), .val (.long q1), .second, .val (.long q2), .second, .val (.int p3), .val (.int p4), .val (.int p5), .val (.ref (own_f0_j15_S0 p0 w0 w1)), .val (.int (own_f0_25 q1)), .val (.int (q1).toInt32), .val (.int (own_f0_39 q2)), .val (.int (q2).toInt32), .val (.int (own_f0_54 p3)), .val (.ref b31), .unset] [(.int (own_r6 p5 (own_f0_39 q2) (q2).toInt32 (own_f0_54 p3)))]) _
      by_cases hc47 : (own_r6 p5 (own_f0_39 q2) (q2).toInt32 (own_f0_54 p3)) = (0 : Int32)
      · refine own_step (fun t k => XS.ifYes X46.here hx rfl (pc0 := 102) (pc' := 109) rfl (hb hby at_102) rfl ((if0 _ _).trans (teq hc47).1) (by decide) (by decide) k) ?_
        show own_Run p e below T46 (mkF m 109 #[.val (.int p0), .val (.long q1), .second, .val (.long q2), .second, .val (.int p3), .val (.int p4), .val (.int p5), .val (.ref (own_f0_j15_S0 p0 w0 w1)), .val (.int (own_f0_25 q1)), .val (.int (q1).toInt32), .val (.int (own_f0_39 q2)), .val (.int (q2).toInt32), .val (.int (own_f0_54 p3)), .val (.ref b31), .unset] []) _
        refine own_step (fun t k => XS.iconst X46.here hx rfl (hb hby at_109) k) ?_
        show own_Run p e below T46 (mkF m 110 #[.val (.int p0), .val (.long q1), .second, .val (.long q2), .second, .val (.int p3), .val (.int p4), .val (.int p5), .val (.ref (own_f0_j15_S0 p0 w0 w1)), .val (.int (own_f0_25 q1)), .val (.int (q1).toInt32), .val (.int (own_f0_39 q2)), .val (.int (q2).toInt32), .val (.int (own_f0_54 p3)), .val (.ref b31), .unset] [(.int (0 : Int32))]) _
        have hj0 : (own_f0_j110_S0 p4 q1 p3 p5 q2) = (0 : Int32) := ((if_neg hc45).trans (if_pos hc47))
        exact own_here ⟨T46, _, (by rw [hj0]), X46, e46, N46⟩
      · refine own_step (fun t k => XS.ifNo X46.here hx rfl (hb hby at_102) rfl ((if0 _ _).trans (feq hc47).1) k) ?_
        show own_Run p e below T46 (mkF m 105 #[.val (.int p0), .val (.long q1), .second, .val (.long q2), .second, .val (.int p3), .val (.int p4), .val (.int p5), .val (.ref (own_f0_j15_S0 p0 w0 w1)), .val (.int (own_f0_25 q1)), .val (.int (q1).toInt32), .val (.int (own_f0_39 q2)), .val (.int (q2).toInt32), .val (.int (own_f0_54 p3)), .val (.ref b31), .unset] []) _
        refine own_step (fun t k => XS.iconst X46.here hx rfl (hb hby at_105) k) ?_
        show own_Run p e below T46 (mkF m 106 #[.val (.int p0), .val (.long q1), .second, .val (.long q2), .second, .val (.int p3), .val (.int p4), .val (.int p5), .val (.ref (own_f0_j15_S0 p0 w0 w1)), .val (.int (own_f0_25 q1)), .val (.int (q1).toInt32), .val (.int (own_f0_39 q2)), .val (.int (q2).toInt32), .val (.int (own_f0_54 p3)), .val (.ref b31), .unset] [(.int (1 : Int32))]) _
        refine own_step (fun t k => XS.goto X46.here hx rfl (pc0 := 106) (pc' := 110) rfl (hb hby at_106) (by decide) (by decide) k) ?_
        show own_Run p e below T46 (mkF m 110 #[.val (.int p0), .val (.long q1), .second, .val (.long q2), .second, .val (.int p3), .val (.int p4), .val (.int p5), .val (.ref (own_f0_j15_S0 p0 w0 w1)), .val (.int (own_f0_25 q1)), .val (.int (q1).toInt32), .val (.int (own_f0_39 q2)), .val (.int (q2).toInt32), .val (.int (own_f0_54 p3)), .val (.ref b31), .unset] [(.int (1 : Int32))]) _
        have hj0 : (own_f0_j110_S0 p4 q1 p3 p5 q2) = (1 : Int32) := ((if_neg hc45).trans (if_neg hc47))
        exact own_here ⟨T46, _, (by rw [hj0]), X46, e46, N46⟩
  refine own_tr st44 ?_
  show own_Run p e below T44 (mkF m 110 #[.val (.int p0), .val (.long q1), .second, .val (.long q2), .second, .val (.int p3), .val (.int p4), .val (.int p5), .val (.ref (own_f0_j15_S0 p0 w0 w1)), .val (.int (own_f0_25 q1)), .val (.int (q1).toInt32), .val (.int (own_f0_39 q2)), .val (.int (q2).toInt32), .val (.int (own_f0_54 p3)), .val (.ref b31), .unset] [(.int (own_f0_j110_S0 p4 q1 p3 p5 q2))]) _
  refine own_step (fun t k => XS.istore X44.here hx rfl (hb hby at_110) rfl (l' := #[.val (.int p0), .val (.long q1), .second, .val (.long q2), .second, .val (.int p3), .val (.int p4), .val (.int p5), .val (.ref (own_f0_j15_S0 p0 w0 w1)), .val (.int (own_f0_25 q1)), .val (.int (q1).toInt32), .val (.int (own_f0_39 q2)), .val (.int (q2).toInt32), .val (.int (own_f0_54 p3)), .val (.ref b31), .val (.int (own_f0_110 p4 q1 p3 p5 q2))]) rfl k) ?_
  show own_Run p e below T44 (mkF m 112 #[.val (.int p0), .val (.long q1), .second, .val (.long q2), .second, .val (.int p3), .val (.int p4), .val (.int p5), .val (.ref (own_f0_j15_S0 p0 w0 w1)), .val (.int (own_f0_25 q1)), .val (.int (q1).toInt32), .val (.int (own_f0_39 q2)), .val (.int (q2).toInt32), .val (.int (own_f0_54 p3)), .val (.ref b31), .val (.int (own_f0_110 p4 q1 p3 p5 q2))] []) _
  refine own_step (fun t k => XS.aload X44.here hx rfl (hb hby at_112) rfl rfl k) ?_
  show own_Run p e below T44 (mkF m 114 #[.val (.int p0), .val (.long q1), .second, .val (.long q2), .second, .val (.int p3), .val (.int p4), .val (.int p5), .val (.ref (own_f0_j15_S0 p0 w0 w1)), .val (.int (own_f0_25 q1)), .val (.int (q1).toInt32), .val (.int (own_f0_39 q2)), .val (.int (q2).toInt32), .val (.int (own_f0_54 p3)), .val (.ref b31), .val (.int (own_f0_110 p4 q1 p3 p5 q2))] [(.ref b31)]) _
  refine own_step (fun t k => XS.iload X44.here hx rfl (hb hby at_114) rfl  k) ?_
  show own_Run p e below T44 (mkF m 116 #[.val (.int p0), .val (.long q1), .second, .val (.long q2), .second, .val (.int p3), .val (.int p4), .val (.int p5), .val (.ref (own_f0_j15_S0 p0 w0 w1)), .val (.int (own_f0_25 q1)), .val (.int (q1).toInt32), .val (.int (own_f0_39 q2)), .val (.int (q2).toInt32), .val (.int (own_f0_54 p3)), .val (.ref b31), .val (.int (own_f0_110 p4 q1 p3 p5 q2))] [(.int p4), (.ref b31)]) _
  refine own_step (fun t k => XS.iload X44.here hx rfl (hb hby at_116) rfl  k) ?_
  show own_Run p e below T44 (mkF m 118 #[.val (.int p0), .val (.long q1), .second, .val (.long q2), .second, .val (.int p3), .val (.int p4), .val (.int p5), .val (.ref (own_f0_j15_S0 p0 w0 w1)), .val (.int (own_f0_25 q1)), .val (.int (q1).toInt32), .val (.int (own_f0_39 q2)), .val (.int (q2).toInt32), .val (.int (own_f0_54 p3)), .val (.ref b31), .val (.int (own_f0_110 p4 q1 p3 p5 q2))] [(.int p5), (.int p4), (.ref b31)]) _
  obtain ⟨cq48, kq48, q48a, q48b, q48c⟩ := isOf hZ e44 P40_0x
  obtain ⟨_, _, ⟨T48, L48, kq48, nq48⟩, -, X48, ⟨Lc48, hQ48, lq48, yq48, zq48⟩, st48⟩ := X44.virtualBack hx (y := (⟨"com/example/kuva/kuva/camera/StreamSizes", "allows", "(II)Z"⟩ : MethodName)) (z := (⟨"com/example/kuva/kuva/camera/StreamSizes", "allows", "(II)Z"⟩ : MethodName)) hown (mvT hZ (hw _ (List.mem_of_getElem? (i := 50) rfl))) (mvT hZ (hw _ (List.mem_of_getElem? (i := 51) rfl))) (notFace_of_selects (args := #[]) (mvT hZ (hw _ (List.mem_of_getElem? (i := 53) rfl)))) (mvT hZ (hw _ (List.mem_of_getElem? (i := 53) rfl))) (mvT hZ (hw _ (List.mem_of_getElem? (i := 52) rfl))) (by decide) (backOf (W := 0) (rm7 l Z av0 hw [] b31 p4 p5 (own_f0_25 q1) (q1).toInt32 (own_f0_39 q2) (q2).toInt32 (own_f0_54 p3) T40.heap n0 Zn40 (own_step0 _) P40_1x P40_2x P40_3x P40_4x P40_5x P40_0x) hZ (hw _ (List.mem_of_getElem? (i := 54) rfl)) (hw _ (List.mem_of_getElem? (i := 10) rfl)) (by decide) (by decide)) q48a q48c (g := (mkF m 118 #[.val (.int p0), .val (.long q1), .second, .val (.long q2), .second, .val (.int p3), .val (.int p4), .val (.int p5), .val (.ref (own_f0_j15_S0 p0 w0 w1)), .val (.int (own_f0_25 q1)), .val (.int (q1).toInt32), .val (.int (own_f0_39 q2)), .val (.int (q2).toInt32), .val (.int (own_f0_54 p3)), .val (.ref b31), .val (.int (own_f0_110 p4 q1 p3 p5 q2))] [(.int p5), (.int p4), (.ref b31)])) rfl (by rw [hml]; rfl) (Steps.refl _) (argsL := [(.int p4), (.int p5)]) (rest := []) (lenOf own_pd118 rfl) rfl (by show 2 * 0 + _ ≤ _; exact Nat.le_of_eq rfl) (hb hby at_118) (fun _ _ => ⟨rfl, e44, (by decide : 3 + 0 ≤ _), (by decide : 34 + 0 ≤ _)⟩)
  dsimp only [Pt.U, Pt.locs, Pt.cells, Pt.slots] at X48 lq48 yq48 zq48 st48 hQ48
  subst lq48 yq48 zq48
  obtain ⟨rfl, N48q, e48⟩ := hQ48
  have N48 := Fr.app N44 N48q
  refine own_tr st48 ?_
  show own_Run p e below T48 (mkF m 121 #[.val (.int p0), .val (.long q1), .second, .val (.long q2), .second, .val (.int p3), .val (.int p4), .val (.int p5), .val (.ref (own_f0_j15_S0 p0 w0 w1)), .val (.int (own_f0_25 q1)), .val (.int (q1).toInt32), .val (.int (own_f0_39 q2)), .val (.int (q2).toInt32), .val (.int (own_f0_54 p3)), .val (.ref b31), .val (.int (own_f0_110 p4 q1 p3 p5 q2))] [(.int (own_r7 p4 p5 (own_f0_25 q1) (q1).toInt32 (own_f0_39 q2) (q2).toInt32 (own_f0_54 p3)))]) _
  refine own_step (fun t k => XS.iload X48.here hx rfl (hb hby at_121) rfl  k) ?_
  show own_Run p e below T48 (mkF m 123 #[.val (.int p0), .val (.long q1), .second, .val (.long q2), .second, .val (.int p3), .val (.int p4), .val (.int p5), .val (.ref (own_f0_j15_S0 p0 w0 w1)), .val (.int (own_f0_25 q1)), .val (.int (q1).toInt32), .val (.int (own_f0_39 q2)), .val (.int (q2).toInt32), .val (.int (own_f0_54 p3)), .val (.ref b31), .val (.int (own_f0_110 p4 q1 p3 p5 q2))] [(.int (own_f0_110 p4 q1 p3 p5 q2)), (.int (own_r7 p4 p5 (own_f0_25 q1) (q1).toInt32 (own_f0_39 q2) (q2).toInt32 (own_f0_54 p3)))]) _
  obtain ⟨_, st49, rfl⟩ : own_Run p e below T48 (mkF m 123 #[.val (.int p0), .val (.long q1), .second, .val (.long q2), .second, .val (.int p3), .val (.int p4), .val (.int p5), .val (.ref (own_f0_j15_S0 p0 w0 w1)), .val (.int (own_f0_25 q1)), .val (.int (q1).toInt32), .val (.int (own_f0_39 q2)), .val (.int (q2).toInt32), .val (.int (own_f0_54 p3)), .val (.ref b31), .val (.int (own_f0_110 p4 q1 p3 p5 q2))] [(.int (own_f0_110 p4 q1 p3 p5 q2)), (.int (own_r7 p4 p5 (own_f0_25 q1) (q1).toInt32 (own_f0_39 q2) (q2).toInt32 (own_f0_54 p3)))]) (fun t => t = T48.setTop (mkF m 131 #[.val (.int p0), .val (.long q1), .second, .val (.long q2), .second, .val (.int p3), .val (.int p4), .val (.int p5), .val (.ref (own_f0_j15_S0 p0 w0 w1)), .val (.int (own_f0_25 q1)), .val (.int (q1).toInt32), .val (.int (own_f0_39 q2)), .val (.int (q2).toInt32), .val (.int (own_f0_54 p3)), .val (.ref b31), .val (.int (own_f0_110 p4 q1 p3 p5 q2))] [(.int (own_f0_j131_S0 p4 p5 q1 q2 p3))])) := by
    by_cases hc50 : (own_r7 p4 p5 (own_f0_25 q1) (q1).toInt32 (own_f0_39 q2) (q2).toInt32 (own_f0_54 p3)) = (own_f0_110 p4 q1 p3 p5 q2)
    · refine own_step (fun t k => XS.icmpNo X48.here hx rfl (hb hby at_123) rfl (teq hc50).2 k) ?_
      show own_Run p e below T48 (mkF m 126 #[.val (.int p0), .val (.long q1), .second, .val (.long q2), .second, .val (.int p3), .val (.int p4), .val (.int p5), .val (.ref (own_f0_j15_S0 p0 w0 w1)), .val (.int (own_f0_25 q1)), .val (.int (q1).toInt32), .val (.int (own_f0_39 q2)), .val (.int (q2).toInt32), .val (.int (own_f0_54 p3)), .val (.ref b31), .val (.int (own_f0_110 p4 q1 p3 p5 q2))] []) _
      refine own_step (fun t k => XS.iconst X48.here hx rfl (hb hby at_126) k) ?_
      show own_Run p e below T48 (mkF m 127 #[.val (.int p0), .val (.long q1), .second, .val (.long q2), .second, .val (.int p3), .val (.int p4), .val (.int p5), .val (.ref (own_f0_j15_S0 p0 w0 w1)), .val (.int (own_f0_25 q1)), .val (.int (q1).toInt32), .val (.int (own_f0_39 q2)), .val (.int (q2).toInt32), .val (.int (own_f0_54 p3)), .val (.ref b31), .val (.int (own_f0_110 p4 q1 p3 p5 q2))] [(.int (1 : Int32))]) _
      refine own_step (fun t k => XS.goto X48.here hx rfl (pc0 := 127) (pc' := 131) rfl (hb hby at_127) (by decide) (by decide) k) ?_
      show own_Run p e below T48 (mkF m 131 #[.val (.int p0), .val (.long q1), .second, .val (.long q2), .second, .val (.int p3), .val (.int p4), .val (.int p5), .val (.ref (own_f0_j15_S0 p0 w0 w1)), .val (.int (own_f0_25 q1)), .val (.int (q1).toInt32), .val (.int (own_f0_39 q2)), .val (.int (q2).toInt32), .val (.int (own_f0_54 p3)), .val (.ref b31), .val (.int (own_f0_110 p4 q1 p3 p5 q2))] [(.int (1 : Int32))]) _
      have hj0 : (own_f0_j131_S0 p4 p5 q1 q2 p3) = (1 : Int32) := (if_pos hc50)
      exact own_here (by rw [hj0])
    · refine own_step (fun t k => XS.icmpYes X48.here hx rfl (pc0 := 123) (pc' := 130) rfl (hb hby at_123) rfl (feq hc50).2 (by decide) (by decide) k) ?_
      show own_Run p e below T48 (mkF m 130 #[.val (.int p0), .val (.long q1), .second, .val (.long q2), .second, .val (.int p3), .val (.int p4), .val (.int p5), .val (.ref (own_f0_j15_S0 p0 w0 w1)), .val (.int (own_f0_25 q1)), .val (.int (q1).toInt32), .val (.int (own_f0_39 q2)), .val (.int (q2).toInt32), .val (.int (own_f0_54 p3)), .val (.ref b31), .val (.int (own_f0_110 p4 q1 p3 p5 q2))] []) _
      refine own_step (fun t k => XS.iconst X48.here hx rfl (hb hby at_130) k) ?_
      show own_Run p e below T48 (mkF m 131 #[.val (.int p0), .val (.long q1), .second, .val (.long q2), .second, .val (.int p3), .val (.int p4), .val (.int p5), .val (.ref (own_f0_j15_S0 p0 w0 w1)), .val (.int (own_f0_25 q1)), .val (.int (q1).toInt32), .val (.int (own_f0_39 q2)), .val (.int (q2).toInt32), .val (.int (own_f0_54 p3)), .val (.ref b31), .val (.int (own_f0_110 p4 q1 p3 p5 q2))] [(.int (0 : Int32))]) _
      have hj0 : (own_f0_j131_S0 p4 p5 q1 q2 p3) = (0 : Int32) := (if_neg hc50)
      exact own_here (by rw [hj0])
  refine own_tr st49 ?_
  show own_Run p e below T48 (mkF m 131 #[.val (.int p0), .val (.long q1), .second, .val (.long q2), .second, .val (.int p3), .val (.int p4), .val (.int p5), .val (.ref (own_f0_j15_S0 p0 w0 w1)), .val (.int (own_f0_25 q1)), .val (.int (q1).toInt32), .val (.int (own_f0_39 q2)), .val (.int (q2).toInt32), .val (.int (own_f0_54 p3)), .val (.ref b31), .val (.int (own_f0_110 p4 q1 p3 p5 q2))] [(.int (own_f0_j131_S0 p4 p5 q1 q2 p3))]) _
  exact own_retZW X48 hx hlk hret (hb hby at_131) (by decide) (by decide) N48 trivial hS40 (by rw [e48]; exact (Nat.le_refl _))
theorem own_fit {p a b st : Int32} (ha : 0 ≤ a.toInt) (hs : 1 ≤ st.toInt) : own_r8 p a b st = own_r6 p a b st := by
  have bp1 := Int32.toInt_lt p; have bp2 := Int32.le_toInt p; have ba := Int32.toInt_lt a; have bs := Int32.toInt_lt st
  have hd : (own_f6_5 p a).toInt = p.toInt - a.toInt := by
    unfold own_f6_5; rw [Jvm.Kit.i64_sub (by rw [Jvm.Kit.i64_of_i32, Jvm.Kit.i64_of_i32]; omega) (by rw [Jvm.Kit.i64_of_i32, Jvm.Kit.i64_of_i32]; omega), Jvm.Kit.i64_of_i32, Jvm.Kit.i64_of_i32]
  have z0 : (0 : Int64).toInt = 0 := by decide
  have y0 : (0 : Int32).toInt = 0 := by decide
  have c1 : (own_f6_5 p a < (0 : Int64)) ↔ p < a := by rw [Int64.lt_iff_toInt_lt, hd, z0, Int32.lt_iff_toInt_lt]; omega
  unfold own_r8 own_f8_j26_S0 own_r6
  simp only [lw_lt, lw_eq]
  by_cases h1 : p < a
  · rw [if_pos h1, if_pos (c1.mpr h1)]; rfl
  · rw [if_neg h1, if_neg (fun z => h1 (c1.mp z))]
    rw [Int32.lt_iff_toInt_lt] at h1
    by_cases h2 : b < p
    · rw [if_pos h2, if_pos h2]; rfl
    · rw [if_neg h2, if_neg h2]
      have hp : (p - a).toInt = p.toInt - a.toInt := Jvm.Kit.i32_sub (by omega) (by omega)
      have m1 := Int.emod_add_mul_ediv (p.toInt - a.toInt) st.toInt
      have m2 := Int.emod_nonneg (p.toInt - a.toInt) (by omega : st.toInt ≠ 0)
      have m3 : 0 ≤ (p.toInt - a.toInt) / st.toInt := Int.ediv_nonneg (by omega) (by omega)
      have m4 : 0 ≤ st.toInt * ((p.toInt - a.toInt) / st.toInt) := Int.mul_nonneg (by omega) m3
      have q1 : (own_rem (p - a) st = (0 : Int32)) ↔ (p.toInt - a.toInt) % st.toInt = 0 := by
        rw [← Int32.toInt_inj, own_rem_nn (by rw [hp]; omega) (by omega), hp, y0]
      have hq : (own_f6_28 p a st).toInt = (p.toInt - a.toInt) / st.toInt := by
        unfold own_f6_28
        rw [Jvm.Kit.i64_div (by rw [hd]; omega), hd, Jvm.Kit.i64_of_i32, Int.tdiv_eq_ediv_of_nonneg (by omega)]
      have hm : (own_f6_28 p a st * st.toInt64).toInt = st.toInt * ((p.toInt - a.toInt) / st.toInt) := by
        rw [Jvm.Kit.i64_mul (by rw [hq, Jvm.Kit.i64_of_i32, Int.mul_comm]; omega) (by rw [hq, Jvm.Kit.i64_of_i32, Int.mul_comm]; omega), hq, Jvm.Kit.i64_of_i32, Int.mul_comm]
      have q2 : (own_f6_28 p a st * st.toInt64 = own_f6_5 p a) ↔ (p.toInt - a.toInt) % st.toInt = 0 := by
        rw [← Int64.toInt_inj, hm, hd]; omega
      by_cases h3 : (p.toInt - a.toInt) % st.toInt = 0
      · rw [if_pos (q1.mpr h3), if_pos (q2.mpr h3)]; rfl
      · rw [if_neg (fun z => h3 (q1.mp z)), if_neg (fun z => h3 (q2.mp z))]; rfl
theorem own_nn (q : Int64) : 0 ≤ (own_f0_25 q).toInt := by
  unfold own_f0_25; rw [Jvm.Kit.i32_mask _ _ (k := 31) (by decide) (by decide)]; omega
theorem own_plain (p0 : Int32) (q1 q2 : Int64) (p3 p4 p5 : Int32) : own_r0 p0 q1 q2 p3 p4 p5 = 1 := by
  have a : own_r7 p4 p5 (own_f0_25 q1) (q1).toInt32 (own_f0_39 q2) (q2).toInt32 (own_f0_54 p3) = own_f0_110 p4 q1 p3 p5 q2 := by
    unfold own_r7 own_f7_j37_S0 own_f0_110 own_f0_j110_S0
    rw [own_fit (own_nn q1) (own_ge1 p3), own_fit (a := own_f0_39 q2) (own_nn q2) (own_ge1 p3)]
    split
    · rfl
    · split <;> rfl
  unfold own_r0 own_f0_j131_S0; rw [if_pos a]; rfl

set_option maxRecDepth 65536 in
set_option maxHeartbeats 40000000 in
theorem own_comes {Post : Tables → Env → Array Value → State → Outcome → State → Prop} (hpost : ∀ tb e args s v u, (limb_1_1.after args s (.returned v) u = true ∧ limb_1_2.after args s (.returned v) u = true ∧ True) → ReturnedEndW s (.returned v) u (Jvm.fieldLocs frame_1_writes args s ++ Jvm.arrayLocs frame_1_arrays args s ++ Jvm.staticLocs frame_1_statics s) 16 1152 → Post tb e args s (.returned v) u) :
    ArmFor flags0 classFile x code maxLocals ret World_1 tables_1 room_1 Calls_1 rest_1 Pre_1 Post := by
  intro l hfl _ _ p e ha hc hk s m args below hf hA hF happ hP
  obtain ⟨hcalls, hrest, hpre⟩ := hP
  obtain ⟨-, -, -, hnamed, -, -, -, hat⟩ := (Spec.applies_iff hf).mp happ
  obtain ⟨hg, hn⟩ := and_e (Cond.before_iff.mp (show (Jvm.Cond.and given_1 narrow_1).before args s = true from hpre))
  obtain ⟨gc, g0⟩ := and_e hg
  obtain ⟨v0, g1⟩ := and_e g0
  obtain ⟨v1, g2⟩ := and_e g1
  obtain ⟨v2, g3⟩ := and_e g2
  obtain ⟨v3, g4⟩ := and_e g3
  obtain ⟨v4, g5⟩ := and_e g4
  obtain ⟨w0, w1, w2, w3, w4, w5, rfl⟩ : ∃ w0 w1 w2 w3 w4 w5 : Value, args = #[w0, w1, w2, w3, w4, w5] := by
    have hs : args.size = 6 := by simpa [Cond.value, given_1] using gc
    obtain ⟨L⟩ := args
    match L, hs with
    | [w0, w1, w2, w3, w4, w5], _ => exact ⟨w0, w1, w2, w3, w4, w5, rfl⟩
  have hw := fun d (hd : d ∈ tables_1) => atoms_spec (ws := Jvm.Cond.code x code maxLocals ret :: tables_1) hat d (List.mem_cons_of_mem _ hd)
  obtain ⟨i0, ei0⟩ := is_v v0
  obtain rfl : w0 = (.int i0) := Option.some.inj ei0
  obtain ⟨i1, ei1⟩ := isL_v v1
  obtain rfl : w1 = (.long i1) := Option.some.inj ei1
  obtain ⟨i2, ei2⟩ := isL_v v2
  obtain rfl : w2 = (.long i2) := Option.some.inj ei2
  obtain ⟨i3, ei3⟩ := is_v v3
  obtain rfl : w3 = (.int i3) := Option.some.inj ei3
  obtain ⟨i4, ei4⟩ := is_v v4
  obtain rfl : w4 = (.int i4) := Option.some.inj ei4
  obtain ⟨i5, ei5⟩ := is_v g5
  obtain rfl : w5 = (.int i5) := Option.some.inj ei5
  obtain ⟨nv0, nv1⟩ := and_e hn
  obtain ⟨w100, ev0⟩ := exa_v nv0
  obtain ⟨w101, ev1⟩ := exa_v nv1
  have Sy := Sta.start ev0 (Or.inr ⟨(hw _ (List.mem_of_getElem? (i := 1) rfl)), (hw _ (List.mem_of_getElem? (i := 2) rfl))⟩)
  have Sj := Sta.start ev1 (Or.inr ⟨(hw _ (List.mem_of_getElem? (i := 1) rfl)), (hw _ (List.mem_of_getElem? (i := 60) rfl))⟩)
  obtain ⟨n, o, h1, h2, h3, _, L, rfl, ⟨rfl, N, -⟩, hq⟩ := rm0 l s _ hw tables_1 i0 i1 i2 i3 i4 i5 w100 w101 s.heap s.heap.size (Nat.le_refl _) Sy Sj p e ha hc hk s m _ below hf ((Spec.applies_iff_loose hf).mp happ).1 ⟨rfl, State.Warmed39.refl s, rfl⟩ trivial
  have hv : own_r0 i0 i1 i2 i3 i4 i5 = 1 := own_plain i0 i1 i2 i3 i4 i5
  refine ⟨n, _, h1, h2, h3, hpost _ _ _ _ _ _ ⟨Cond.after_iff.mpr rfl, Cond.after_iff.mpr (eq_i res_at (Term.int_eval (1)) (congrArg Value.int hv)), trivial⟩ ⟨hq.1, hq.2.1, hq.2.2.1, (hq.2.2.2.sift fun y hy => Or.inr (N y hy)).mono (by decide) (by decide)⟩⟩
theorem main_1_1 : Claimed_1_1 := own_comes fun _ _ _ _ _ _ h hF => ⟨h.1, hF⟩
theorem main_1_2 : Claimed_1_2 := own_comes fun _ _ _ _ _ _ h hF => ⟨h.2.1, hF⟩
end Jvm.Pilot.@@N@@
namespace Jvm.Pilot.@@N@@
open Jvm Jvm.ClassFile Sem Op Lib Jvm.Free Jvm.Stand Jvm.Pilot.@@N@@.Jvm.D
/-! MADE BY PROGRAM (witnessworld.py) out of the Statement's table words and the real class files: 19 classes; the members and pool entries that the words name. The judged class is class 1, her method 2. -/
namespace start1
open Jvm.ClassFile
def u (s : String) : CpInfo := .utf8 (stringToUtf16 s)
/-- a pool by its gaps: so many unusable entries, then the entry; so many at the end -/
def gap : Nat → List CpInfo → List CpInfo
  | 0, r => r
  | n + 1, r => .unusable :: gap n r
def poolList (es : List (Nat × CpInfo)) (last : Nat) : List CpInfo := es.foldr (fun e r => gap e.1 (e.2 :: r)) (gap last [])
def pool (es : List (Nat × CpInfo)) (last : Nat) : Array CpInfo := ⟨poolList es last⟩
def fileOf (pool : Array CpInfo) (this : Nat) (attrs : Array Attribute := #[]) (ms : Array MethodInfo := #[]) (fl : Nat := 33) (sup : Nat := 0) (ifs : Array Nat := #[]) (fds : Array FieldInfo := #[]) : ClassFile where
  minorVersion := 0
  majorVersion := 65
  constantPool := pool
  accessFlags := fl
  thisClass := this
  superClass := sup
  interfaces := ifs
  fields := fds
  methods := ms
  attributes := attrs
def plain (name : String) (sup : Option ClassId) : Class where
  name := name
  kind := .ordinary
  loader := none
  accessFlags := 33
  super := sup
  interfaces := #[]
  cf := none
  fields := #[]
  methods := #[]
  instanceTypes := #[]
  staticTypes := #[]
  resolved := #[]
  callSites := []
  init := .initialized
  statics := none
  mirror := none

def pool0 : Array CpInfo := pool [(5, u "<init>"), (0, u "()V"), (1, .class_ 10), (1, u "java/lang/Object")] 113

def k0c0 : Code := { maxStack := 0, maxLocals := 1, code := object_method_1_code, exceptionTable := #[], attributes := #[] }
def k0m0 : Method := { name := "<init>", desc := "()V", sig := { parameters := [], returnType := none }, accessFlags := 1, code := some k0c0 }
/-- java/lang/Object -/
def k0 : Class := { plain "java/lang/Object" none with
  accessFlags := 33
  interfaces := #[]
  cf := some (fileOf pool0 8 #[] #[{ accessFlags := 1, nameIndex := 5, descriptorIndex := 6, attributes := #[] }] 33 0 #[] #[])
  fields := #[]
  methods := #[k0m0]
  instanceTypes := #[]
  staticTypes := #[]
  resolved := Array.replicate 124 none
  statics := none }

def pool1 : Array CpInfo := pool [(2, .class_ 4), (1, u "java/lang/Object"), (0, u "<init>"), (0, u "()V"), (0, .fieldref 8 9), (0, .class_ 10), (0, .nameAndType 11 12), (0, u "com/example/kuva/kuva/camera/ImageFormat"), (0, u "JPEG"), (0, u "Lcom/example/kuva/kuva/camera/ImageFormat;"), (0, .fieldref 8 14), (0, .nameAndType 15 12), (0, u "YUV_420"), (0, .integer 2147483647), (0, .methodref 18 19), (0, .class_ 20), (0, .nameAndType 21 22), (0, u "java/lang/Math"), (0, u "max"), (0, u "(II)I"), (0, .class_ 24), (0, u "com/example/kuva/kuva/camera/StreamSizes"), (0, .methodref 23 26), (0, .nameAndType 5 27), (0, u "(Lcom/example/kuva/kuva/camera/ImageFormat;IIIII)V"), (0, .methodref 29 30), (0, .class_ 31), (0, .nameAndType 32 33), (0, u "com/example/kuva/kuva/camera/StreamSizesAllowsPinLaw"), (0, u "fits"), (0, u "(IIII)Z"), (0, .methodref 23 35), (0, .nameAndType 36 37), (0, u "allows"), (0, u "(II)Z"), (3, u "law"), (0, u "(IJJIII)Z")] 2

def k1m0 : Method := { name := "<init>", desc := "()V", sig := { parameters := [], returnType := none }, accessFlags := 2, code := none }
def k1c1 : Code := { maxStack := 4, maxLocals := 8, code := method_2_code, exceptionTable := #[], attributes := #[] }
def k1m1 : Method := { name := "fits", desc := "(IIII)Z", sig := { parameters := [.int, .int, .int, .int], returnType := some .boolean }, accessFlags := 10, code := some k1c1 }
def k1c2 : Code := { maxStack := 8, maxLocals := 16, code := code, exceptionTable := #[], attributes := #[] }
def k1m2 : Method := { name := "law", desc := "(IJJIII)Z", sig := { parameters := [.int, .long, .long, .int, .int, .int], returnType := some .boolean }, accessFlags := 9, code := some k1c2 }
/-- com/example/kuva/kuva/camera/StreamSizesAllowsPinLaw -/
def k1 : Class := { plain "com/example/kuva/kuva/camera/StreamSizesAllowsPinLaw" (some 0) with
  accessFlags := 49
  interfaces := #[]
  cf := some (fileOf pool1 29 #[] #[{ accessFlags := 2, nameIndex := 5, descriptorIndex := 6, attributes := #[] }, { accessFlags := 10, nameIndex := 32, descriptorIndex := 33, attributes := #[] }, { accessFlags := 9, nameIndex := 41, descriptorIndex := 42, attributes := #[] }] 49 2 #[] #[])
  fields := #[]
  methods := #[k1m0, k1m1, k1m2]
  instanceTypes := #[]
  staticTypes := #[]
  resolved := Array.replicate 45 none
  statics := none }

def pool2 : Array CpInfo := pool [(1, .class_ 2), (0, u "java/lang/constant/Constable"), (0, .class_ 4), (0, u "java/lang/Object")] 6

/-- java/lang/constant/Constable -/
def k2 : Class := { plain "java/lang/constant/Constable" (some 0) with
  accessFlags := 1537
  interfaces := #[]
  cf := some (fileOf pool2 1 #[] #[] 1537 3 #[] #[])
  fields := #[]
  methods := #[]
  instanceTypes := #[]
  staticTypes := #[]
  resolved := Array.replicate 11 none
  statics := none }

def pool3 : Array CpInfo := pool [(1, .class_ 2), (0, u "java/lang/Comparable"), (0, .class_ 4), (0, u "java/lang/Object")] 7

/-- java/lang/Comparable -/
def k3 : Class := { plain "java/lang/Comparable" (some 0) with
  accessFlags := 1537
  interfaces := #[]
  cf := some (fileOf pool3 1 #[] #[] 1537 3 #[] #[])
  fields := #[]
  methods := #[]
  instanceTypes := #[]
  staticTypes := #[]
  resolved := Array.replicate 12 none
  statics := none }

def pool4 : Array CpInfo := pool [(1, .class_ 2), (0, u "java/io/Serializable"), (0, .class_ 4), (0, u "java/lang/Object")] 2

/-- java/io/Serializable -/
def k4 : Class := { plain "java/io/Serializable" (some 0) with
  accessFlags := 1537
  interfaces := #[]
  cf := some (fileOf pool4 1 #[] #[] 1537 3 #[] #[])
  fields := #[]
  methods := #[]
  instanceTypes := #[]
  staticTypes := #[]
  resolved := Array.replicate 7 none
  statics := none }

def pool5 : Array CpInfo := pool [(2, .class_ 4), (1, u "java/lang/Enum"), (0, u "name"), (0, u "Ljava/lang/String;"), (2, u "ordinal"), (0, u "I"), (1, .class_ 14), (1, u "java/lang/Object"), (4, u "hash"), (86, .class_ 108), (1, u "java/lang/Enum$EnumDesc"), (2, .class_ 112), (0, u "java/lang/constant/Constable"), (0, .class_ 114), (0, u "java/lang/Comparable"), (0, .class_ 116), (0, u "java/io/Serializable")] 87

/-- java/lang/Enum -/
def k5 : Class := { plain "java/lang/Enum" (some 0) with
  accessFlags := 1057
  interfaces := #[2, 3, 4]
  cf := some (fileOf pool5 2 #[.nestMembers #[106]] #[] 1057 12 #[111, 113, 115] #[{ accessFlags := 18, nameIndex := 5, descriptorIndex := 6, attributes := #[] }, { accessFlags := 18, nameIndex := 9, descriptorIndex := 10, attributes := #[] }, { accessFlags := 2, nameIndex := 19, descriptorIndex := 10, attributes := #[] }])
  fields := #[{ name := "name", type := (.object "java/lang/String"), accessFlags := 18, slot := 0, constantValue := 0 }, { name := "ordinal", type := .int, accessFlags := 18, slot := 1, constantValue := 0 }, { name := "hash", type := .int, accessFlags := 2, slot := 2, constantValue := 0 }]
  methods := #[]
  instanceTypes := #[(.object "java/lang/String"), .int, .int]
  staticTypes := #[]
  resolved := Array.replicate 204 none
  statics := none }

def pool6 : Array CpInfo := pool [(1, .class_ 2), (0, u "com/example/kuva/kuva/camera/ImageFormat"), (2, u "YUV_420"), (0, u "Lcom/example/kuva/kuva/camera/ImageFormat;"), (2, u "JPEG"), (2, u "$VALUES"), (0, u "[Lcom/example/kuva/kuva/camera/ImageFormat;"), (6, .class_ 22), (1, u "java/lang/Enum"), (8, u "maxSide"), (0, u "I")] 28

/-- com/example/kuva/kuva/camera/ImageFormat -/
def k6 : Class := { plain "com/example/kuva/kuva/camera/ImageFormat" (some 5) with
  accessFlags := 16433
  interfaces := #[]
  cf := some (fileOf pool6 1 #[] #[] 16433 20 #[] #[{ accessFlags := 16409, nameIndex := 5, descriptorIndex := 6, attributes := #[] }, { accessFlags := 16409, nameIndex := 9, descriptorIndex := 6, attributes := #[] }, { accessFlags := 18, nameIndex := 31, descriptorIndex := 32, attributes := #[] }, { accessFlags := 4122, nameIndex := 12, descriptorIndex := 13, attributes := #[] }])
  fields := #[{ name := "YUV_420", type := (.object "com/example/kuva/kuva/camera/ImageFormat"), accessFlags := 16409, slot := 0, constantValue := 0 }, { name := "JPEG", type := (.object "com/example/kuva/kuva/camera/ImageFormat"), accessFlags := 16409, slot := 1, constantValue := 0 }, { name := "maxSide", type := .int, accessFlags := 18, slot := 3, constantValue := 0 }, { name := "$VALUES", type := (.array (.object "com/example/kuva/kuva/camera/ImageFormat")), accessFlags := 4122, slot := 2, constantValue := 0 }]
  methods := #[]
  instanceTypes := #[(.object "java/lang/String"), .int, .int, .int]
  staticTypes := #[(.object "com/example/kuva/kuva/camera/ImageFormat"), (.object "com/example/kuva/kuva/camera/ImageFormat"), (.array (.object "com/example/kuva/kuva/camera/ImageFormat"))]
  resolved := Array.replicate 61 none
  statics := some 0 }

def pool7 : Array CpInfo := pool [(1, .class_ 2), (0, u "java/lang/Math"), (1, .class_ 6), (1, u "java/lang/Object"), (0, u "<init>"), (0, u "()V"), (89, .class_ 100), (1, u "java/lang/Math$RandomNumberGeneratorHolder"), (71, u "negativeZeroFloatBits"), (0, u "J"), (2, u "negativeZeroDoubleBits"), (21, u "max"), (46, u "$assertionsDisabled"), (0, u "Z"), (88, u "(II)I"), (2, u "twoToTheDoubleScaleDown"), (0, u "D"), (4, u "twoToTheDoubleScaleUp"), (9, u "E"), (3, u "PI"), (2, u "TAU"), (2, u "DEGREES_TO_RADIANS"), (0, u "RADIANS_TO_DEGREES")] 94

def k7m0 : Method := { name := "<init>", desc := "()V", sig := { parameters := [], returnType := none }, accessFlags := 2, code := none }
def k7c1 : Code := { maxStack := 2, maxLocals := 2, code := jdk_29_method_65_code, exceptionTable := #[], attributes := #[] }
def k7m1 : Method := { name := "max", desc := "(II)I", sig := { parameters := [.int, .int], returnType := some .int }, accessFlags := 9, code := some k7c1 }
/-- java/lang/Math -/
def k7 : Class := { plain "java/lang/Math" (some 0) with
  accessFlags := 49
  interfaces := #[]
  cf := some (fileOf pool7 1 #[.nestMembers #[98]] #[{ accessFlags := 2, nameIndex := 7, descriptorIndex := 8, attributes := #[] }, { accessFlags := 9, nameIndex := 198, descriptorIndex := 335, attributes := #[] }] 49 4 #[] #[{ accessFlags := 25, nameIndex := 354, descriptorIndex := 339, attributes := #[] }, { accessFlags := 25, nameIndex := 358, descriptorIndex := 339, attributes := #[] }, { accessFlags := 25, nameIndex := 361, descriptorIndex := 339, attributes := #[] }, { accessFlags := 26, nameIndex := 364, descriptorIndex := 339, attributes := #[] }, { accessFlags := 26, nameIndex := 365, descriptorIndex := 339, attributes := #[] }, { accessFlags := 26, nameIndex := 172, descriptorIndex := 173, attributes := #[] }, { accessFlags := 26, nameIndex := 176, descriptorIndex := 173, attributes := #[] }, { accessFlags := 8, nameIndex := 344, descriptorIndex := 339, attributes := #[] }, { accessFlags := 8, nameIndex := 338, descriptorIndex := 339, attributes := #[] }, { accessFlags := 4120, nameIndex := 245, descriptorIndex := 246, attributes := #[] }])
  fields := #[{ name := "E", type := .double, accessFlags := 25, slot := 0, constantValue := 0 }, { name := "PI", type := .double, accessFlags := 25, slot := 1, constantValue := 0 }, { name := "TAU", type := .double, accessFlags := 25, slot := 2, constantValue := 0 }, { name := "DEGREES_TO_RADIANS", type := .double, accessFlags := 26, slot := 3, constantValue := 0 }, { name := "RADIANS_TO_DEGREES", type := .double, accessFlags := 26, slot := 4, constantValue := 0 }, { name := "negativeZeroFloatBits", type := .long, accessFlags := 26, slot := 5, constantValue := 0 }, { name := "negativeZeroDoubleBits", type := .long, accessFlags := 26, slot := 6, constantValue := 0 }, { name := "twoToTheDoubleScaleUp", type := .double, accessFlags := 8, slot := 7, constantValue := 0 }, { name := "twoToTheDoubleScaleDown", type := .double, accessFlags := 8, slot := 8, constantValue := 0 }, { name := "$assertionsDisabled", type := .boolean, accessFlags := 4120, slot := 9, constantValue := 0 }]
  methods := #[k7m0, k7m1]
  instanceTypes := #[]
  staticTypes := #[.double, .double, .double, .double, .double, .long, .long, .double, .double, .boolean]
  resolved := Array.replicate 460 none
  statics := none }

def pool8 : Array CpInfo := pool [(1, .methodref 2 3), (0, .class_ 4), (0, .nameAndType 5 6), (0, u "java/lang/Object"), (0, u "<init>"), (0, u "()V"), (0, .class_ 8), (0, u "java/lang/Record")] 13

def k8c0 : Code := { maxStack := 1, maxLocals := 1, code := jdk_30_method_1_code, exceptionTable := #[], attributes := #[] }
def k8m0 : Method := { name := "<init>", desc := "()V", sig := { parameters := [], returnType := none }, accessFlags := 4, code := some k8c0 }
/-- java/lang/Record -/
def k8 : Class := { plain "java/lang/Record" (some 0) with
  accessFlags := 1057
  interfaces := #[]
  cf := some (fileOf pool8 7 #[] #[{ accessFlags := 4, nameIndex := 5, descriptorIndex := 6, attributes := #[] }] 1057 2 #[] #[])
  fields := #[]
  methods := #[k8m0]
  instanceTypes := #[]
  staticTypes := #[]
  resolved := Array.replicate 22 none
  statics := none }

def pool9 : Array CpInfo := pool [(1, .methodref 2 3), (0, .class_ 4), (0, .nameAndType 5 6), (0, u "java/lang/Record"), (0, u "<init>"), (0, u "()V"), (0, .string 8), (0, u "format"), (0, .methodref 10 11), (0, .class_ 12), (0, .nameAndType 13 14), (0, u "java/util/Objects"), (0, u "requireNonNull"), (0, u "(Ljava/lang/Object;Ljava/lang/String;)Ljava/lang/Object;"), (9, .fieldref 25 26), (0, .class_ 27), (0, .nameAndType 8 28), (0, u "com/example/kuva/kuva/camera/StreamSizes"), (0, u "Lcom/example/kuva/kuva/camera/ImageFormat;"), (0, .fieldref 25 30), (0, .nameAndType 31 32), (0, u "minWidth"), (0, u "I"), (0, .fieldref 25 34), (0, .nameAndType 35 32), (0, u "maxWidth"), (0, .fieldref 25 37), (0, .nameAndType 38 32), (0, u "minHeight"), (0, .fieldref 25 40), (0, .nameAndType 41 32), (0, u "maxHeight"), (0, .fieldref 25 43), (0, .nameAndType 44 32), (0, u "step"), (0, .methodref 25 46), (0, .nameAndType 47 48), (0, u "allows"), (0, u "(III)Z"), (2, u "(II)Z"), (21, u "(Lcom/example/kuva/kuva/camera/ImageFormat;IIIII)V")] 47

def k9c0 : Code := { maxStack := 3, maxLocals := 7, code := prog_7_method_1_code, exceptionTable := #[], attributes := #[] }
def k9m0 : Method := { name := "<init>", desc := "(Lcom/example/kuva/kuva/camera/ImageFormat;IIIII)V", sig := { parameters := [(.object "com/example/kuva/kuva/camera/ImageFormat"), .int, .int, .int, .int, .int], returnType := none }, accessFlags := 1, code := some k9c0 }
def k9c1 : Code := { maxStack := 4, maxLocals := 3, code := prog_7_method_2_code, exceptionTable := #[], attributes := #[] }
def k9m1 : Method := { name := "allows", desc := "(II)Z", sig := { parameters := [.int, .int], returnType := some .boolean }, accessFlags := 1, code := some k9c1 }
def k9c2 : Code := { maxStack := 2, maxLocals := 4, code := prog_7_method_3_code, exceptionTable := #[], attributes := #[] }
def k9m2 : Method := { name := "allows", desc := "(III)Z", sig := { parameters := [.int, .int, .int], returnType := some .boolean }, accessFlags := 2, code := some k9c2 }
/-- com/example/kuva/kuva/camera/StreamSizes -/
def k9 : Class := { plain "com/example/kuva/kuva/camera/StreamSizes" (some 8) with
  accessFlags := 49
  interfaces := #[]
  cf := some (fileOf pool9 25 #[] #[{ accessFlags := 1, nameIndex := 5, descriptorIndex := 73, attributes := #[] }, { accessFlags := 1, nameIndex := 47, descriptorIndex := 51, attributes := #[] }, { accessFlags := 2, nameIndex := 47, descriptorIndex := 48, attributes := #[] }] 49 2 #[] #[{ accessFlags := 18, nameIndex := 8, descriptorIndex := 28, attributes := #[] }, { accessFlags := 18, nameIndex := 31, descriptorIndex := 32, attributes := #[] }, { accessFlags := 18, nameIndex := 35, descriptorIndex := 32, attributes := #[] }, { accessFlags := 18, nameIndex := 38, descriptorIndex := 32, attributes := #[] }, { accessFlags := 18, nameIndex := 41, descriptorIndex := 32, attributes := #[] }, { accessFlags := 18, nameIndex := 44, descriptorIndex := 32, attributes := #[] }])
  fields := #[{ name := "format", type := (.object "com/example/kuva/kuva/camera/ImageFormat"), accessFlags := 18, slot := 0, constantValue := 0 }, { name := "minWidth", type := .int, accessFlags := 18, slot := 1, constantValue := 0 }, { name := "maxWidth", type := .int, accessFlags := 18, slot := 2, constantValue := 0 }, { name := "minHeight", type := .int, accessFlags := 18, slot := 3, constantValue := 0 }, { name := "maxHeight", type := .int, accessFlags := 18, slot := 4, constantValue := 0 }, { name := "step", type := .int, accessFlags := 18, slot := 5, constantValue := 0 }]
  methods := #[k9m0, k9m1, k9m2]
  instanceTypes := #[(.object "com/example/kuva/kuva/camera/ImageFormat"), .int, .int, .int, .int, .int]
  staticTypes := #[]
  resolved := Array.replicate 121 none
  statics := none }

def pool10 : Array CpInfo := pool [(2, .class_ 4), (1, u "java/lang/CharSequence"), (42, .class_ 48), (0, u "java/lang/CharSequence$1CodePointIterator"), (10, .class_ 60), (0, u "java/lang/CharSequence$1CharIterator"), (5, .class_ 67), (0, u "java/lang/Object")] 63

/-- java/lang/CharSequence -/
def k10 : Class := { plain "java/lang/CharSequence" (some 0) with
  accessFlags := 1537
  interfaces := #[]
  cf := some (fileOf pool10 2 #[.nestMembers #[47, 59]] #[] 1537 66 #[] #[])
  fields := #[]
  methods := #[]
  instanceTypes := #[]
  staticTypes := #[]
  resolved := Array.replicate 131 none
  statics := none }

def pool11 : Array CpInfo := pool [(1, .class_ 2), (0, u "java/lang/constant/ConstantDesc"), (0, .class_ 4), (0, u "java/lang/Object")] 32

/-- java/lang/constant/ConstantDesc -/
def k11 : Class := { plain "java/lang/constant/ConstantDesc" (some 0) with
  accessFlags := 1537
  interfaces := #[]
  cf := some (fileOf pool11 1 #[] #[] 1537 3 #[] #[])
  fields := #[]
  methods := #[]
  instanceTypes := #[]
  staticTypes := #[]
  resolved := Array.replicate 37 none
  statics := none }

def pool12 : Array CpInfo := pool [(2, .class_ 4), (1, u "java/lang/Object"), (0, u "<init>"), (0, u "()V"), (3, .class_ 12), (1, u "java/lang/String"), (0, u "value"), (0, u "[B"), (2, u "coder"), (0, u "B"), (2, u "hash"), (0, u "I"), (2, u "hashIsZero"), (0, u "Z"), (13, u "COMPACT_STRINGS"), (534, .class_ 576), (0, u "java/lang/CharSequence"), (22, u "CASE_INSENSITIVE_ORDER"), (0, u "Ljava/util/Comparator;"), (500, u "serialPersistentFields"), (0, u "[Ljava/io/ObjectStreamField;"), (0, .class_ 1104), (0, u "java/lang/String$CaseInsensitiveComparator"), (1, .class_ 1107), (0, u "java/io/Serializable"), (0, .class_ 1109), (0, u "java/lang/Comparable"), (0, .class_ 1111), (0, u "java/lang/constant/Constable"), (0, .class_ 1113), (0, u "java/lang/constant/ConstantDesc"), (2, u "serialVersionUID"), (0, u "J"), (3, u "REPL"), (0, u "C"), (2, u "LATIN1"), (1, u "UTF16")] 323

def k12m0 : Method := { name := "<init>", desc := "()V", sig := { parameters := [], returnType := none }, accessFlags := 1, code := none }
/-- java/lang/String -/
def k12 : Class := { plain "java/lang/String" (some 0) with
  accessFlags := 49
  interfaces := #[4, 3, 10, 2, 11]
  cf := some (fileOf pool12 10 #[.nestMembers #[1103]] #[{ accessFlags := 1, nameIndex := 5, descriptorIndex := 6, attributes := #[] }] 49 2 #[1106, 1108, 575, 1110, 1112] #[{ accessFlags := 18, nameIndex := 13, descriptorIndex := 14, attributes := #[] }, { accessFlags := 18, nameIndex := 17, descriptorIndex := 18, attributes := #[] }, { accessFlags := 2, nameIndex := 21, descriptorIndex := 22, attributes := #[] }, { accessFlags := 2, nameIndex := 25, descriptorIndex := 26, attributes := #[] }, { accessFlags := 26, nameIndex := 1116, descriptorIndex := 1117, attributes := #[] }, { accessFlags := 24, nameIndex := 40, descriptorIndex := 26, attributes := #[] }, { accessFlags := 26, nameIndex := 1101, descriptorIndex := 1102, attributes := #[] }, { accessFlags := 26, nameIndex := 1121, descriptorIndex := 1122, attributes := #[] }, { accessFlags := 25, nameIndex := 599, descriptorIndex := 600, attributes := #[] }, { accessFlags := 24, nameIndex := 1125, descriptorIndex := 18, attributes := #[] }, { accessFlags := 24, nameIndex := 1127, descriptorIndex := 18, attributes := #[] }])
  fields := #[{ name := "value", type := (.array .byte), accessFlags := 18, slot := 0, constantValue := 0 }, { name := "coder", type := .byte, accessFlags := 18, slot := 1, constantValue := 0 }, { name := "hash", type := .int, accessFlags := 2, slot := 2, constantValue := 0 }, { name := "hashIsZero", type := .boolean, accessFlags := 2, slot := 3, constantValue := 0 }, { name := "serialVersionUID", type := .long, accessFlags := 26, slot := 0, constantValue := 0 }, { name := "COMPACT_STRINGS", type := .boolean, accessFlags := 24, slot := 1, constantValue := 0 }, { name := "serialPersistentFields", type := (.array (.object "java/io/ObjectStreamField")), accessFlags := 26, slot := 2, constantValue := 0 }, { name := "REPL", type := .char, accessFlags := 26, slot := 3, constantValue := 0 }, { name := "CASE_INSENSITIVE_ORDER", type := (.object "java/util/Comparator"), accessFlags := 25, slot := 4, constantValue := 0 }, { name := "LATIN1", type := .byte, accessFlags := 24, slot := 5, constantValue := 0 }, { name := "UTF16", type := .byte, accessFlags := 24, slot := 6, constantValue := 0 }]
  methods := #[k12m0]
  instanceTypes := #[(.array .byte), .byte, .int, .boolean]
  staticTypes := #[.long, .boolean, (.array (.object "java/io/ObjectStreamField")), .char, (.object "java/util/Comparator"), .byte, .byte]
  resolved := Array.replicate 1451 none
  statics := none }

def pool13 : Array CpInfo := pool [(2, .class_ 4), (1, u "java/lang/Object"), (0, u "<init>"), (0, u "()V"), (35, .class_ 44), (1, u "java/util/Objects"), (0, u "requireNonNull"), (48, u "(Ljava/lang/Object;Ljava/lang/String;)Ljava/lang/Object;")] 89

def k13m0 : Method := { name := "<init>", desc := "()V", sig := { parameters := [], returnType := none }, accessFlags := 2, code := none }
def k13c1 : Code := { maxStack := 3, maxLocals := 2, code := jdk_31_method_11_code, exceptionTable := #[], attributes := #[] }
def k13m1 : Method := { name := "requireNonNull", desc := "(Ljava/lang/Object;Ljava/lang/String;)Ljava/lang/Object;", sig := { parameters := [(.object "java/lang/Object"), (.object "java/lang/String")], returnType := some (.object "java/lang/Object") }, accessFlags := 9, code := some k13c1 }
/-- java/util/Objects -/
def k13 : Class := { plain "java/util/Objects" (some 0) with
  accessFlags := 49
  interfaces := #[]
  cf := some (fileOf pool13 42 #[] #[{ accessFlags := 2, nameIndex := 5, descriptorIndex := 6, attributes := #[] }, { accessFlags := 9, nameIndex := 45, descriptorIndex := 94, attributes := #[] }] 49 2 #[] #[])
  fields := #[]
  methods := #[k13m0, k13m1]
  instanceTypes := #[]
  staticTypes := #[]
  resolved := Array.replicate 184 none
  statics := none }

def pool14 : Array CpInfo := pool [(1, u "java/lang/Cloneable"), (0, .class_ 1), (0, u "java/lang/Object"), (0, .class_ 3)] 3

/-- java/lang/Cloneable -/
def k14 : Class := { plain "java/lang/Cloneable" (some 0) with
  accessFlags := 1537
  interfaces := #[]
  cf := some (fileOf pool14 2 #[] #[] 1537 4 #[] #[])
  fields := #[]
  methods := #[]
  instanceTypes := #[]
  staticTypes := #[]
  resolved := Array.replicate 8 none
  statics := none }

/-- the primitive byte -/
def k15 : Class := { plain "byte" none with kind := .primitive 'B', accessFlags := 0x411 }
/-- [B -/
def k16 : Class := { plain "[B" (some 0) with kind := .array 15 .byte, interfaces := #[14, 4], accessFlags := 1041 }

/-- the primitive int -/
def k17 : Class := { plain "int" none with kind := .primitive 'I', accessFlags := 0x411 }
/-- [I -/
def k18 : Class := { plain "[I" (some 0) with kind := .array 17 .int, interfaces := #[14, 4], accessFlags := 1041 }

def heap : Heap := #[{ cls := 6, slots := #[.ref 1, .ref 2, .null], vm := .statics 6 },
  { cls := 6, slots := #[.null, .int 0, .int 0, .int 0], vm := .none },
  { cls := 6, slots := #[.null, .int 0, .int 1, .int 0], vm := .none }]
def classes : Array Class := #[k0, k1, k2, k3, k4, k5, k6, k7, k8, k9, k10, k11, k12, k13, k14, k15, k16, k17, k18]
def interned : List (Array UInt16 × Addr) := []
def slotsUsed : Nat := 11
def theMethod : MethodId := ⟨1, 2⟩
def args0 : Array Value := #[.int 5, .long 6, .long 7, .int 8, .int 9, .int 10]
def aboutOver (below : List Frame) : State where
  vm := { classes := classes, interned := interned.toArray }
  heap := heap
  slotsUsed := slotsUsed
  threads := #[{ frames := .invoking theMethod args0 :: below }]
def below0 : List Frame := [.native { method := ⟨0, 0⟩, args := #[] }]
def about1 : State := aboutOver below0
def p0 : Program := .bare "" "" ""
def e0 : Env := launch0.env 0 0 0
theorem w_frames : about1.frames = Frame.invoking theMethod args0 :: below0 := rfl
set_option maxRecDepth 65536 in
theorem w_args : argsFit about1.vm theMethod args0 = true := by decide +kernel
set_option maxRecDepth 65536 in
theorem w_heap : heapFits about1 = true := by decide +kernel
set_option maxRecDepth 65536 in
theorem w_runnable : about1.curStatus? = some .runnable := by decide +kernel
set_option maxRecDepth 65536 in
theorem w_alone : about1.alone = true := by decide +kernel
set_option maxRecDepth 65536 in
theorem w_named : about1.methodNamed? x = some theMethod := by decide +kernel
set_option maxRecDepth 65536 in
theorem w_hears : about1.hears theMethod below0 = true := by decide +kernel
set_option maxRecDepth 65536 in
theorem w_ripe : about1.ripe theMethod args0 below0 = true := by decide +kernel
theorem w_running : about1.status = .running := rfl
set_option maxRecDepth 65536 in
theorem w_room : about1.hasRoom e0.platform room_1 = true :=
  launch0.hasRoom_least _ room_1 (by decide +kernel) (by decide +kernel) (by decide +kernel) (by decide +kernel) (by decide +kernel) (by decide +kernel)
theorem allAtoms_all (ts : List Jvm.Cond) (a : Array Jvm.Value) (st : Jvm.State) : (allAtoms ts).before a st = ts.all (fun c => c.before a st) := by
  induction ts with
  | nil => rfl
  | cons c t ih =>
    show (Jvm.Cond.and c (allAtoms t)).before a st = _
    rw [Jvm.Cond.before_and, ih, List.all_cons]
def words1 : List Jvm.Cond := Jvm.Cond.code x code maxLocals ret :: tables_1
/-- a 'code' word, met by the world's own term for the bytes: nothing is compared byte by byte -/
theorem code_word {y : MethodName} {bytes : ByteArray} {mx : Nat} {rt : Option FieldType} {a : Array Value} {s : State} {m : MethodId} {meth : Method} {c : Code} (h1 : s.methodNamed? y = some m) (h2 : s.vm.method? m = some meth) (h3 : meth.code = some c) (h4 : c.code = bytes)
    (h5 : (c.maxLocals == mx && c.exceptionTable.isEmpty && decide (c.maxStack ≤ mostOperands) && decide (meth.sig.returnType = rt) && !meth.locks && decide (parseMethodDescriptor y.desc = some meth.sig)) = true) : (Jvm.Cond.code y bytes mx rt).before a s = true := by
  simp only [Bool.and_eq_true, beq_iff_eq, Bool.not_eq_true', decide_eq_true_eq] at h5
  obtain ⟨⟨⟨⟨⟨g1, g2⟩, g3⟩, g4⟩, g5⟩, g6⟩ := h5
  simp [Cond.before, Cond.holds, Cond.value, h1, h2, h3, h4, g1, g2, g3, g4, g5, g6]
def isCode : Jvm.Cond → Bool
  | .code _ _ _ _ => true
  | _ => false
theorem all_split {L : List Jvm.Cond} {P : Jvm.Cond → Bool} (h1 : L.all (fun c => isCode c || P c) = true) (h2 : ∀ c ∈ L.filter isCode, P c = true) : L.all P = true := by
  refine List.all_eq_true.mpr fun c hc => ?_
  have h := List.all_eq_true.mp h1 c hc
  rcases Bool.eq_false_or_eq_true (isCode c) with hi | hi
  · exact h2 c (List.mem_filter.mpr ⟨hc, hi⟩)
  · simpa [hi] using h
set_option maxRecDepth 65536 in
theorem w_c0 : (Jvm.Cond.code x code maxLocals ret).before args0 about1 = true := code_word (m := ⟨1, 2⟩) (meth := k1m2) (c := k1c2) (by decide +kernel) rfl rfl rfl (by decide +kernel)
set_option maxRecDepth 65536 in
theorem w_c1 : (Jvm.Cond.code ({ cls := "java/lang/Math", name := "max", desc := "(II)I" } : Jvm.MethodName) jdk_29_method_65_code (2 : Nat) (Option.some Jvm.ClassFile.FieldType.int)).before args0 about1 = true := code_word (m := ⟨7, 1⟩) (meth := k7m1) (c := k7c1) (by decide +kernel) rfl rfl rfl (by decide +kernel)
set_option maxRecDepth 65536 in
theorem w_c2 : (Jvm.Cond.code ({ cls := "com/example/kuva/kuva/camera/StreamSizes", name := "<init>", desc := "(Lcom/example/kuva/kuva/camera/ImageFormat;IIIII)V" } : Jvm.MethodName) prog_7_method_1_code (7 : Nat) (Option.none : Option Jvm.ClassFile.FieldType)).before args0 about1 = true := code_word (m := ⟨9, 0⟩) (meth := k9m0) (c := k9c0) (by decide +kernel) rfl rfl rfl (by decide +kernel)
set_option maxRecDepth 65536 in
theorem w_c3 : (Jvm.Cond.code ({ cls := "java/lang/Record", name := "<init>", desc := "()V" } : Jvm.MethodName) jdk_30_method_1_code (1 : Nat) (Option.none : Option Jvm.ClassFile.FieldType)).before args0 about1 = true := code_word (m := ⟨8, 0⟩) (meth := k8m0) (c := k8c0) (by decide +kernel) rfl rfl rfl (by decide +kernel)
set_option maxRecDepth 65536 in
theorem w_c4 : (Jvm.Cond.code ({ cls := "java/lang/Object", name := "<init>", desc := "()V" } : Jvm.MethodName) object_method_1_code (1 : Nat) (Option.none : Option Jvm.ClassFile.FieldType)).before args0 about1 = true := code_word (m := ⟨0, 0⟩) (meth := k0m0) (c := k0c0) (by decide +kernel) rfl rfl rfl (by decide +kernel)
set_option maxRecDepth 65536 in
theorem w_c5 : (Jvm.Cond.code ({ cls := "java/util/Objects", name := "requireNonNull", desc := "(Ljava/lang/Object;Ljava/lang/String;)Ljava/lang/Object;" } : Jvm.MethodName) jdk_31_method_11_code (2 : Nat) (Option.some (Jvm.ClassFile.FieldType.object "java/lang/Object"))).before args0 about1 = true := code_word (m := ⟨13, 1⟩) (meth := k13m1) (c := k13c1) (by decide +kernel) rfl rfl rfl (by decide +kernel)
set_option maxRecDepth 65536 in
theorem w_c6 : (Jvm.Cond.code ({ cls := "com/example/kuva/kuva/camera/StreamSizesAllowsPinLaw", name := "fits", desc := "(IIII)Z" } : Jvm.MethodName) method_2_code (8 : Nat) (Option.some Jvm.ClassFile.FieldType.boolean)).before args0 about1 = true := code_word (m := ⟨1, 1⟩) (meth := k1m1) (c := k1c1) (by decide +kernel) rfl rfl rfl (by decide +kernel)
set_option maxRecDepth 65536 in
theorem w_c7 : (Jvm.Cond.code ({ cls := "com/example/kuva/kuva/camera/StreamSizes", name := "allows", desc := "(II)Z" } : Jvm.MethodName) prog_7_method_2_code (3 : Nat) (Option.some Jvm.ClassFile.FieldType.boolean)).before args0 about1 = true := code_word (m := ⟨9, 1⟩) (meth := k9m1) (c := k9c1) (by decide +kernel) rfl rfl rfl (by decide +kernel)
set_option maxRecDepth 65536 in
theorem w_c8 : (Jvm.Cond.code ({ cls := "com/example/kuva/kuva/camera/StreamSizes", name := "allows", desc := "(III)Z" } : Jvm.MethodName) prog_7_method_3_code (4 : Nat) (Option.some Jvm.ClassFile.FieldType.boolean)).before args0 about1 = true := code_word (m := ⟨9, 2⟩) (meth := k9m2) (c := k9c2) (by decide +kernel) rfl rfl rfl (by decide +kernel)
def codes1 : List Jvm.Cond := [Jvm.Cond.code x code maxLocals ret, Jvm.Cond.code ({ cls := "java/lang/Math", name := "max", desc := "(II)I" } : Jvm.MethodName) jdk_29_method_65_code (2 : Nat) (Option.some Jvm.ClassFile.FieldType.int), Jvm.Cond.code ({ cls := "com/example/kuva/kuva/camera/StreamSizes", name := "<init>", desc := "(Lcom/example/kuva/kuva/camera/ImageFormat;IIIII)V" } : Jvm.MethodName) prog_7_method_1_code (7 : Nat) (Option.none : Option Jvm.ClassFile.FieldType), Jvm.Cond.code ({ cls := "java/lang/Record", name := "<init>", desc := "()V" } : Jvm.MethodName) jdk_30_method_1_code (1 : Nat) (Option.none : Option Jvm.ClassFile.FieldType), Jvm.Cond.code ({ cls := "java/lang/Object", name := "<init>", desc := "()V" } : Jvm.MethodName) object_method_1_code (1 : Nat) (Option.none : Option Jvm.ClassFile.FieldType), Jvm.Cond.code ({ cls := "java/util/Objects", name := "requireNonNull", desc := "(Ljava/lang/Object;Ljava/lang/String;)Ljava/lang/Object;" } : Jvm.MethodName) jdk_31_method_11_code (2 : Nat) (Option.some (Jvm.ClassFile.FieldType.object "java/lang/Object")), Jvm.Cond.code ({ cls := "com/example/kuva/kuva/camera/StreamSizesAllowsPinLaw", name := "fits", desc := "(IIII)Z" } : Jvm.MethodName) method_2_code (8 : Nat) (Option.some Jvm.ClassFile.FieldType.boolean), Jvm.Cond.code ({ cls := "com/example/kuva/kuva/camera/StreamSizes", name := "allows", desc := "(II)Z" } : Jvm.MethodName) prog_7_method_2_code (3 : Nat) (Option.some Jvm.ClassFile.FieldType.boolean), Jvm.Cond.code ({ cls := "com/example/kuva/kuva/camera/StreamSizes", name := "allows", desc := "(III)Z" } : Jvm.MethodName) prog_7_method_3_code (4 : Nat) (Option.some Jvm.ClassFile.FieldType.boolean)]
set_option maxRecDepth 65536 in
theorem codes_eq : words1.filter isCode = codes1 := rfl
theorem w_codes : ∀ c ∈ words1.filter isCode, c.before args0 about1 = true := by
  rw [codes_eq]
  intro c hc
  simp only [codes1, List.mem_cons, List.not_mem_nil, or_false] at hc
  rcases hc with rfl | rfl | rfl | rfl | rfl | rfl | rfl | rfl | rfl
  · exact w_c0
  · exact w_c1
  · exact w_c2
  · exact w_c3
  · exact w_c4
  · exact w_c5
  · exact w_c6
  · exact w_c7
  · exact w_c8
set_option maxRecDepth 65536 in
theorem w_t1 : (words1.take 24).all (fun c => isCode c || c.before args0 about1) = true := by decide +kernel
set_option maxRecDepth 65536 in
theorem w_t2 : ((words1.drop 24).take 24).all (fun c => isCode c || c.before args0 about1) = true := by decide +kernel
set_option maxRecDepth 65536 in
theorem w_t3 : ((words1.drop 24).drop 24).all (fun c => isCode c || c.before args0 about1) = true := by decide +kernel
theorem w_tables : (allAtoms (Jvm.Cond.code x code maxLocals ret :: tables_1)).before args0 about1 = true := by
  rw [allAtoms_all]
  show words1.all (fun c => c.before args0 about1) = true
  refine all_split ?_ w_codes
  rw [← List.take_append_drop 24 words1, List.all_append, w_t1, ← List.take_append_drop 24 (words1.drop 24), List.all_append, w_t2, w_t3]
  rfl
set_option maxRecDepth 65536 in
theorem w_case : (Jvm.Cond.and given_1 narrow_1).before args0 about1 = true := by decide +kernel
theorem w_applies : (headSpec (Jvm.Cond.code x code maxLocals ret :: tables_1) room_1).applies x e0.platform about1 = true :=
  (Spec.applies_iff w_frames).mpr ⟨w_running, w_runnable, w_alone, w_named, w_hears, w_ripe, w_room, w_tables⟩
theorem atStart : AtStart classFile x code maxLocals ret World_1 tables_1 room_1 Calls_1 rest_1 Pre_1 launch0 p0 e0 about1 theMethod args0 below0 :=
  ⟨lists_1, trivial, launch0.admits_env _ _ _, launch0.least_env, fairChoices_fair.cas, fairChoices_fair.clock, w_frames, w_args, w_heap, w_applies, trivial, trivial, w_case⟩
end start1
theorem witness_1 : WitnessClaimed_1 := ⟨start1.p0, start1.e0, start1.about1, start1.theMethod, start1.args0, start1.below0, start1.atStart⟩
end Jvm.Pilot.@@N@@
