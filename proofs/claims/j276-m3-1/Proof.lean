import JvmDerived
import JvmDerived.Pilot.@@N@@Statement
import JvmDerived.Pilot.@@N@@Code
set_option linter.unusedVariables false
set_option linter.unusedSimpArgs false
@@BLOCK:NumsL.lean.txt@@
namespace Jvm.RoadKit
open Sem ClassFile Op Lib Jvm.Stand Jvm.Free Jvm.LawKit
section New
variable {p : Program} {l : Launch} {e : Env} {R : Room} {s : State} {m : MethodId} {args : Array Value} {below : List Frame} {meth : Method} {c : Code} {T : State} {locs : List Loc} {cells slots : Nat}
theorem retI (X : Stand p l e R s m args below meth c T locs cells slots) (hx : p.tables.exec = Jvm.exec) {pc : Nat} {Ls : Array Slot} {z : Int32} {rest : List Value} (hret : meth.sig.returnType = some .int) (hd : decode c.code pc = .ok (.ireturn, 1)) {fs : List Frame}
    (hl : ∀ (f : JFrame) (acts : List Action), f.method = m → f.locked = none → f.entered = [] → (doReturn e (T.setTop f) acts (some (.int z))).1 = T.setFrames fs) : Steps p.tables e below (T.setTop (mkF m pc Ls (.int z :: rest))) (T.setFrames fs) := by
  have hm' : T.vm.method? m = some meth := X.method'
  have hn : narrow .int (.int z) = .int z := rfl
  show Steps p.tables e below (T.setTop { method := m, pc := pc, locals := Ls, stack := _ :: rest, locked := none }) _
  jvm_step X.here [X.here.top, hx, hd, hm', hret, hn]
  first | (intro acts; rw [hl _ acts rfl rfl rfl]) | rw [hl _ _ rfl rfl rfl]
  exact Steps.refl _
end New
end Jvm.RoadKit
namespace Jvm.Pilot.@@N@@
open Jvm Jvm.ClassFile Sem Op Lib Jvm.Free Jvm.Stand Jvm.LawKit Jvm.RoadKit Bundle Jvm.Pilot.@@N@@.Jvm.D
/-! own: Java's shifts and remainders, written short -/
def own_shl (x y : Int32) : Int32 := x <<< (y &&& 31)
def own_shr (x y : Int32) : Int32 := x >>> (y &&& 31)
def own_ushr (x y : Int32) : Int32 := (x.toUInt32 >>> (y &&& 31).toUInt32).toInt32
def own_shlL (x : Int64) (y : Int32) : Int64 := x <<< (y &&& 0x3f).toInt64
def own_shrL (x : Int64) (y : Int32) : Int64 := x >>> (y &&& 0x3f).toInt64
def own_ushrL (x : Int64) (y : Int32) : Int64 := (x.toUInt64 >>> (y &&& 0x3f).toInt64.toUInt64).toInt64
def own_rem (x y : Int32) : Int32 := x - (x / y) * y
def own_remL (x y : Int64) : Int64 := x - (x / y) * y
theorem own_rem_nn {x y : Int32} (hx : 0 ≤ x.toInt) (hy : 0 < y.toInt) : (own_rem x y).toInt = x.toInt % y.toInt := by
  have hd : (x / y).toInt = x.toInt / y.toInt := by
    rw [Jvm.Kit.i32_div (by omega), Int.tdiv_eq_ediv_of_nonneg hx]
  have b1 := Int.emod_add_mul_ediv x.toInt y.toInt
  have b2 := Int.emod_nonneg x.toInt (by omega : y.toInt ≠ 0)
  have b3 := Int.emod_lt_of_pos x.toInt hy
  have b4 : 0 ≤ x.toInt / y.toInt := Int.ediv_nonneg hx (by omega)
  have hX := Int32.toInt_lt x
  have b5 : 0 ≤ y.toInt * (x.toInt / y.toInt) := Int.mul_nonneg (by omega) b4
  have hm : ((x / y) * y).toInt = y.toInt * (x.toInt / y.toInt) := by
    rw [Jvm.Kit.i32_mul (by rw [hd, Int.mul_comm]; omega) (by rw [hd, Int.mul_comm]; omega), hd, Int.mul_comm]
  unfold own_rem
  rw [Jvm.Kit.i32_sub (by rw [hm]; omega) (by rw [hm]; omega), hm]; omega
/-! own: a run from a frame to what 'Post' says -/
section OwnRun
variable {p : Program} {l : Launch} {e : Env} {R : Room} {s : State} {m : MethodId} {args : Array Value} {below : List Frame} {meth : Method} {c : Code} {T T' : State} {locs : List Loc} {cells slots : Nat} {g g' : JFrame} {Post : State → Prop} {n0 : Nat} {P : Heap → Prop} {C S : Nat} {Z : State} {h : Heap} {a : Addr} {k : ClassId} {n j : Int32} {vs : List Value} {d v : Value} {E : State → Outcome → State → List Loc → Nat → Nat → Prop}
def own_Run (p : Program) (e : Env) (below : List Frame) (T : State) (g : JFrame) (Post : State → Prop) : Prop := ∃ t, Steps p.tables e below (T.setTop g) t ∧ Post t
theorem own_step (st : ∀ t, Steps p.tables e below (T'.setTop g') t → Steps p.tables e below (T.setTop g) t) (h : own_Run p e below T' g' Post) : own_Run p e below T g Post := h.imp fun t k => ⟨st t k.1, k.2⟩
theorem own_tr (st : Steps p.tables e below (T.setTop g) (T'.setTop g')) (h : own_Run p e below T' g' Post) : own_Run p e below T g Post := h.imp fun t k => ⟨st.trans k.1, k.2⟩
theorem own_here (h : Post (T.setTop g)) : own_Run p e below T g Post := ⟨_, Steps.refl _, h⟩
theorem own_entry {Q : State → Prop} (q : g = g') (h : own_Run p e below T g' Q) : own_Run p e below T g Q := q ▸ h
def own_Q (n0 : Nat) (P : Heap → Prop) (w : Option Value) : Option Value → Heap → List Loc → Prop := fun v h L => v = w ∧ Fr n0 L ∧ P h
def own_Ret (E : State → Outcome → State → List Loc → Nat → Nat → Prop) (U : State) (below : List Frame) (C S : Nat) (Q : Option Value → Heap → List Loc → Prop) : State → Prop := fun t => t.status = .running ∧ ∃ o, Ended t below o ∧ ∃ v L, o = .returned v ∧ Q v t.heap L ∧ E U o t L C S
theorem own_fin {Q : Option Value → Heap → List Loc → Prop} (h : own_Run p e below T g (own_Ret E s below C S Q)) : ∃ s₂ o, Steps p.tables e below (T.setTop g) s₂ ∧ s₂.status = .running ∧ Ended s₂ below o ∧ ∃ v L, o = .returned v ∧ Q v s₂.heap L ∧ E s o s₂ L C S := by
  obtain ⟨t, st, hr, o, he, r⟩ := h; exact ⟨t, o, st, hr, he, r⟩
theorem own_vi {x y : Int32} (q : x = y) (h : own_Run p e below T g (own_Ret E s below C S (own_Q n0 P (some (.int y))))) : own_Run p e below T g (own_Ret E s below C S (own_Q n0 P (some (.int x)))) := q ▸ h
theorem own_vj {x y : Int64} (q : x = y) (h : own_Run p e below T g (own_Ret E s below C S (own_Q n0 P (some (.long y))))) : own_Run p e below T g (own_Ret E s below C S (own_Q n0 P (some (.long x)))) := q ▸ h
theorem own_leave {w : Option Value} (X : Stand p l e R s m args below meth c T locs cells slots) (hv : meth.sig.returnType = none → w = none) (hlk : meth.locks = false) (hC : cells ≤ C) (hS : slots ≤ S) (N : Fr n0 locs) (hP : P T.heap)
    (st : ∀ fs, (∀ (f : JFrame) (acts : List Action), f.method = m → f.locked = none → f.entered = [] → (doReturn e (T.setTop f) acts w).1 = T.setFrames fs) → Steps p.tables e below (T.setTop g) (T.setFrames fs)) : own_Run p e below T g (own_Ret FrameEnd s below C S (own_Q n0 P w)) := by
  obtain ⟨fs, hr, hrun, hended, hW, hsame⟩ := X.leave (v := w) hv hlk
  exact ⟨_, st fs hr, hrun, _, hended, _, _, rfl, ⟨rfl, N, hP⟩, ⟨_, rfl⟩, hW, hsame.mono hC hS⟩
theorem own_retZ (X : Stand p l e R s m args below meth c T locs cells slots) (hx : p.tables.exec = Jvm.exec) (hlk : meth.locks = false) {pc : Nat} {Ls : Array Slot} {z : Int32} {rest : List Value} (hret : meth.sig.returnType = some .boolean) (hd : decode c.code pc = .ok (.ireturn, 1)) (hC : cells ≤ C) (hS : slots ≤ S) (N : Fr n0 locs) (hP : P T.heap) :
    own_Run p e below T (mkF m pc Ls (.int z :: rest)) (own_Ret FrameEnd s below C S (own_Q n0 P (some (.int (nar .boolean z))))) :=
  own_leave X (fun q => by rw [hret] at q; cases q) hlk hC hS N hP fun fs hr => retN X hx (t := .boolean) hret (by simp) hd hr
theorem own_retI (X : Stand p l e R s m args below meth c T locs cells slots) (hx : p.tables.exec = Jvm.exec) (hlk : meth.locks = false) {pc : Nat} {Ls : Array Slot} {z : Int32} {rest : List Value} (hret : meth.sig.returnType = some .int) (hd : decode c.code pc = .ok (.ireturn, 1)) (hC : cells ≤ C) (hS : slots ≤ S) (N : Fr n0 locs) (hP : P T.heap) :
    own_Run p e below T (mkF m pc Ls (.int z :: rest)) (own_Ret FrameEnd s below C S (own_Q n0 P (some (.int z)))) :=
  own_leave X (fun q => by rw [hret] at q; cases q) hlk hC hS N hP fun fs hr => retI X hx hret hd hr
theorem own_retJ (X : Stand p l e R s m args below meth c T locs cells slots) (hx : p.tables.exec = Jvm.exec) (hlk : meth.locks = false) {pc : Nat} {Ls : Array Slot} {z : Int64} (hret : meth.sig.returnType = some .long) (hd : decode c.code pc = .ok (.lreturn, 1)) (hC : cells ≤ C) (hS : slots ≤ S) (N : Fr n0 locs) (hP : P T.heap) :
    own_Run p e below T (mkF m pc Ls [.long z]) (own_Ret FrameEnd s below C S (own_Q n0 P (some (.long z)))) :=
  own_leave X (fun q => by rw [hret] at q; cases q) hlk hC hS N hP fun fs hr => X.lreturnOut hx hret hd hr
theorem own_retD (X : Stand p l e R s m args below meth c T locs cells slots) (hx : p.tables.exec = Jvm.exec) (hlk : meth.locks = false) {pc : Nat} {Ls : Array Slot} {z : UInt64} {rest : List Value} (hret : meth.sig.returnType = some .double) (hd : decode c.code pc = .ok (.dreturn, 1)) (hC : cells ≤ C) (hS : slots ≤ S) (N : Fr n0 locs) (hP : P T.heap) :
    own_Run p e below T (mkF m pc Ls (.double z :: rest)) (own_Ret FrameEnd s below C S (own_Q n0 P (some (.double z)))) :=
  own_leave X (fun q => by rw [hret] at q; cases q) hlk hC hS N hP fun fs hr => retOut X hx (i := .dreturn) hret rfl (Or.inr (Or.inr (Or.inl ⟨rfl, rfl, z, rfl⟩))) hd hr
theorem own_retV (X : Stand p l e R s m args below meth c T locs cells slots) (hx : p.tables.exec = Jvm.exec) (hlk : meth.locks = false) {pc : Nat} {Ls : Array Slot} (hret : meth.sig.returnType = none) (hd : decode c.code pc = .ok (.return_, 1)) (hC : cells ≤ C) (hS : slots ≤ S) (N : Fr n0 locs) (hP : P T.heap) :
    own_Run p e below T (mkF m pc Ls []) (own_Ret FrameEnd s below C S (own_Q n0 P none)) :=
  own_leave X (fun _ => rfl) hlk hC hS N hP fun fs hr => X.returnOut hx hret hd hr
theorem own_retA (X : Stand p l e R s m args below meth c T locs cells slots) (hx : p.tables.exec = Jvm.exec) (hlk : meth.locks = false) {pc : Nat} {Ls : Array Slot} {w : Value} {t : FieldType} (hret : meth.sig.returnType = some t) (ht : t.isReference = true) (hw : w.isRef = true) (hd : decode c.code pc = .ok (.areturn, 1)) (hC : cells ≤ C) (hS : slots ≤ S) (N : Fr n0 locs) (hP : P T.heap) :
    own_Run p e below T (mkF m pc Ls [w]) (own_Ret FrameEnd s below C S (own_Q n0 P (some w))) :=
  own_leave X (fun q => by rw [hret] at q; cases q) hlk hC hS N hP fun fs hr => X.areturnOut hx hw hret ht hd hr
/-! own: the same where the walk may have loaded a String constant (the tables may hold a new pair) -/
theorem own_mixW {U t : State} {o : Outcome} {L : List Loc} {k n k' n' : Nat} (h : ReturnedEndW U o t L k n) (hk : k ≤ k') (hn : n ≤ n') : ReturnedEndW U o t L k' n' := ⟨h.1, h.2.1, h.2.2.1, h.2.2.2.mono hk hn⟩
theorem own_leaveW {vm₁ : Vm} {n : Nat} {w : Option Value} (X : Stand p l e R (s.setVm vm₁) m args below meth c T locs cells slots) (hS : s.Since vm₁ n) (hn : n ≤ T.heap.size) (hv : meth.sig.returnType = none → w = none) (hlk : meth.locks = false) (hC : cells ≤ C) (hSl : slots ≤ S) (N : Fr n0 locs) (hP : P T.heap)
    (st : ∀ fs, (∀ (f : JFrame) (acts : List Action), f.method = m → f.locked = none → f.entered = [] → (doReturn e (T.setTop f) acts w).1 = T.setFrames fs) → Steps p.tables e below (T.setTop g) (T.setFrames fs)) : own_Run p e below T g (own_Ret ReturnedEndW s below C S (own_Q n0 P w)) := by
  obtain ⟨fs, hr, hrun, hended, hW⟩ := X.leaveW hS hn (v := w) hv hlk
  exact ⟨_, st fs hr, hrun, _, hended, _, _, rfl, ⟨rfl, N, hP⟩, own_mixW hW hC hSl⟩
theorem own_retZW {vm₁ : Vm} {n : Nat} (X : Stand p l e R (s.setVm vm₁) m args below meth c T locs cells slots) (hx : p.tables.exec = Jvm.exec) (hlk : meth.locks = false) {pc : Nat} {Ls : Array Slot} {z : Int32} {rest : List Value} (hret : meth.sig.returnType = some .boolean) (hd : decode c.code pc = .ok (.ireturn, 1)) (hC : cells ≤ C) (hSl : slots ≤ S) (N : Fr n0 locs) (hP : P T.heap) (hS : s.Since vm₁ n) (hn : n ≤ T.heap.size) :
    own_Run p e below T (mkF m pc Ls (.int z :: rest)) (own_Ret ReturnedEndW s below C S (own_Q n0 P (some (.int (nar .boolean z))))) :=
  own_leaveW X hS hn (fun q => by rw [hret] at q; cases q) hlk hC hSl N hP fun fs hr => retN X hx (t := .boolean) hret (by simp) hd hr
theorem own_retVW {vm₁ : Vm} {n : Nat} (X : Stand p l e R (s.setVm vm₁) m args below meth c T locs cells slots) (hx : p.tables.exec = Jvm.exec) (hlk : meth.locks = false) {pc : Nat} {Ls : Array Slot} (hret : meth.sig.returnType = none) (hd : decode c.code pc = .ok (.return_, 1)) (hC : cells ≤ C) (hSl : slots ≤ S) (N : Fr n0 locs) (hP : P T.heap) (hS : s.Since vm₁ n) (hn : n ≤ T.heap.size) :
    own_Run p e below T (mkF m pc Ls []) (own_Ret ReturnedEndW s below C S (own_Q n0 P none)) :=
  own_leaveW X hS hn (fun _ => rfl) hlk hC hSl N hP fun fs hr => X.returnOut hx hret hd hr
/-- no static's home -/
def own_Pl (h : Heap) (a : Addr) : Prop := ∃ c : Cell, h[a]? = some c ∧ c.vm.isStatics = false
theorem own_plV {ty : FieldType} (F : Arv Z h a k ty n vs d) : own_Pl h a := by obtain ⟨c, A, -⟩ := F; exact ⟨c, A.1, A.plain⟩
theorem own_plE {Cn : String} (F : Exa Z h a Cn) : own_Pl h a := by obtain ⟨c, kk, h1, -, -, h4, -⟩ := F; exact ⟨c, h1, h4⟩
theorem own_keepS {h' : Heap} {ws : List Addr} {Cn fn dn : String} (F : Sta Z h Cn fn dn v) (K : Keep h h' ws) (A : ∀ a ∈ ws, own_Pl h a) : Sta Z h' Cn fn dn v := by
  obtain ⟨cf, i, kk, f, st, cell, h1, h2, h3, h4, h5, h6, h7⟩ := F
  refine ⟨cf, i, kk, f, st, cell, h1, h2, h3, h4, K.2.1 st cell h5 (fun hm => ?_), h6, h7⟩
  obtain ⟨c, q1, q2⟩ := A st hm
  cases h5.symm.trans q1; rw [q2] at h6; cases h6
/-! own: an array's component, by its Arv -/
theorem own_ldI (X : Stand p l e R s m args below meth c T locs cells slots) (hx : p.tables.exec = Jvm.exec) (hZ : Z.Warmed39 s.vm) (eT : T.heap = h) (F : Arv Z h a k .int n vs d) (q : ¬ j < 0 ∧ j < n) (u : vs.getD j.toNatClampNeg d = v) (hg : g.method = m) {rest : List Value} (hs : g.stack = .int j :: .ref a :: rest) (hd : decode c.code g.pc = .ok (.iaload, 1)) :
    ∀ t, Steps p.tables e below (T.setTop { g with pc := g.pc + 1, stack := v :: rest }) t → Steps p.tables e below (T.setTop g) t := by
  obtain ⟨cl, Ar, -, Sz, -, Hs, -⟩ := F
  exact fun t kt => X.iaload hx (by rw [eT]; exact Ar.1) (State.isArrayOf_alike hZ.alike Ar.2.1) Ar.2.2 (inb_of Sz q) (Hs.at (inb_of Sz q) u) hg hs hd t kt
theorem own_ldJ (X : Stand p l e R s m args below meth c T locs cells slots) (hx : p.tables.exec = Jvm.exec) (hZ : Z.Warmed39 s.vm) (eT : T.heap = h) (F : Arv Z h a k .long n vs d) (q : ¬ j < 0 ∧ j < n) (u : vs.getD j.toNatClampNeg d = v) (hg : g.method = m) {rest : List Value} (hs : g.stack = .int j :: .ref a :: rest) (hd : decode c.code g.pc = .ok (.laload, 1)) :
    ∀ t, Steps p.tables e below (T.setTop { g with pc := g.pc + 1, stack := v :: rest }) t → Steps p.tables e below (T.setTop g) t := by
  obtain ⟨cl, Ar, -, Sz, -, Hs, -⟩ := F
  exact fun t kt => X.laload hx (by rw [eT]; exact Ar.1) (State.isArrayOf_alike hZ.alike Ar.2.1) Ar.2.2 (inb_of Sz q) (Hs.at (inb_of Sz q) u) hg hs hd t kt
theorem own_ldB (X : Stand p l e R s m args below meth c T locs cells slots) (hx : p.tables.exec = Jvm.exec) (hZ : Z.Warmed39 s.vm) (eT : T.heap = h) (F : Arv Z h a k .byte n vs d) (q : ¬ j < 0 ∧ j < n) (u : vs.getD j.toNatClampNeg d = v) (hg : g.method = m) {rest : List Value} (hs : g.stack = .int j :: .ref a :: rest) (hd : decode c.code g.pc = .ok (.baload, 1)) :
    ∀ t, Steps p.tables e below (T.setTop { g with pc := g.pc + 1, stack := v :: rest }) t → Steps p.tables e below (T.setTop g) t := by
  obtain ⟨cl, Ar, -, Sz, -, Hs, -⟩ := F
  exact fun t kt => X.baloadBytes hx (by rw [eT]; exact Ar.1) (State.isArrayOf_alike hZ.alike Ar.2.1) Ar.2.2 (inb_of Sz q) (Hs.at (inb_of Sz q) u) hg hs hd t kt
theorem own_len (X : Stand p l e R s m args below meth c T locs cells slots) (hx : p.tables.exec = Jvm.exec) (hZ : Z.Warmed39 s.vm) (eT : T.heap = h) {ty : FieldType} (F : Arv Z h a k ty n vs d) (hg : g.method = m) {rest : List Value} (hs : g.stack = .ref a :: rest) (hd : decode c.code g.pc = .ok (.arraylength, 1)) :
    ∀ t, Steps p.tables e below (T.setTop { g with pc := g.pc + 1, stack := .int n :: rest }) t → Steps p.tables e below (T.setTop g) t := by
  obtain ⟨cl, Ar, -, Sz, Ng, -, -⟩ := F
  intro t kt
  refine X.arraylength hx (by rw [eT]; exact Ar.1) (State.isArrayOf_alike hZ.alike Ar.2.1) hg hs hd t ?_
  rw [len_of Sz Ng]; exact kt
theorem own_stI (X : Stand p l e R s m args below meth c T locs cells slots) (hx : p.tables.exec = Jvm.exec) (hZ : Z.Warmed39 s.vm) (eT : T.heap = h) (F : Arv Z h a k .int n vs d) (N : Fr n0 locs) (ge : n0 ≤ a) {x : Int32} (q : ¬ j < 0 ∧ j < n) (i : Nat) (hi : j.toNatClampNeg = i) (hl : i < vs.length) (hg : g.method = m) {rest : List Value} (hs : g.stack = .int x :: .int j :: .ref a :: rest) (hd : decode c.code g.pc = .ok (.iastore, 1)) :
    ∃ T' h' L, Stand p l e R s m args below meth c T' L cells slots ∧ T'.heap = h' ∧ Fr n0 L ∧ Wr h h' a j.toNatClampNeg (.int x) ∧ Arv Z h' a k .int n (vs.set i (.int x)) d ∧ ∀ t, Steps p.tables e below (T'.setTop { g with pc := g.pc + 1, stack := rest }) t → Steps p.tables e below (T.setTop g) t := by
  obtain ⟨cl, Ar, q1, Sz, Ng, Hs, Gs⟩ := F
  obtain ⟨T', h', X', e', W, st⟩ := stI X hx hZ eT Ar (j := j) (x := x) (inb_of Sz q) hg hs hd
  exact ⟨T', h', _, X', e', Fr.snoc X' N ge, W, Arv.set Ar q1 Sz Ng Hs Gs rfl W i hi hl, st⟩
theorem own_stJ (X : Stand p l e R s m args below meth c T locs cells slots) (hx : p.tables.exec = Jvm.exec) (hZ : Z.Warmed39 s.vm) (eT : T.heap = h) (F : Arv Z h a k .long n vs d) (N : Fr n0 locs) (ge : n0 ≤ a) {x : Int64} (q : ¬ j < 0 ∧ j < n) (i : Nat) (hi : j.toNatClampNeg = i) (hl : i < vs.length) (hg : g.method = m) {rest : List Value} (hs : g.stack = .long x :: .int j :: .ref a :: rest) (hd : decode c.code g.pc = .ok (.lastore, 1)) :
    ∃ T' h' L, Stand p l e R s m args below meth c T' L cells slots ∧ T'.heap = h' ∧ Fr n0 L ∧ Wr h h' a j.toNatClampNeg (.long x) ∧ Arv Z h' a k .long n (vs.set i (.long x)) d ∧ ∀ t, Steps p.tables e below (T'.setTop { g with pc := g.pc + 1, stack := rest }) t → Steps p.tables e below (T.setTop g) t := by
  obtain ⟨cl, Ar, q1, Sz, Ng, Hs, Gs⟩ := F
  obtain ⟨T', h', X', e', W, st⟩ := stJ X hx hZ eT Ar (j := j) (x := x) (inb_of Sz q) hg hs hd
  exact ⟨T', h', _, X', e', Fr.snoc X' N ge, W, Arv.set Ar q1 Sz Ng Hs Gs rfl W i hi hl, st⟩
theorem own_stB (X : Stand p l e R s m args below meth c T locs cells slots) (hx : p.tables.exec = Jvm.exec) (hZ : Z.Warmed39 s.vm) (eT : T.heap = h) (F : Arv Z h a k .byte n vs d) (N : Fr n0 locs) (ge : n0 ≤ a) {x : Int32} (q : ¬ j < 0 ∧ j < n) (i : Nat) (hi : j.toNatClampNeg = i) (hl : i < vs.length) (hg : g.method = m) {rest : List Value} (hs : g.stack = .int x :: .int j :: .ref a :: rest) (hd : decode c.code g.pc = .ok (.bastore, 1)) :
    ∃ T' h' L, Stand p l e R s m args below meth c T' L cells slots ∧ T'.heap = h' ∧ Fr n0 L ∧ Wr h h' a j.toNatClampNeg (.int (nar .byte x)) ∧ Arv Z h' a k .byte n (vs.set i (.int (nar .byte x))) d ∧ ∀ t, Steps p.tables e below (T'.setTop { g with pc := g.pc + 1, stack := rest }) t → Steps p.tables e below (T.setTop g) t := by
  obtain ⟨cl, Ar, q1, Sz, Ng, Hs, Gs⟩ := F
  obtain ⟨T', h', X', e', W, st⟩ := stB X hx hZ eT Ar (j := j) (x := x) (inb_of Sz q) hg hs hd
  exact ⟨T', h', _, X', e', Fr.snoc X' N ge, W, Arv.set Ar q1 Sz Ng Hs Gs (fits_nar_byte _) W i hi hl, st⟩
theorem own_ldR {Cn : String} (X : Stand p l e R s m args below meth c T locs cells slots) (hx : p.tables.exec = Jvm.exec) (hZ : Z.Warmed39 s.vm) (eT : T.heap = h) (F : Arv Z h a k (.object Cn) n vs d) (q : ¬ j < 0 ∧ j < n) (u : vs.getD j.toNatClampNeg d = v) (hg : g.method = m) {rest : List Value} (hs : g.stack = .int j :: .ref a :: rest) (hd : decode c.code g.pc = .ok (.aaload, 1)) :
    ∀ t, Steps p.tables e below (T.setTop { g with pc := g.pc + 1, stack := v :: rest }) t → Steps p.tables e below (T.setTop g) t := by
  obtain ⟨cl, Ar, -, Sz, -, Hs, -⟩ := F
  exact fun t kt => X.aaload hx (by rw [eT]; exact Ar.1) (State.isArrayOf_alike hZ.alike Ar.2.1) rfl Ar.2.2 (inb_of Sz q) (Hs.at (inb_of Sz q) u) hg hs hd t kt
theorem own_stR {Cn : String} {y : Addr} (X : Stand p l e R s m args below meth c T locs cells slots) (hx : p.tables.exec = Jvm.exec) (hZ : Z.Warmed39 s.vm) (eT : T.heap = h) (F : Arv Z h a k (.object Cn) n vs d) (O : Ovr Z k Cn) (I : Ins Z h y Cn true) (N : Fr n0 locs) (ge : n0 ≤ a) (q : ¬ j < 0 ∧ j < n) (i : Nat) (hi : j.toNatClampNeg = i) (hl : i < vs.length) (hg : g.method = m) {rest : List Value} (hs : g.stack = .ref y :: .int j :: .ref a :: rest) (hd : decode c.code g.pc = .ok (.aastore, 1)) :
    ∃ T' h' L, Stand p l e R s m args below meth c T' L cells slots ∧ T'.heap = h' ∧ Fr n0 L ∧ Wr h h' a j.toNatClampNeg (.ref y) ∧ Arv Z h' a k (.object Cn) n (vs.set i (.ref y)) d ∧ ∀ t, Steps p.tables e below (T'.setTop { g with pc := g.pc + 1, stack := rest }) t → Steps p.tables e below (T.setTop g) t := by
  obtain ⟨cl, Ar, q1, Sz, Ng, Hs, Gs⟩ := F
  obtain ⟨T', h', X', e', W, st⟩ := stR X hx hZ eT Ar (j := j) (v := .ref y) (inb_of Sz q) rfl (Sto.ofV Ar q1 O I) hg hs hd
  exact ⟨T', h', _, X', e', Fr.snoc X' N ge, W, Arv.set Ar q1 Sz Ng Hs Gs rfl W i hi hl, st⟩
end OwnRun
theorem own_pn0 : plainName "com/example/kuva/kuva/image/YuvImage" = true := by first | (simp [plainName, overriddenIn]; done) | decide +kernel
theorem own_d2_0 : decode prog_14_method_6_code 0 = .ok (.iload_n 0, 1) := by decide +kernel
theorem own_d2_1 : decode prog_14_method_6_code 1 = .ok (.iconst 2, 1) := by decide +kernel
theorem own_d2_2 : decode prog_14_method_6_code 2 = .ok (.idiv, 1) := by decide +kernel
theorem own_d2_3 : decode prog_14_method_6_code 3 = .ok (.iload_n 0, 1) := by decide +kernel
theorem own_d2_4 : decode prog_14_method_6_code 4 = .ok (.iconst 2, 1) := by decide +kernel
theorem own_d2_5 : decode prog_14_method_6_code 5 = .ok (.irem, 1) := by decide +kernel
theorem own_d2_6 : decode prog_14_method_6_code 6 = .ok (.iadd, 1) := by decide +kernel
theorem own_d2_7 : decode prog_14_method_6_code 7 = .ok (.ireturn, 1) := by decide +kernel
def own_r2 (p0 : Int32) : Int32 := ((p0 / (2 : Int32)) + (own_rem p0 (2 : Int32)))
theorem own_ef2 (m : MethodId) (p0 : Int32) : entryFrame m #[(.int p0)] 1 = (mkF m 0 #[.val (.int p0)] []) := by first | (simp [entryFrame, mkF, argsToLocals, Value.category]; done) | rfl
set_option maxRecDepth 65536 in
set_option maxHeartbeats 40000000 in
theorem rm2 (l : Launch) (Z : State) (a0 : Array Value) (hw : ∀ d ∈ tables_1, d.before a0 Z = true) (ws : List Jvm.Cond) (p0 : Int32) (h0 : Heap) (n0 : Nat) (Z0 : n0 ≤ h0.size) :
    MetFree l (⟨"com/example/kuva/kuva/image/YuvImage", "half", "(I)I"⟩ : MethodName) (head1 (Jvm.Cond.code (⟨"com/example/kuva/kuva/image/YuvImage", "half", "(I)I"⟩ : MethodName) prog_14_method_6_code 1 (some .int) :: ws) ({ frames := 0, cells := 0, slots := 0, locals := 0 } : Room)) (fun a U => a = #[(.int p0)] ∧ Z.Warmed39 U.vm ∧ U.heap = h0) (fun _ _ _ _ _ => True) (fun _ U o U' => ∃ v L, o = .returned v ∧ own_Q n0 (fun h => h = h0) (some (.int (own_r2 p0))) v U'.heap L ∧ FrameEnd U o U' L ({ frames := 0, cells := 0, slots := 0, locals := 0 } : Room).cells ({ frames := 0, cells := 0, slots := 0, locals := 0 } : Room).slots) := by
  refine MetFree.of_bodySF (plainFor_of_name own_pn0) hisR ?_
  intro p e s m args below meth c s₁ Bd hml0 hP hK
  obtain ⟨rfl, hZ, hh⟩ := hP
  have hx := Bd.exec
  have hby := Bd.bytes
  have hml : c.maxLocals = 1 := hml0
  have hown : s.vm.findClass "com/example/kuva/kuva/image/YuvImage" = some m.cls := findClass_of_methodNamed Bd.named
  have hnm := (name_of_methodNamed Bd.named Bd.method).1
  have hret := Bd.returns
  have hlk : meth.locks = false := BodyLoose.notSynchronized Bd
  have X0 : Stand p l e ({ frames := 0, cells := 0, slots := 0, locals := 0 } : Room) s m #[(.int p0)] below meth c s₁ [] 0 0 := Stand.of_body Bd
  have e0 : s₁.heap = h0 := by rw [← hh, Bd.state]; rfl
  have N0 := Fr.nil n0
  clear Bd hh hK
  refine own_fin ?_
  refine own_entry (own_ef2 m p0) ?_
  show own_Run p e below s₁ _ (own_Ret _ s below _ _ (own_Q n0 _ (some (.int ((p0 / (2 : Int32)) + (own_rem p0 (2 : Int32)))))))
  show own_Run p e below s₁ (mkF m 0 #[.val (.int p0)] []) _
  refine own_step (fun t k => XS.iloadN X0.here hx rfl (hb hby own_d2_0) rfl  k) ?_
  show own_Run p e below s₁ (mkF m 1 #[.val (.int p0)] [(.int p0)]) _
  refine own_step (fun t k => XS.iconst X0.here hx rfl (hb hby own_d2_1) k) ?_
  show own_Run p e below s₁ (mkF m 2 #[.val (.int p0)] [(.int (2 : Int32)), (.int p0)]) _
  refine own_step (fun t k => XS.idiv X0.here hx rfl (hb hby own_d2_2) rfl (by decide) k) ?_
  show own_Run p e below s₁ (mkF m 3 #[.val (.int p0)] [(.int (p0 / (2 : Int32)))]) _
  refine own_step (fun t k => XS.iloadN X0.here hx rfl (hb hby own_d2_3) rfl  k) ?_
  show own_Run p e below s₁ (mkF m 4 #[.val (.int p0)] [(.int p0), (.int (p0 / (2 : Int32)))]) _
  refine own_step (fun t k => XS.iconst X0.here hx rfl (hb hby own_d2_4) k) ?_
  show own_Run p e below s₁ (mkF m 5 #[.val (.int p0)] [(.int (2 : Int32)), (.int p0), (.int (p0 / (2 : Int32)))]) _
  refine own_step (fun t k => XS.irem X0.here hx rfl (hb hby own_d2_5) rfl (by decide) k) ?_
  show own_Run p e below s₁ (mkF m 6 #[.val (.int p0)] [(.int (own_rem p0 (2 : Int32))), (.int (p0 / (2 : Int32)))]) _
  refine own_step (fun t k => XS.iadd X0.here hx rfl (hb hby own_d2_6) rfl k) ?_
  show own_Run p e below s₁ (mkF m 7 #[.val (.int p0)] [(.int ((p0 / (2 : Int32)) + (own_rem p0 (2 : Int32))))]) _
  exact own_retI X0 hx hlk hret (hb hby own_d2_7) (by decide) (by decide) N0 e0
theorem own_pd8 : parseMethodDescriptor "(I)I" = some ⟨[.int], some .int⟩ := by decide +kernel
theorem own_d1_0 : decode prog_14_method_5_code 0 = .ok (.iload_n 0, 1) := by decide +kernel
theorem own_d1_1 : decode prog_14_method_5_code 1 = .ok (.i2l, 1) := by decide +kernel
theorem own_d1_2 : decode prog_14_method_5_code 2 = .ok (.iload_n 1, 1) := by decide +kernel
theorem own_d1_3 : decode prog_14_method_5_code 3 = .ok (.i2l, 1) := by decide +kernel
theorem own_d1_4 : decode prog_14_method_5_code 4 = .ok (.lmul, 1) := by decide +kernel
theorem own_d1_5 : decode prog_14_method_5_code 5 = .ok (.ldc2_w 60, 3) := by decide +kernel
theorem own_d1_8 : decode prog_14_method_5_code 8 = .ok (.iload_n 0, 1) := by decide +kernel
theorem own_d1_9 : decode prog_14_method_5_code 9 = .ok (.invokestatic 62, 3) := by decide +kernel
theorem own_d1_12 : decode prog_14_method_5_code 12 = .ok (.i2l, 1) := by decide +kernel
theorem own_d1_13 : decode prog_14_method_5_code 13 = .ok (.lmul, 1) := by decide +kernel
theorem own_d1_14 : decode prog_14_method_5_code 14 = .ok (.iload_n 1, 1) := by decide +kernel
theorem own_d1_15 : decode prog_14_method_5_code 15 = .ok (.invokestatic 62, 3) := by decide +kernel
theorem own_d1_18 : decode prog_14_method_5_code 18 = .ok (.i2l, 1) := by decide +kernel
theorem own_d1_19 : decode prog_14_method_5_code 19 = .ok (.lmul, 1) := by decide +kernel
theorem own_d1_20 : decode prog_14_method_5_code 20 = .ok (.ladd, 1) := by decide +kernel
theorem own_d1_21 : decode prog_14_method_5_code 21 = .ok (.lreturn, 1) := by decide +kernel
def own_r1 (p0 : Int32) (p1 : Int32) : Int64 := (((p0).toInt64 * (p1).toInt64) + (((2 : Int64) * ((own_r2 p0)).toInt64) * ((own_r2 p1)).toInt64))
theorem own_ef1 (m : MethodId) (p0 : Int32) (p1 : Int32) : entryFrame m #[(.int p0), (.int p1)] 2 = (mkF m 0 #[.val (.int p0), .val (.int p1)] []) := by first | (simp [entryFrame, mkF, argsToLocals, Value.category]; done) | rfl
set_option maxRecDepth 65536 in
set_option maxHeartbeats 40000000 in
theorem rm1 (l : Launch) (Z : State) (a0 : Array Value) (hw : ∀ d ∈ tables_1, d.before a0 Z = true) (ws : List Jvm.Cond) (p0 : Int32) (p1 : Int32) (h0 : Heap) (n0 : Nat) (Z0 : n0 ≤ h0.size) :
    MetFree l (⟨"com/example/kuva/kuva/image/YuvImage", "byteCount", "(II)J"⟩ : MethodName) (head1 (Jvm.Cond.code (⟨"com/example/kuva/kuva/image/YuvImage", "byteCount", "(II)J"⟩ : MethodName) prog_14_method_5_code 2 (some .long) :: ws) ({ frames := 1, cells := 0, slots := 0, locals := 16 } : Room)) (fun a U => a = #[(.int p0), (.int p1)] ∧ Z.Warmed39 U.vm ∧ U.heap = h0) (fun _ _ _ _ _ => True) (fun _ U o U' => ∃ v L, o = .returned v ∧ own_Q n0 (fun h => h = h0) (some (.long (own_r1 p0 p1))) v U'.heap L ∧ FrameEnd U o U' L ({ frames := 1, cells := 0, slots := 0, locals := 16 } : Room).cells ({ frames := 1, cells := 0, slots := 0, locals := 16 } : Room).slots) := by
  refine MetFree.of_bodySF (plainFor_of_name own_pn0) hisR ?_
  intro p e s m args below meth c s₁ Bd hml0 hP hK
  obtain ⟨rfl, hZ, hh⟩ := hP
  have hx := Bd.exec
  have hby := Bd.bytes
  have hml : c.maxLocals = 2 := hml0
  have hown : s.vm.findClass "com/example/kuva/kuva/image/YuvImage" = some m.cls := findClass_of_methodNamed Bd.named
  have hnm := (name_of_methodNamed Bd.named Bd.method).1
  have hret := Bd.returns
  have hlk : meth.locks = false := BodyLoose.notSynchronized Bd
  have X0 : Stand p l e ({ frames := 1, cells := 0, slots := 0, locals := 16 } : Room) s m #[(.int p0), (.int p1)] below meth c s₁ [] 0 0 := Stand.of_body Bd
  have e0 : s₁.heap = h0 := by rw [← hh, Bd.state]; rfl
  have N0 := Fr.nil n0
  clear Bd hh hK
  refine own_fin ?_
  refine own_entry (own_ef1 m p0 p1) ?_
  show own_Run p e below s₁ _ (own_Ret _ s below _ _ (own_Q n0 _ (some (.long (((p0).toInt64 * (p1).toInt64) + (((2 : Int64) * ((own_r2 p0)).toInt64) * ((own_r2 p1)).toInt64))))))
  show own_Run p e below s₁ (mkF m 0 #[.val (.int p0), .val (.int p1)] []) _
  refine own_step (fun t k => XS.iloadN X0.here hx rfl (hb hby own_d1_0) rfl  k) ?_
  show own_Run p e below s₁ (mkF m 1 #[.val (.int p0), .val (.int p1)] [(.int p0)]) _
  refine own_step (fun t k => XS.i2l X0.here hx rfl (hb hby own_d1_1) rfl k) ?_
  show own_Run p e below s₁ (mkF m 2 #[.val (.int p0), .val (.int p1)] [(.long (p0).toInt64)]) _
  refine own_step (fun t k => XS.iloadN X0.here hx rfl (hb hby own_d1_2) rfl  k) ?_
  show own_Run p e below s₁ (mkF m 3 #[.val (.int p0), .val (.int p1)] [(.int p1), (.long (p0).toInt64)]) _
  refine own_step (fun t k => XS.i2l X0.here hx rfl (hb hby own_d1_3) rfl k) ?_
  show own_Run p e below s₁ (mkF m 4 #[.val (.int p0), .val (.int p1)] [(.long (p1).toInt64), (.long (p0).toInt64)]) _
  refine own_step (fun t k => XS.lmul X0.here hx rfl (hb hby own_d1_4) rfl k) ?_
  show own_Run p e below s₁ (mkF m 5 #[.val (.int p0), .val (.int p1)] [(.long ((p0).toInt64 * (p1).toInt64))]) _
  refine own_step (fun t k => X0.ldc2Long hx hown (mvT hZ (hw _ (List.mem_of_getElem? (i := 6) rfl))) (g := (mkF m 5 #[.val (.int p0), .val (.int p1)] [(.long ((p0).toInt64 * (p1).toInt64))])) rfl (hb hby own_d1_5) t k) ?_
  show own_Run p e below s₁ (mkF m 8 #[.val (.int p0), .val (.int p1)] [(.long (2 : Int64)), (.long ((p0).toInt64 * (p1).toInt64))]) _
  refine own_step (fun t k => XS.iloadN X0.here hx rfl (hb hby own_d1_8) rfl  k) ?_
  show own_Run p e below s₁ (mkF m 9 #[.val (.int p0), .val (.int p1)] [(.int p0), (.long (2 : Int64)), (.long ((p0).toInt64 * (p1).toInt64))]) _
  obtain ⟨_, _, ⟨T3, L3, kq3, nq3⟩, -, X3, ⟨Lc3, hQ3, lq3, yq3, zq3⟩, st3⟩ := Jvm.LawKit.callS X0 hx (y := (⟨"com/example/kuva/kuva/image/YuvImage", "half", "(I)I"⟩ : MethodName)) hown (mvT hZ (hw _ (List.mem_of_getElem? (i := 7) rfl))) (mvT hZ (hw _ (List.mem_of_getElem? (i := 8) rfl))) (mvT hZ (hw _ (List.mem_of_getElem? (i := 4) rfl))) (mvT hZ (hw _ (List.mem_of_getElem? (i := 9) rfl))) (by decide) (backOf (W := 4) (rm2 l Z a0 hw [] p0 h0 n0 Z0 ) hZ (hw _ (List.mem_of_getElem? (i := 9) rfl)) (hw _ (List.mem_of_getElem? (i := 4) rfl)) (by decide) (by decide)) (g := (mkF m 9 #[.val (.int p0), .val (.int p1)] [(.int p0), (.long (2 : Int64)), (.long ((p0).toInt64 * (p1).toInt64))])) rfl (by rw [hml]; rfl) (argsL := [(.int p0)]) (rest := [(.long (2 : Int64)), (.long ((p0).toInt64 * (p1).toInt64))]) (lenOf own_pd8 rfl) rfl (by show 2 * 0 + _ ≤ _; exact Nat.le_of_eq rfl) (hb hby own_d1_9) (fun _ _ => ⟨rfl, e0, (by decide : 0 + 0 ≤ _), (by decide : 0 + 0 ≤ _)⟩)
  dsimp only [Pt.U, Pt.locs, Pt.cells, Pt.slots] at X3 lq3 yq3 zq3 st3 hQ3
  subst lq3 yq3 zq3
  obtain ⟨rfl, N3q, e3⟩ := hQ3
  have N3 := Fr.app N0 N3q
  refine own_step st3 ?_
  show own_Run p e below T3 (mkF m 12 #[.val (.int p0), .val (.int p1)] [(.int (own_r2 p0)), (.long (2 : Int64)), (.long ((p0).toInt64 * (p1).toInt64))]) _
  refine own_step (fun t k => XS.i2l X3.here hx rfl (hb hby own_d1_12) rfl k) ?_
  show own_Run p e below T3 (mkF m 13 #[.val (.int p0), .val (.int p1)] [(.long ((own_r2 p0)).toInt64), (.long (2 : Int64)), (.long ((p0).toInt64 * (p1).toInt64))]) _
  refine own_step (fun t k => XS.lmul X3.here hx rfl (hb hby own_d1_13) rfl k) ?_
  show own_Run p e below T3 (mkF m 14 #[.val (.int p0), .val (.int p1)] [(.long ((2 : Int64) * ((own_r2 p0)).toInt64)), (.long ((p0).toInt64 * (p1).toInt64))]) _
  refine own_step (fun t k => XS.iloadN X3.here hx rfl (hb hby own_d1_14) rfl  k) ?_
  show own_Run p e below T3 (mkF m 15 #[.val (.int p0), .val (.int p1)] [(.int p1), (.long ((2 : Int64) * ((own_r2 p0)).toInt64)), (.long ((p0).toInt64 * (p1).toInt64))]) _
  obtain ⟨_, _, ⟨T4, L4, kq4, nq4⟩, -, X4, ⟨Lc4, hQ4, lq4, yq4, zq4⟩, st4⟩ := Jvm.LawKit.callS X3 hx (y := (⟨"com/example/kuva/kuva/image/YuvImage", "half", "(I)I"⟩ : MethodName)) hown (mvT hZ (hw _ (List.mem_of_getElem? (i := 7) rfl))) (mvT hZ (hw _ (List.mem_of_getElem? (i := 8) rfl))) (mvT hZ (hw _ (List.mem_of_getElem? (i := 4) rfl))) (mvT hZ (hw _ (List.mem_of_getElem? (i := 9) rfl))) (by decide) (backOf (W := 4) (rm2 l Z a0 hw [] p1 h0 n0 Z0 ) hZ (hw _ (List.mem_of_getElem? (i := 9) rfl)) (hw _ (List.mem_of_getElem? (i := 4) rfl)) (by decide) (by decide)) (g := (mkF m 15 #[.val (.int p0), .val (.int p1)] [(.int p1), (.long ((2 : Int64) * ((own_r2 p0)).toInt64)), (.long ((p0).toInt64 * (p1).toInt64))])) rfl (by rw [hml]; rfl) (argsL := [(.int p1)]) (rest := [(.long ((2 : Int64) * ((own_r2 p0)).toInt64)), (.long ((p0).toInt64 * (p1).toInt64))]) (lenOf own_pd8 rfl) rfl (by show 2 * 0 + _ ≤ _; exact Nat.le_of_eq rfl) (hb hby own_d1_15) (fun _ _ => ⟨rfl, e3, (by decide : 0 + 0 ≤ _), (by decide : 0 + 0 ≤ _)⟩)
  dsimp only [Pt.U, Pt.locs, Pt.cells, Pt.slots] at X4 lq4 yq4 zq4 st4 hQ4
  subst lq4 yq4 zq4
  obtain ⟨rfl, N4q, e4⟩ := hQ4
  have N4 := Fr.app N3 N4q
  refine own_step st4 ?_
  show own_Run p e below T4 (mkF m 18 #[.val (.int p0), .val (.int p1)] [(.int (own_r2 p1)), (.long ((2 : Int64) * ((own_r2 p0)).toInt64)), (.long ((p0).toInt64 * (p1).toInt64))]) _
  refine own_step (fun t k => XS.i2l X4.here hx rfl (hb hby own_d1_18) rfl k) ?_
  show own_Run p e below T4 (mkF m 19 #[.val (.int p0), .val (.int p1)] [(.long ((own_r2 p1)).toInt64), (.long ((2 : Int64) * ((own_r2 p0)).toInt64)), (.long ((p0).toInt64 * (p1).toInt64))]) _
  refine own_step (fun t k => XS.lmul X4.here hx rfl (hb hby own_d1_19) rfl k) ?_
  show own_Run p e below T4 (mkF m 20 #[.val (.int p0), .val (.int p1)] [(.long (((2 : Int64) * ((own_r2 p0)).toInt64) * ((own_r2 p1)).toInt64)), (.long ((p0).toInt64 * (p1).toInt64))]) _
  refine own_step (fun t k => XS.ladd X4.here hx rfl (hb hby own_d1_20) rfl k) ?_
  show own_Run p e below T4 (mkF m 21 #[.val (.int p0), .val (.int p1)] [(.long (((p0).toInt64 * (p1).toInt64) + (((2 : Int64) * ((own_r2 p0)).toInt64) * ((own_r2 p1)).toInt64)))]) _
  exact own_retJ X4 hx hlk hret (hb hby own_d1_21) (by decide) (by decide) N4 e4
theorem own_pd25 : parseMethodDescriptor "(II)J" = some ⟨[.int, .int], some .long⟩ := by decide +kernel
theorem own_pn1 : plainName "com/example/kuva/kuva/image/YuvImageByteCountPinLaw" = true := by first | (simp [plainName, overriddenIn]; done) | decide +kernel
def own_f0_4 (p0 : Int32) : Int32 := (p0 &&& (2147483647 : Int32))
def own_f0_9 (p1 : Int32) : Int32 := (p1 &&& (2147483647 : Int32))
def own_f0_19 (p0 : Int32) : Int64 := (((own_shr (own_f0_4 p0) (1 : Int32))).toInt64 + (((own_f0_4 p0) &&& (1 : Int32))).toInt64)
def own_f0_30 (p1 : Int32) : Int64 := (((own_shr (own_f0_9 p1) (1 : Int32))).toInt64 + (((own_f0_9 p1) &&& (1 : Int32))).toInt64)
def own_f0_47 (p0 : Int32) (p1 : Int32) : Int64 := ((((own_f0_4 p0)).toInt64 * ((own_f0_9 p1)).toInt64) + (((2 : Int64) * (own_f0_19 p0)) * (own_f0_30 p1)))
def own_f0_j65_S0 (p0 : Int32) (p1 : Int32) : Int32 := (if (lcmpW (own_r1 (own_f0_4 p0) (own_f0_9 p1)) (own_f0_47 p0 p1)) = (0 : Int32) then (1 : Int32) else (0 : Int32))
def own_r0 (p0 : Int32) (p1 : Int32) : Int32 := (nar .boolean (own_f0_j65_S0 p0 p1))
theorem own_ef0 (m : MethodId) (p0 : Int32) (p1 : Int32) : entryFrame m #[(.int p0), (.int p1)] maxLocals = (mkF m 0 #[.val (.int p0), .val (.int p1), .unset, .unset, .unset, .unset, .unset, .unset, .unset, .unset] []) := by first | (simp [entryFrame, mkF, argsToLocals, Value.category, maxLocals]; done) | rfl
set_option maxRecDepth 65536 in
set_option maxHeartbeats 40000000 in
theorem rm0 (l : Launch) (Z : State) (a0 : Array Value) (hw : ∀ d ∈ tables_1, d.before a0 Z = true) (ws : List Jvm.Cond) (p0 : Int32) (p1 : Int32) (h0 : Heap) (n0 : Nat) (Z0 : n0 ≤ h0.size) :
    MetFree l x (head1 (Jvm.Cond.code x code maxLocals ret :: ws) room_1) (fun a U => a = #[(.int p0), (.int p1)] ∧ Z.Warmed39 U.vm ∧ U.heap = h0) (fun _ _ _ _ _ => True) (fun _ U o U' => ∃ v L, o = .returned v ∧ own_Q n0 (fun _ => True) (some (.int (own_r0 p0 p1))) v U'.heap L ∧ FrameEnd U o U' L room_1.cells room_1.slots) := by
  refine MetFree.of_bodySF (plainFor_of_name own_pn1) hisR ?_
  intro p e s m args below meth c s₁ Bd hml0 hP hK
  obtain ⟨rfl, hZ, hh⟩ := hP
  have hx := Bd.exec
  have hby := Bd.bytes
  have hml : c.maxLocals = 10 := hml0
  have hown : s.vm.findClass "com/example/kuva/kuva/image/YuvImageByteCountPinLaw" = some m.cls := findClass_of_methodNamed Bd.named
  have hnm := (name_of_methodNamed Bd.named Bd.method).1
  have hret := Bd.returns
  have hlk : meth.locks = false := BodyLoose.notSynchronized Bd
  have X0 : Stand p l e room_1 s m #[(.int p0), (.int p1)] below meth c s₁ [] 0 0 := Stand.of_body Bd
  have e0 : s₁.heap = h0 := by rw [← hh, Bd.state]; rfl
  have N0 := Fr.nil n0
  clear Bd hh hK
  refine own_fin ?_
  refine own_entry (own_ef0 m p0 p1) ?_
  show own_Run p e below s₁ _ (own_Ret _ s below _ _ (own_Q n0 _ (some (.int (nar .boolean (own_f0_j65_S0 p0 p1))))))
  show own_Run p e below s₁ (mkF m 0 #[.val (.int p0), .val (.int p1), .unset, .unset, .unset, .unset, .unset, .unset, .unset, .unset] []) _
  refine own_step (fun t k => XS.iloadN X0.here hx rfl (hb hby at_0) rfl  k) ?_
  show own_Run p e below s₁ (mkF m 1 #[.val (.int p0), .val (.int p1), .unset, .unset, .unset, .unset, .unset, .unset, .unset, .unset] [(.int p0)]) _
  refine own_step (fun t k => X0.ldcInt hx hown (mvT hZ (hw _ (List.mem_of_getElem? (i := 0) rfl))) (g := (mkF m 1 #[.val (.int p0), .val (.int p1), .unset, .unset, .unset, .unset, .unset, .unset, .unset, .unset] [(.int p0)])) rfl (hb hby at_1) t k) ?_
  show own_Run p e below s₁ (mkF m 3 #[.val (.int p0), .val (.int p1), .unset, .unset, .unset, .unset, .unset, .unset, .unset, .unset] [(.int (2147483647 : Int32)), (.int p0)]) _
  refine own_step (fun t k => XS.iand X0.here hx rfl (hb hby at_3) rfl k) ?_
  show own_Run p e below s₁ (mkF m 4 #[.val (.int p0), .val (.int p1), .unset, .unset, .unset, .unset, .unset, .unset, .unset, .unset] [(.int (p0 &&& (2147483647 : Int32)))]) _
  refine own_step (fun t k => XS.istoreN X0.here hx rfl (hb hby at_4) rfl (l' := #[.val (.int p0), .val (.int p1), .val (.int (own_f0_4 p0)), .unset, .unset, .unset, .unset, .unset, .unset, .unset]) rfl k) ?_
  show own_Run p e below s₁ (mkF m 5 #[.val (.int p0), .val (.int p1), .val (.int (own_f0_4 p0)), .unset, .unset, .unset, .unset, .unset, .unset, .unset] []) _
  refine own_step (fun t k => XS.iloadN X0.here hx rfl (hb hby at_5) rfl  k) ?_
  show own_Run p e below s₁ (mkF m 6 #[.val (.int p0), .val (.int p1), .val (.int (own_f0_4 p0)), .unset, .unset, .unset, .unset, .unset, .unset, .unset] [(.int p1)]) _
  refine own_step (fun t k => X0.ldcInt hx hown (mvT hZ (hw _ (List.mem_of_getElem? (i := 0) rfl))) (g := (mkF m 6 #[.val (.int p0), .val (.int p1), .val (.int (own_f0_4 p0)), .unset, .unset, .unset, .unset, .unset, .unset, .unset] [(.int p1)])) rfl (hb hby at_6) t k) ?_
  show own_Run p e below s₁ (mkF m 8 #[.val (.int p0), .val (.int p1), .val (.int (own_f0_4 p0)), .unset, .unset, .unset, .unset, .unset, .unset, .unset] [(.int (2147483647 : Int32)), (.int p1)]) _
  refine own_step (fun t k => XS.iand X0.here hx rfl (hb hby at_8) rfl k) ?_
  show own_Run p e below s₁ (mkF m 9 #[.val (.int p0), .val (.int p1), .val (.int (own_f0_4 p0)), .unset, .unset, .unset, .unset, .unset, .unset, .unset] [(.int (p1 &&& (2147483647 : Int32)))]) _
  refine own_step (fun t k => XS.istoreN X0.here hx rfl (hb hby at_9) rfl (l' := #[.val (.int p0), .val (.int p1), .val (.int (own_f0_4 p0)), .val (.int (own_f0_9 p1)), .unset, .unset, .unset, .unset, .unset, .unset]) rfl k) ?_
  show own_Run p e below s₁ (mkF m 10 #[.val (.int p0), .val (.int p1), .val (.int (own_f0_4 p0)), .val (.int (own_f0_9 p1)), .unset, .unset, .unset, .unset, .unset, .unset] []) _
  refine own_step (fun t k => XS.iloadN X0.here hx rfl (hb hby at_10) rfl  k) ?_
  show own_Run p e below s₁ (mkF m 11 #[.val (.int p0), .val (.int p1), .val (.int (own_f0_4 p0)), .val (.int (own_f0_9 p1)), .unset, .unset, .unset, .unset, .unset, .unset] [(.int (own_f0_4 p0))]) _
  refine own_step (fun t k => XS.iconst X0.here hx rfl (hb hby at_11) k) ?_
  show own_Run p e below s₁ (mkF m 12 #[.val (.int p0), .val (.int p1), .val (.int (own_f0_4 p0)), .val (.int (own_f0_9 p1)), .unset, .unset, .unset, .unset, .unset, .unset] [(.int (1 : Int32)), (.int (own_f0_4 p0))]) _
  refine own_step (fun t k => XS.ishr X0.here hx rfl (hb hby at_12) rfl k) ?_
  show own_Run p e below s₁ (mkF m 13 #[.val (.int p0), .val (.int p1), .val (.int (own_f0_4 p0)), .val (.int (own_f0_9 p1)), .unset, .unset, .unset, .unset, .unset, .unset] [(.int (own_shr (own_f0_4 p0) (1 : Int32)))]) _
  refine own_step (fun t k => XS.i2l X0.here hx rfl (hb hby at_13) rfl k) ?_
  show own_Run p e below s₁ (mkF m 14 #[.val (.int p0), .val (.int p1), .val (.int (own_f0_4 p0)), .val (.int (own_f0_9 p1)), .unset, .unset, .unset, .unset, .unset, .unset] [(.long ((own_shr (own_f0_4 p0) (1 : Int32))).toInt64)]) _
  refine own_step (fun t k => XS.iloadN X0.here hx rfl (hb hby at_14) rfl  k) ?_
  show own_Run p e below s₁ (mkF m 15 #[.val (.int p0), .val (.int p1), .val (.int (own_f0_4 p0)), .val (.int (own_f0_9 p1)), .unset, .unset, .unset, .unset, .unset, .unset] [(.int (own_f0_4 p0)), (.long ((own_shr (own_f0_4 p0) (1 : Int32))).toInt64)]) _
  refine own_step (fun t k => XS.iconst X0.here hx rfl (hb hby at_15) k) ?_
  show own_Run p e below s₁ (mkF m 16 #[.val (.int p0), .val (.int p1), .val (.int (own_f0_4 p0)), .val (.int (own_f0_9 p1)), .unset, .unset, .unset, .unset, .unset, .unset] [(.int (1 : Int32)), (.int (own_f0_4 p0)), (.long ((own_shr (own_f0_4 p0) (1 : Int32))).toInt64)]) _
  refine own_step (fun t k => XS.iand X0.here hx rfl (hb hby at_16) rfl k) ?_
  show own_Run p e below s₁ (mkF m 17 #[.val (.int p0), .val (.int p1), .val (.int (own_f0_4 p0)), .val (.int (own_f0_9 p1)), .unset, .unset, .unset, .unset, .unset, .unset] [(.int ((own_f0_4 p0) &&& (1 : Int32))), (.long ((own_shr (own_f0_4 p0) (1 : Int32))).toInt64)]) _
  refine own_step (fun t k => XS.i2l X0.here hx rfl (hb hby at_17) rfl k) ?_
  show own_Run p e below s₁ (mkF m 18 #[.val (.int p0), .val (.int p1), .val (.int (own_f0_4 p0)), .val (.int (own_f0_9 p1)), .unset, .unset, .unset, .unset, .unset, .unset] [(.long (((own_f0_4 p0) &&& (1 : Int32))).toInt64), (.long ((own_shr (own_f0_4 p0) (1 : Int32))).toInt64)]) _
  refine own_step (fun t k => XS.ladd X0.here hx rfl (hb hby at_18) rfl k) ?_
  show own_Run p e below s₁ (mkF m 19 #[.val (.int p0), .val (.int p1), .val (.int (own_f0_4 p0)), .val (.int (own_f0_9 p1)), .unset, .unset, .unset, .unset, .unset, .unset] [(.long (((own_shr (own_f0_4 p0) (1 : Int32))).toInt64 + (((own_f0_4 p0) &&& (1 : Int32))).toInt64))]) _
  refine own_step (fun t k => XS.lstore X0.here hx rfl (hb hby at_19) rfl (l' := #[.val (.int p0), .val (.int p1), .val (.int (own_f0_4 p0)), .val (.int (own_f0_9 p1)), .val (.long (own_f0_19 p0)), .second, .unset, .unset, .unset, .unset]) rfl k) ?_
  show own_Run p e below s₁ (mkF m 21 #[.val (.int p0), .val (.int p1), .val (.int (own_f0_4 p0)), .val (.int (own_f0_9 p1)), .val (.long (own_f0_19 p0)), .second, .unset, .unset, .unset, .unset] []) _
  refine own_step (fun t k => XS.iloadN X0.here hx rfl (hb hby at_21) rfl  k) ?_
  show own_Run p e below s₁ (mkF m 22 #[.val (.int p0), .val (.int p1), .val (.int (own_f0_4 p0)), .val (.int (own_f0_9 p1)), .val (.long (own_f0_19 p0)), .second, .unset, .unset, .unset, .unset] [(.int (own_f0_9 p1))]) _
  refine own_step (fun t k => XS.iconst X0.here hx rfl (hb hby at_22) k) ?_
  show own_Run p e below s₁ (mkF m 23 #[.val (.int p0), .val (.int p1), .val (.int (own_f0_4 p0)), .val (.int (own_f0_9 p1)), .val (.long (own_f0_19 p0)), .second, .unset, .unset, .unset, .unset] [(.int (1 : Int32)), (.int (own_f0_9 p1))]) _
  refine own_step (fun t k => XS.ishr X0.here hx rfl (hb hby at_23) rfl k) ?_
  show own_Run p e below s₁ (mkF m 24 #[.val (.int p0), .val (.int p1), .val (.int (own_f0_4 p0)), .val (.int (own_f0_9 p1)), .val (.long (own_f0_19 p0)), .second, .unset, .unset, .unset, .unset] [(.int (own_shr (own_f0_9 p1) (1 : Int32)))]) _
  refine own_step (fun t k => XS.i2l X0.here hx rfl (hb hby at_24) rfl k) ?_
  show own_Run p e below s₁ (mkF m 25 #[.val (.int p0), .val (.int p1), .val (.int (own_f0_4 p0)), .val (.int (own_f0_9 p1)), .val (.long (own_f0_19 p0)), .second, .unset, .unset, .unset, .unset] [(.long ((own_shr (own_f0_9 p1) (1 : Int32))).toInt64)]) _
  refine own_step (fun t k => XS.iloadN X0.here hx rfl (hb hby at_25) rfl  k) ?_
  show own_Run p e below s₁ (mkF m 26 #[.val (.int p0), .val (.int p1), .val (.int (own_f0_4 p0)), .val (.int (own_f0_9 p1)), .val (.long (own_f0_19 p0)), .second, .unset, .unset, .unset, .unset] [(.int (own_f0_9 p1)), (.long ((own_shr (own_f0_9 p1) (1 : Int32))).toInt64)]) _
  refine own_step (fun t k => XS.iconst X0.here hx rfl (hb hby at_26) k) ?_
  show own_Run p e below s₁ (mkF m 27 #[.val (.int p0), .val (.int p1), .val (.int (own_f0_4 p0)), .val (.int (own_f0_9 p1)), .val (.long (own_f0_19 p0)), .second, .unset, .unset, .unset, .unset] [(.int (1 : Int32)), (.int (own_f0_9 p1)), (.long ((own_shr (own_f0_9 p1) (1 : Int32))).toInt64)]) _
  refine own_step (fun t k => XS.iand X0.here hx rfl (hb hby at_27) rfl k) ?_
  show own_Run p e below s₁ (mkF m 28 #[.val (.int p0), .val (.int p1), .val (.int (own_f0_4 p0)), .val (.int (own_f0_9 p1)), .val (.long (own_f0_19 p0)), .second, .unset, .unset, .unset, .unset] [(.int ((own_f0_9 p1) &&& (1 : Int32))), (.long ((own_shr (own_f0_9 p1) (1 : Int32))).toInt64)]) _
  refine own_step (fun t k => XS.i2l X0.here hx rfl (hb hby at_28) rfl k) ?_
  show own_Run p e below s₁ (mkF m 29 #[.val (.int p0), .val (.int p1), .val (.int (own_f0_4 p0)), .val (.int (own_f0_9 p1)), .val (.long (own_f0_19 p0)), .second, .unset, .unset, .unset, .unset] [(.long (((own_f0_9 p1) &&& (1 : Int32))).toInt64), (.long ((own_shr (own_f0_9 p1) (1 : Int32))).toInt64)]) _
  refine own_step (fun t k => XS.ladd X0.here hx rfl (hb hby at_29) rfl k) ?_
  show own_Run p e below s₁ (mkF m 30 #[.val (.int p0), .val (.int p1), .val (.int (own_f0_4 p0)), .val (.int (own_f0_9 p1)), .val (.long (own_f0_19 p0)), .second, .unset, .unset, .unset, .unset] [(.long (((own_shr (own_f0_9 p1) (1 : Int32))).toInt64 + (((own_f0_9 p1) &&& (1 : Int32))).toInt64))]) _
  refine own_step (fun t k => XS.lstore X0.here hx rfl (hb hby at_30) rfl (l' := #[.val (.int p0), .val (.int p1), .val (.int (own_f0_4 p0)), .val (.int (own_f0_9 p1)), .val (.long (own_f0_19 p0)), .second, .val (.long (own_f0_30 p1)), .second, .unset, .unset]) rfl k) ?_
  show own_Run p e below s₁ (mkF m 32 #[.val (.int p0), .val (.int p1), .val (.int (own_f0_4 p0)), .val (.int (own_f0_9 p1)), .val (.long (own_f0_19 p0)), .second, .val (.long (own_f0_30 p1)), .second, .unset, .unset] []) _
  refine own_step (fun t k => XS.iloadN X0.here hx rfl (hb hby at_32) rfl  k) ?_
  show own_Run p e below s₁ (mkF m 33 #[.val (.int p0), .val (.int p1), .val (.int (own_f0_4 p0)), .val (.int (own_f0_9 p1)), .val (.long (own_f0_19 p0)), .second, .val (.long (own_f0_30 p1)), .second, .unset, .unset] [(.int (own_f0_4 p0))]) _
  refine own_step (fun t k => XS.i2l X0.here hx rfl (hb hby at_33) rfl k) ?_
  show own_Run p e below s₁ (mkF m 34 #[.val (.int p0), .val (.int p1), .val (.int (own_f0_4 p0)), .val (.int (own_f0_9 p1)), .val (.long (own_f0_19 p0)), .second, .val (.long (own_f0_30 p1)), .second, .unset, .unset] [(.long ((own_f0_4 p0)).toInt64)]) _
  refine own_step (fun t k => XS.iloadN X0.here hx rfl (hb hby at_34) rfl  k) ?_
  show own_Run p e below s₁ (mkF m 35 #[.val (.int p0), .val (.int p1), .val (.int (own_f0_4 p0)), .val (.int (own_f0_9 p1)), .val (.long (own_f0_19 p0)), .second, .val (.long (own_f0_30 p1)), .second, .unset, .unset] [(.int (own_f0_9 p1)), (.long ((own_f0_4 p0)).toInt64)]) _
  refine own_step (fun t k => XS.i2l X0.here hx rfl (hb hby at_35) rfl k) ?_
  show own_Run p e below s₁ (mkF m 36 #[.val (.int p0), .val (.int p1), .val (.int (own_f0_4 p0)), .val (.int (own_f0_9 p1)), .val (.long (own_f0_19 p0)), .second, .val (.long (own_f0_30 p1)), .second, .unset, .unset] [(.long ((own_f0_9 p1)).toInt64), (.long ((own_f0_4 p0)).toInt64)]) _
  refine own_step (fun t k => XS.lmul X0.here hx rfl (hb hby at_36) rfl k) ?_
  show own_Run p e below s₁ (mkF m 37 #[.val (.int p0), .val (.int p1), .val (.int (own_f0_4 p0)), .val (.int (own_f0_9 p1)), .val (.long (own_f0_19 p0)), .second, .val (.long (own_f0_30 p1)), .second, .unset, .unset] [(.long (((own_f0_4 p0)).toInt64 * ((own_f0_9 p1)).toInt64))]) _
  refine own_step (fun t k => X0.ldc2Long hx hown (mvT hZ (hw _ (List.mem_of_getElem? (i := 1) rfl))) (g := (mkF m 37 #[.val (.int p0), .val (.int p1), .val (.int (own_f0_4 p0)), .val (.int (own_f0_9 p1)), .val (.long (own_f0_19 p0)), .second, .val (.long (own_f0_30 p1)), .second, .unset, .unset] [(.long (((own_f0_4 p0)).toInt64 * ((own_f0_9 p1)).toInt64))])) rfl (hb hby at_37) t k) ?_
  show own_Run p e below s₁ (mkF m 40 #[.val (.int p0), .val (.int p1), .val (.int (own_f0_4 p0)), .val (.int (own_f0_9 p1)), .val (.long (own_f0_19 p0)), .second, .val (.long (own_f0_30 p1)), .second, .unset, .unset] [(.long (2 : Int64)), (.long (((own_f0_4 p0)).toInt64 * ((own_f0_9 p1)).toInt64))]) _
  refine own_step (fun t k => XS.lload X0.here hx rfl (hb hby at_40) rfl  k) ?_
  show own_Run p e below s₁ (mkF m 42 #[.val (.int p0), .val (.int p1), .val (.int (own_f0_4 p0)), .val (.int (own_f0_9 p1)), .val (.long (own_f0_19 p0)), .second, .val (.long (own_f0_30 p1)), .second, .unset, .unset] [(.long (own_f0_19 p0)), (.long (2 : Int64)), (.long (((own_f0_4 p0)).toInt64 * ((own_f0_9 p1)).toInt64))]) _
  refine own_step (fun t k => XS.lmul X0.here hx rfl (hb hby at_42) rfl k) ?_
  show own_Run p e below s₁ (mkF m 43 #[.val (.int p0), .val (.int p1), .val (.int (own_f0_4 p0)), .val (.int (own_f0_9 p1)), .val (.long (own_f0_19 p0)), .second, .val (.long (own_f0_30 p1)), .second, .unset, .unset] [(.long ((2 : Int64) * (own_f0_19 p0))), (.long (((own_f0_4 p0)).toInt64 * ((own_f0_9 p1)).toInt64))]) _
  refine own_step (fun t k => XS.lload X0.here hx rfl (hb hby at_43) rfl  k) ?_
  show own_Run p e below s₁ (mkF m 45 #[.val (.int p0), .val (.int p1), .val (.int (own_f0_4 p0)), .val (.int (own_f0_9 p1)), .val (.long (own_f0_19 p0)), .second, .val (.long (own_f0_30 p1)), .second, .unset, .unset] [(.long (own_f0_30 p1)), (.long ((2 : Int64) * (own_f0_19 p0))), (.long (((own_f0_4 p0)).toInt64 * ((own_f0_9 p1)).toInt64))]) _
  refine own_step (fun t k => XS.lmul X0.here hx rfl (hb hby at_45) rfl k) ?_
  show own_Run p e below s₁ (mkF m 46 #[.val (.int p0), .val (.int p1), .val (.int (own_f0_4 p0)), .val (.int (own_f0_9 p1)), .val (.long (own_f0_19 p0)), .second, .val (.long (own_f0_30 p1)), .second, .unset, .unset] [(.long (((2 : Int64) * (own_f0_19 p0)) * (own_f0_30 p1))), (.long (((own_f0_4 p0)).toInt64 * ((own_f0_9 p1)).toInt64))]) _
  refine own_step (fun t k => XS.ladd X0.here hx rfl (hb hby at_46) rfl k) ?_
  show own_Run p e below s₁ (mkF m 47 #[.val (.int p0), .val (.int p1), .val (.int (own_f0_4 p0)), .val (.int (own_f0_9 p1)), .val (.long (own_f0_19 p0)), .second, .val (.long (own_f0_30 p1)), .second, .unset, .unset] [(.long ((((own_f0_4 p0)).toInt64 * ((own_f0_9 p1)).toInt64) + (((2 : Int64) * (own_f0_19 p0)) * (own_f0_30 p1))))]) _
  refine own_step (fun t k => XS.lstore X0.here hx rfl (hb hby at_47) rfl (l' := #[.val (.int p0), .val (.int p1), .val (.int (own_f0_4 p0)), .val (.int (own_f0_9 p1)), .val (.long (own_f0_19 p0)), .second, .val (.long (own_f0_30 p1)), .second, .val (.long (own_f0_47 p0 p1)), .second]) rfl k) ?_
  show own_Run p e below s₁ (mkF m 49 #[.val (.int p0), .val (.int p1), .val (.int (own_f0_4 p0)), .val (.int (own_f0_9 p1)), .val (.long (own_f0_19 p0)), .second, .val (.long (own_f0_30 p1)), .second, .val (.long (own_f0_47 p0 p1)), .second] []) _
  refine own_step (fun t k => XS.iloadN X0.here hx rfl (hb hby at_49) rfl  k) ?_
  show own_Run p e below s₁ (mkF m 50 #[.val (.int p0), .val (.int p1), .val (.int (own_f0_4 p0)), .val (.int (own_f0_9 p1)), .val (.long (own_f0_19 p0)), .second, .val (.long (own_f0_30 p1)), .second, .val (.long (own_f0_47 p0 p1)), .second] [(.int (own_f0_4 p0))]) _
  refine own_step (fun t k => XS.iloadN X0.here hx rfl (hb hby at_50) rfl  k) ?_
  show own_Run p e below s₁ (mkF m 51 #[.val (.int p0), .val (.int p1), .val (.int (own_f0_4 p0)), .val (.int (own_f0_9 p1)), .val (.long (own_f0_19 p0)), .second, .val (.long (own_f0_30 p1)), .second, .val (.long (own_f0_47 p0 p1)), .second] [(.int (own_f0_9 p1)), (.int (own_f0_4 p0))]) _
  obtain ⟨_, _, ⟨T4, L4, kq4, nq4⟩, -, X4, ⟨Lc4, hQ4, lq4, yq4, zq4⟩, st4⟩ := Jvm.LawKit.callS X0 hx (y := (⟨"com/example/kuva/kuva/image/YuvImage", "byteCount", "(II)J"⟩ : MethodName)) hown (mvT hZ (hw _ (List.mem_of_getElem? (i := 2) rfl))) (mvT hZ (hw _ (List.mem_of_getElem? (i := 3) rfl))) (mvT hZ (hw _ (List.mem_of_getElem? (i := 4) rfl))) (mvT hZ (hw _ (List.mem_of_getElem? (i := 5) rfl))) (by decide) (backOf (W := 0) (rm1 l Z a0 hw [] (own_f0_4 p0) (own_f0_9 p1) h0 n0 Z0 ) hZ (hw _ (List.mem_of_getElem? (i := 5) rfl)) (hw _ (List.mem_of_getElem? (i := 4) rfl)) (by decide) (by decide)) (g := (mkF m 51 #[.val (.int p0), .val (.int p1), .val (.int (own_f0_4 p0)), .val (.int (own_f0_9 p1)), .val (.long (own_f0_19 p0)), .second, .val (.long (own_f0_30 p1)), .second, .val (.long (own_f0_47 p0 p1)), .second] [(.int (own_f0_9 p1)), (.int (own_f0_4 p0))])) rfl (by rw [hml]; rfl) (argsL := [(.int (own_f0_4 p0)), (.int (own_f0_9 p1))]) (rest := []) (lenOf own_pd25 rfl) rfl (by show 2 * 0 + _ ≤ _; exact Nat.le_of_eq rfl) (hb hby at_51) (fun _ _ => ⟨rfl, e0, (by decide : 0 + 0 ≤ _), (by decide : 0 + 0 ≤ _)⟩)
  dsimp only [Pt.U, Pt.locs, Pt.cells, Pt.slots] at X4 lq4 yq4 zq4 st4 hQ4
  subst lq4 yq4 zq4
  obtain ⟨rfl, N4q, e4⟩ := hQ4
  have N4 := Fr.app N0 N4q
  refine own_step st4 ?_
  show own_Run p e below T4 (mkF m 54 #[.val (.int p0), .val (.int p1), .val (.int (own_f0_4 p0)), .val (.int (own_f0_9 p1)), .val (.long (own_f0_19 p0)), .second, .val (.long (own_f0_30 p1)), .second, .val (.long (own_f0_47 p0 p1)), .second] [(.long (own_r1 (own_f0_4 p0) (own_f0_9 p1)))]) _
  refine own_step (fun t k => XS.lload X4.here hx rfl (hb hby at_54) rfl  k) ?_
  show own_Run p e below T4 (mkF m 56 #[.val (.int p0), .val (.int p1), .val (.int (own_f0_4 p0)), .val (.int (own_f0_9 p1)), .val (.long (own_f0_19 p0)), .second, .val (.long (own_f0_30 p1)), .second, .val (.long (own_f0_47 p0 p1)), .second] [(.long (own_f0_47 p0 p1)), (.long (own_r1 (own_f0_4 p0) (own_f0_9 p1)))]) _
  refine own_step (fun t k => XS.lcmp X4.here hx rfl (hb hby at_56) rfl k) ?_
  show own_Run p e below T4 (mkF m 57 #[.val (.int p0), .val (.int p1), .val (.int (own_f0_4 p0)), .val (.int (own_f0_9 p1)), .val (.long (own_f0_19 p0)), .second, .val (.long (own_f0_30 p1)), .second, .val (.long (own_f0_47 p0 p1)), .second] [(.int (lcmpW (own_r1 (own_f0_4 p0) (own_f0_9 p1)) (own_f0_47 p0 p1)))]) _
  obtain ⟨_, st5, rfl⟩ : own_Run p e below T4 (mkF m 57 #[.val (.int p0), .val (.int p1), .val (.int (own_f0_4 p0)), .val (.int (own_f0_9 p1)), .val (.long (own_f0_19 p0)), .second, .val (.long (own_f0_30 p1)), .second, .val (.long (own_f0_47 p0 p1)), .second] [(.int (lcmpW (own_r1 (own_f0_4 p0) (own_f0_9 p1)) (own_f0_47 p0 p1)))]) (fun t => t = T4.setTop (mkF m 65 #[.val (.int p0), .val (.int p1), .val (.int (own_f0_4 p0)), .val (.int (own_f0_9 p1)), .val (.long (own_f0_19 p0)), .second, .val (.long (own_f0_30 p1)), .second, .val (.long (own_f0_47 p0 p1)), .second] [(.int (own_f0_j65_S0 p0 p1))])) := by
    by_cases hc6 : (lcmpW (own_r1 (own_f0_4 p0) (own_f0_9 p1)) (own_f0_47 p0 p1)) = (0 : Int32)
    · refine own_step (fun t k => XS.ifNo X4.here hx rfl (hb hby at_57) rfl ((if0 _ _).trans (teq hc6).2) k) ?_
      show own_Run p e below T4 (mkF m 60 #[.val (.int p0), .val (.int p1), .val (.int (own_f0_4 p0)), .val (.int (own_f0_9 p1)), .val (.long (own_f0_19 p0)), .second, .val (.long (own_f0_30 p1)), .second, .val (.long (own_f0_47 p0 p1)), .second] []) _
      refine own_step (fun t k => XS.iconst X4.here hx rfl (hb hby at_60) k) ?_
      show own_Run p e below T4 (mkF m 61 #[.val (.int p0), .val (.int p1), .val (.int (own_f0_4 p0)), .val (.int (own_f0_9 p1)), .val (.long (own_f0_19 p0)), .second, .val (.long (own_f0_30 p1)), .second, .val (.long (own_f0_47 p0 p1)), .second] [(.int (1 : Int32))]) _
      refine own_step (fun t k => XS.goto X4.here hx rfl (pc0 := 61) (pc' := 65) rfl (hb hby at_61) (by decide) (by decide) k) ?_
      show own_Run p e below T4 (mkF m 65 #[.val (.int p0), .val (.int p1), .val (.int (own_f0_4 p0)), .val (.int (own_f0_9 p1)), .val (.long (own_f0_19 p0)), .second, .val (.long (own_f0_30 p1)), .second, .val (.long (own_f0_47 p0 p1)), .second] [(.int (1 : Int32))]) _
      have hj0 : (own_f0_j65_S0 p0 p1) = (1 : Int32) := (if_pos hc6)
      exact own_here (by rw [hj0])
    · refine own_step (fun t k => XS.ifYes X4.here hx rfl (pc0 := 57) (pc' := 64) rfl (hb hby at_57) rfl ((if0 _ _).trans (feq hc6).2) (by decide) (by decide) k) ?_
      show own_Run p e below T4 (mkF m 64 #[.val (.int p0), .val (.int p1), .val (.int (own_f0_4 p0)), .val (.int (own_f0_9 p1)), .val (.long (own_f0_19 p0)), .second, .val (.long (own_f0_30 p1)), .second, .val (.long (own_f0_47 p0 p1)), .second] []) _
      refine own_step (fun t k => XS.iconst X4.here hx rfl (hb hby at_64) k) ?_
      show own_Run p e below T4 (mkF m 65 #[.val (.int p0), .val (.int p1), .val (.int (own_f0_4 p0)), .val (.int (own_f0_9 p1)), .val (.long (own_f0_19 p0)), .second, .val (.long (own_f0_30 p1)), .second, .val (.long (own_f0_47 p0 p1)), .second] [(.int (0 : Int32))]) _
      have hj0 : (own_f0_j65_S0 p0 p1) = (0 : Int32) := (if_neg hc6)
      exact own_here (by rw [hj0])
  refine own_tr st5 ?_
  show own_Run p e below T4 (mkF m 65 #[.val (.int p0), .val (.int p1), .val (.int (own_f0_4 p0)), .val (.int (own_f0_9 p1)), .val (.long (own_f0_19 p0)), .second, .val (.long (own_f0_30 p1)), .second, .val (.long (own_f0_47 p0 p1)), .second] [(.int (own_f0_j65_S0 p0 p1))]) _
  exact own_retZ X4 hx hlk hret (hb hby at_65) (by decide) (by decide) N4 trivial
theorem own_half {w : Int32} (h : 0 ≤ w.toInt) : (own_r2 w).toInt64 = (own_shr w 1).toInt64 + (w &&& 1).toInt64 := by
  have e2 : (2 : Int32).toInt = 2 := by decide
  have h1 : (own_shr w 1).toInt = w.toInt / 2 ^ 1 := Jvm.Kit.i32_shr w _ (k := 1) (by decide)
  have h2 : (w &&& 1).toInt = w.toInt % 2 ^ 1 := Jvm.Kit.i32_mask w 1 (k := 1) (by decide) (by decide)
  have h3 : (w / 2).toInt = w.toInt / 2 := by rw [Jvm.Kit.i32_div (by rw [e2]; omega), Int.tdiv_eq_ediv_of_nonneg h, e2]
  have h4 : (own_rem w 2).toInt = w.toInt % 2 := by rw [own_rem_nn h (by decide), e2]
  have hb := Int32.toInt_lt w
  have h5 : (own_r2 w).toInt = w.toInt / 2 + w.toInt % 2 := by
    unfold own_r2; rw [Jvm.Kit.i32_add (by omega) (by omega), h3, h4]
  apply Int64.toInt_inj.mp
  rw [Jvm.Kit.i64_of_i32, h5, Jvm.Kit.i64_add (by rw [Jvm.Kit.i64_of_i32, Jvm.Kit.i64_of_i32]; omega) (by rw [Jvm.Kit.i64_of_i32, Jvm.Kit.i64_of_i32]; omega), Jvm.Kit.i64_of_i32, Jvm.Kit.i64_of_i32, h1, h2]
  omega
theorem own_plain (p0 p1 : Int32) : own_r0 p0 p1 = 1 := by
  have a0 : 0 ≤ (own_f0_4 p0).toInt := by unfold own_f0_4; rw [Jvm.Kit.i32_mask p0 _ (k := 31) (by decide) (by decide)]; omega
  have a1 : 0 ≤ (own_f0_9 p1).toInt := by unfold own_f0_9; rw [Jvm.Kit.i32_mask p1 _ (k := 31) (by decide) (by decide)]; omega
  have e : own_r1 (own_f0_4 p0) (own_f0_9 p1) = own_f0_47 p0 p1 := by
    unfold own_r1 own_f0_47 own_f0_19 own_f0_30; rw [own_half a0, own_half a1]
  unfold own_r0 own_f0_j65_S0; rw [if_pos ((lw_eq _ _).mpr e)]; rfl

set_option maxRecDepth 65536 in
set_option maxHeartbeats 40000000 in
theorem own_comes {Post : Tables → Env → Array Value → State → Outcome → State → Prop} (hpost : ∀ tb e args s v u, (limb_1_1.after args s (.returned v) u = true ∧ limb_1_2.after args s (.returned v) u = true ∧ True) → FrameEnd s (.returned v) u (Jvm.fieldLocs frame_1_writes args s ++ Jvm.arrayLocs frame_1_arrays args s ++ Jvm.staticLocs frame_1_statics s) 0 0 → Post tb e args s (.returned v) u) :
    ArmFor flags0 classFile x code maxLocals ret World_1 tables_1 room_1 Calls_1 rest_1 Pre_1 Post := by
  intro l hfl _ _ p e ha hc hk s m args below hf hA hF happ hP
  obtain ⟨hcalls, hrest, hpre⟩ := hP
  obtain ⟨-, -, -, hnamed, -, -, -, hat⟩ := (Spec.applies_iff hf).mp happ
  obtain ⟨hg, hn⟩ := and_e (Cond.before_iff.mp (show (Jvm.Cond.and given_1 narrow_1).before args s = true from hpre))
  obtain ⟨gc, g0⟩ := and_e hg
  obtain ⟨v0, g1⟩ := and_e g0
  obtain ⟨w0, w1, rfl⟩ : ∃ w0 w1 : Value, args = #[w0, w1] := by
    have hs : args.size = 2 := by simpa [Cond.value, given_1] using gc
    obtain ⟨L⟩ := args
    match L, hs with
    | [w0, w1], _ => exact ⟨w0, w1, rfl⟩
  have hw := fun d (hd : d ∈ tables_1) => atoms_spec (ws := Jvm.Cond.code x code maxLocals ret :: tables_1) hat d (List.mem_cons_of_mem _ hd)
  obtain ⟨i0, ei0⟩ := is_v v0
  obtain rfl : w0 = (.int i0) := Option.some.inj ei0
  obtain ⟨i1, ei1⟩ := is_v g1
  obtain rfl : w1 = (.int i1) := Option.some.inj ei1
  obtain ⟨n, o, h1, h2, h3, _, L, rfl, ⟨rfl, N, -⟩, hq⟩ := rm0 l s _ hw tables_1 i0 i1  s.heap s.heap.size (Nat.le_refl _)  p e ha hc hk s m _ below hf ((Spec.applies_iff_loose hf).mp happ).1 ⟨rfl, State.Warmed39.refl s, rfl⟩ trivial
  have hv : own_r0 i0 i1 = 1 := own_plain i0 i1
  refine ⟨n, _, h1, h2, h3, hpost _ _ _ _ _ _ ⟨Cond.after_iff.mpr rfl, Cond.after_iff.mpr (eq_i res_at (Term.int_eval (1)) (congrArg Value.int hv)), trivial⟩ ⟨hq.1, hq.2.1, (hq.2.2.sift fun y hy => Or.inr (N y hy)).mono (by decide) (by decide)⟩⟩
theorem main_1_1 : Claimed_1_1 := own_comes fun _ _ _ _ _ _ h hF => ⟨h.1, hF⟩
theorem main_1_2 : Claimed_1_2 := own_comes fun _ _ _ _ _ _ h hF => ⟨h.2.1, hF⟩
end Jvm.Pilot.@@N@@
namespace Jvm.Pilot.@@N@@
open Jvm Jvm.ClassFile Sem Op Lib Jvm.Free Jvm.Stand Jvm.Pilot.@@N@@.Jvm.D
/-! MADE BY PROGRAM (witnessworld.py) out of the Statement's table words and the real class files: 7 classes; the members and pool entries that the words name. The judged class is class 1, her method 1. -/
namespace start1
open Jvm.ClassFile
def u (s : String) : CpInfo := .utf8 (stringToUtf16 s)
/-- a pool by its gaps: so many unusable entries, then the entry; so many at the end -/
def gap : Nat → List CpInfo → List CpInfo
  | 0, r => r
  | n + 1, r => .unusable :: gap n r
def poolList (es : List (Nat × CpInfo)) (last : Nat) : List CpInfo := es.foldr (fun e r => gap e.1 (e.2 :: r)) (gap last [])
def pool (es : List (Nat × CpInfo)) (last : Nat) : Array CpInfo := ⟨poolList es last⟩
def fileOf (pool : Array CpInfo) (this : Nat) (attrs : Array Attribute := #[]) (ms : Array MethodInfo := #[]) (fl : Nat := 33) (sup : Nat := 0) (ifs : Array Nat := #[]) (fds : Array FieldInfo := #[]) : ClassFile where
  minorVersion := 0
  majorVersion := 65
  constantPool := pool
  accessFlags := fl
  thisClass := this
  superClass := sup
  interfaces := ifs
  fields := fds
  methods := ms
  attributes := attrs
def plain (name : String) (sup : Option ClassId) : Class where
  name := name
  kind := .ordinary
  loader := none
  accessFlags := 33
  super := sup
  interfaces := #[]
  cf := none
  fields := #[]
  methods := #[]
  instanceTypes := #[]
  staticTypes := #[]
  resolved := #[]
  callSites := []
  init := .initialized
  statics := none
  mirror := none

def pool0 : Array CpInfo := pool [(5, u "<init>"), (0, u "()V"), (1, .class_ 10), (1, u "java/lang/Object")] 113

def k0m0 : Method := { name := "<init>", desc := "()V", sig := { parameters := [], returnType := none }, accessFlags := 1, code := none }
/-- java/lang/Object -/
def k0 : Class := { plain "java/lang/Object" none with
  accessFlags := 33
  interfaces := #[]
  cf := some (fileOf pool0 8 #[] #[{ accessFlags := 1, nameIndex := 5, descriptorIndex := 6, attributes := #[] }] 33 0 #[] #[])
  fields := #[]
  methods := #[k0m0]
  instanceTypes := #[]
  staticTypes := #[]
  resolved := Array.replicate 124 none
  statics := none }

def pool1 : Array CpInfo := pool [(2, .class_ 4), (1, u "java/lang/Object"), (0, u "<init>"), (0, u "()V"), (0, .integer 2147483647), (0, .long 2), (1, .methodref 11 12), (0, .class_ 13), (0, .nameAndType 14 15), (0, u "com/example/kuva/kuva/image/YuvImage"), (0, u "byteCount"), (0, u "(II)J"), (0, .class_ 17), (0, u "com/example/kuva/kuva/image/YuvImageByteCountPinLaw"), (2, u "law"), (0, u "(II)Z")] 3

def k1m0 : Method := { name := "<init>", desc := "()V", sig := { parameters := [], returnType := none }, accessFlags := 1, code := none }
def k1c1 : Code := { maxStack := 6, maxLocals := 10, code := code, exceptionTable := #[], attributes := #[] }
def k1m1 : Method := { name := "law", desc := "(II)Z", sig := { parameters := [.int, .int], returnType := some .boolean }, accessFlags := 9, code := some k1c1 }
/-- com/example/kuva/kuva/image/YuvImageByteCountPinLaw -/
def k1 : Class := { plain "com/example/kuva/kuva/image/YuvImageByteCountPinLaw" (some 0) with
  accessFlags := 49
  interfaces := #[]
  cf := some (fileOf pool1 16 #[] #[{ accessFlags := 1, nameIndex := 5, descriptorIndex := 6, attributes := #[] }, { accessFlags := 9, nameIndex := 20, descriptorIndex := 21, attributes := #[] }] 49 2 #[] #[])
  fields := #[]
  methods := #[k1m0, k1m1]
  instanceTypes := #[]
  staticTypes := #[]
  resolved := Array.replicate 25 none
  statics := none }

def pool2 : Array CpInfo := pool [(4, .class_ 6), (1, u "java/lang/Object"), (3, .class_ 12), (1, u "com/example/kuva/kuva/image/YuvImage"), (0, u "width"), (0, u "I"), (2, u "height"), (2, u "data"), (0, u "Ljava/nio/ByteBuffer;"), (31, u "byteCount"), (0, u "(II)J"), (5, .long 2), (1, .methodref 10 63), (0, .nameAndType 64 65), (0, u "half"), (0, u "(I)I"), (74, u "MAX_BYTES")] 36

def k2c0 : Code := { maxStack := 6, maxLocals := 2, code := prog_14_method_5_code, exceptionTable := #[], attributes := #[] }
def k2m0 : Method := { name := "byteCount", desc := "(II)J", sig := { parameters := [.int, .int], returnType := some .long }, accessFlags := 9, code := some k2c0 }
def k2c1 : Code := { maxStack := 3, maxLocals := 1, code := prog_14_method_6_code, exceptionTable := #[], attributes := #[] }
def k2m1 : Method := { name := "half", desc := "(I)I", sig := { parameters := [.int], returnType := some .int }, accessFlags := 10, code := some k2c1 }
/-- com/example/kuva/kuva/image/YuvImage -/
def k2 : Class := { plain "com/example/kuva/kuva/image/YuvImage" (some 0) with
  accessFlags := 49
  interfaces := #[]
  cf := some (fileOf pool2 10 #[] #[{ accessFlags := 9, nameIndex := 53, descriptorIndex := 54, attributes := #[] }, { accessFlags := 10, nameIndex := 64, descriptorIndex := 65, attributes := #[] }] 49 4 #[] #[{ accessFlags := 25, nameIndex := 140, descriptorIndex := 14, attributes := #[] }, { accessFlags := 18, nameIndex := 13, descriptorIndex := 14, attributes := #[] }, { accessFlags := 18, nameIndex := 17, descriptorIndex := 14, attributes := #[] }, { accessFlags := 18, nameIndex := 20, descriptorIndex := 21, attributes := #[] }])
  fields := #[{ name := "MAX_BYTES", type := .int, accessFlags := 25, slot := 0, constantValue := 0 }, { name := "width", type := .int, accessFlags := 18, slot := 0, constantValue := 0 }, { name := "height", type := .int, accessFlags := 18, slot := 1, constantValue := 0 }, { name := "data", type := (.object "java/nio/ByteBuffer"), accessFlags := 18, slot := 2, constantValue := 0 }]
  methods := #[k2m0, k2m1]
  instanceTypes := #[.int, .int, (.object "java/nio/ByteBuffer")]
  staticTypes := #[.int]
  resolved := Array.replicate 177 none
  statics := none }

def pool3 : Array CpInfo := pool [(1, u "java/lang/Cloneable"), (0, .class_ 1), (0, u "java/lang/Object"), (0, .class_ 3)] 3

/-- java/lang/Cloneable -/
def k3 : Class := { plain "java/lang/Cloneable" (some 0) with
  accessFlags := 1537
  interfaces := #[]
  cf := some (fileOf pool3 2 #[] #[] 1537 4 #[] #[])
  fields := #[]
  methods := #[]
  instanceTypes := #[]
  staticTypes := #[]
  resolved := Array.replicate 8 none
  statics := none }

def pool4 : Array CpInfo := pool [(1, u "java/io/Serializable"), (0, .class_ 1), (0, u "java/lang/Object"), (0, .class_ 3)] 3

/-- java/io/Serializable -/
def k4 : Class := { plain "java/io/Serializable" (some 0) with
  accessFlags := 1537
  interfaces := #[]
  cf := some (fileOf pool4 2 #[] #[] 1537 4 #[] #[])
  fields := #[]
  methods := #[]
  instanceTypes := #[]
  staticTypes := #[]
  resolved := Array.replicate 8 none
  statics := none }

/-- the primitive byte -/
def k5 : Class := { plain "byte" none with kind := .primitive 'B', accessFlags := 0x411 }
/-- [B -/
def k6 : Class := { plain "[B" (some 0) with kind := .array 5 .byte, interfaces := #[3, 4], accessFlags := 1041 }

def heap : Heap := #[]
def classes : Array Class := #[k0, k1, k2, k3, k4, k5, k6]
def interned : List (Array UInt16 × Addr) := []
def slotsUsed : Nat := 0
def theMethod : MethodId := ⟨1, 1⟩
def args0 : Array Value := #[.int 5, .int 7]
def aboutOver (below : List Frame) : State where
  vm := { classes := classes, interned := interned.toArray }
  heap := heap
  slotsUsed := slotsUsed
  threads := #[{ frames := .invoking theMethod args0 :: below }]
def below0 : List Frame := [.native { method := ⟨0, 0⟩, args := #[] }]
def about1 : State := aboutOver below0
def p0 : Program := .bare "" "" ""
def e0 : Env := launch0.env 0 0 0
theorem w_frames : about1.frames = Frame.invoking theMethod args0 :: below0 := rfl
set_option maxRecDepth 65536 in
theorem w_args : argsFit about1.vm theMethod args0 = true := by decide +kernel
set_option maxRecDepth 65536 in
theorem w_heap : heapFits about1 = true := by decide +kernel
set_option maxRecDepth 65536 in
theorem w_runnable : about1.curStatus? = some .runnable := by decide +kernel
set_option maxRecDepth 65536 in
theorem w_alone : about1.alone = true := by decide +kernel
set_option maxRecDepth 65536 in
theorem w_named : about1.methodNamed? x = some theMethod := by decide +kernel
set_option maxRecDepth 65536 in
theorem w_hears : about1.hears theMethod below0 = true := by decide +kernel
set_option maxRecDepth 65536 in
theorem w_ripe : about1.ripe theMethod args0 below0 = true := by decide +kernel
theorem w_running : about1.status = .running := rfl
set_option maxRecDepth 65536 in
theorem w_room : about1.hasRoom e0.platform room_1 = true :=
  launch0.hasRoom_least _ room_1 (by decide +kernel) (by decide +kernel) (by decide +kernel) (by decide +kernel) (by decide +kernel) (by decide +kernel)
theorem allAtoms_all (ts : List Jvm.Cond) (a : Array Jvm.Value) (st : Jvm.State) : (allAtoms ts).before a st = ts.all (fun c => c.before a st) := by
  induction ts with
  | nil => rfl
  | cons c t ih =>
    show (Jvm.Cond.and c (allAtoms t)).before a st = _
    rw [Jvm.Cond.before_and, ih, List.all_cons]
def words1 : List Jvm.Cond := Jvm.Cond.code x code maxLocals ret :: tables_1
/-- a 'code' word, met by the world's own term for the bytes: nothing is compared byte by byte -/
theorem code_word {y : MethodName} {bytes : ByteArray} {mx : Nat} {rt : Option FieldType} {a : Array Value} {s : State} {m : MethodId} {meth : Method} {c : Code} (h1 : s.methodNamed? y = some m) (h2 : s.vm.method? m = some meth) (h3 : meth.code = some c) (h4 : c.code = bytes)
    (h5 : (c.maxLocals == mx && c.exceptionTable.isEmpty && decide (c.maxStack ≤ mostOperands) && decide (meth.sig.returnType = rt) && !meth.locks && decide (parseMethodDescriptor y.desc = some meth.sig)) = true) : (Jvm.Cond.code y bytes mx rt).before a s = true := by
  simp only [Bool.and_eq_true, beq_iff_eq, Bool.not_eq_true', decide_eq_true_eq] at h5
  obtain ⟨⟨⟨⟨⟨g1, g2⟩, g3⟩, g4⟩, g5⟩, g6⟩ := h5
  simp [Cond.before, Cond.holds, Cond.value, h1, h2, h3, h4, g1, g2, g3, g4, g5, g6]
def isCode : Jvm.Cond → Bool
  | .code _ _ _ _ => true
  | _ => false
theorem all_split {L : List Jvm.Cond} {P : Jvm.Cond → Bool} (h1 : L.all (fun c => isCode c || P c) = true) (h2 : ∀ c ∈ L.filter isCode, P c = true) : L.all P = true := by
  refine List.all_eq_true.mpr fun c hc => ?_
  have h := List.all_eq_true.mp h1 c hc
  rcases Bool.eq_false_or_eq_true (isCode c) with hi | hi
  · exact h2 c (List.mem_filter.mpr ⟨hc, hi⟩)
  · simpa [hi] using h
set_option maxRecDepth 65536 in
theorem w_c0 : (Jvm.Cond.code x code maxLocals ret).before args0 about1 = true := code_word (m := ⟨1, 1⟩) (meth := k1m1) (c := k1c1) (by decide +kernel) rfl rfl rfl (by decide +kernel)
set_option maxRecDepth 65536 in
theorem w_c1 : (Jvm.Cond.code ({ cls := "com/example/kuva/kuva/image/YuvImage", name := "byteCount", desc := "(II)J" } : Jvm.MethodName) prog_14_method_5_code (2 : Nat) (Option.some Jvm.ClassFile.FieldType.long)).before args0 about1 = true := code_word (m := ⟨2, 0⟩) (meth := k2m0) (c := k2c0) (by decide +kernel) rfl rfl rfl (by decide +kernel)
set_option maxRecDepth 65536 in
theorem w_c2 : (Jvm.Cond.code ({ cls := "com/example/kuva/kuva/image/YuvImage", name := "half", desc := "(I)I" } : Jvm.MethodName) prog_14_method_6_code (1 : Nat) (Option.some Jvm.ClassFile.FieldType.int)).before args0 about1 = true := code_word (m := ⟨2, 1⟩) (meth := k2m1) (c := k2c1) (by decide +kernel) rfl rfl rfl (by decide +kernel)
def codes1 : List Jvm.Cond := [Jvm.Cond.code x code maxLocals ret, Jvm.Cond.code ({ cls := "com/example/kuva/kuva/image/YuvImage", name := "byteCount", desc := "(II)J" } : Jvm.MethodName) prog_14_method_5_code (2 : Nat) (Option.some Jvm.ClassFile.FieldType.long), Jvm.Cond.code ({ cls := "com/example/kuva/kuva/image/YuvImage", name := "half", desc := "(I)I" } : Jvm.MethodName) prog_14_method_6_code (1 : Nat) (Option.some Jvm.ClassFile.FieldType.int)]
set_option maxRecDepth 65536 in
theorem codes_eq : words1.filter isCode = codes1 := rfl
theorem w_codes : ∀ c ∈ words1.filter isCode, c.before args0 about1 = true := by
  rw [codes_eq]
  intro c hc
  simp only [codes1, List.mem_cons, List.not_mem_nil, or_false] at hc
  rcases hc with rfl | rfl | rfl
  · exact w_c0
  · exact w_c1
  · exact w_c2
set_option maxRecDepth 65536 in
theorem w_t1 : words1.all (fun c => isCode c || c.before args0 about1) = true := by decide +kernel
theorem w_tables : (allAtoms (Jvm.Cond.code x code maxLocals ret :: tables_1)).before args0 about1 = true := by
  rw [allAtoms_all]
  show words1.all (fun c => c.before args0 about1) = true
  refine all_split ?_ w_codes
  rw [w_t1]
set_option maxRecDepth 65536 in
theorem w_case : (Jvm.Cond.and given_1 narrow_1).before args0 about1 = true := by decide +kernel
theorem w_applies : (headSpec (Jvm.Cond.code x code maxLocals ret :: tables_1) room_1).applies x e0.platform about1 = true :=
  (Spec.applies_iff w_frames).mpr ⟨w_running, w_runnable, w_alone, w_named, w_hears, w_ripe, w_room, w_tables⟩
theorem atStart : AtStart classFile x code maxLocals ret World_1 tables_1 room_1 Calls_1 rest_1 Pre_1 launch0 p0 e0 about1 theMethod args0 below0 :=
  ⟨lists_1, trivial, launch0.admits_env _ _ _, launch0.least_env, fairChoices_fair.cas, fairChoices_fair.clock, w_frames, w_args, w_heap, w_applies, trivial, trivial, w_case⟩
end start1
theorem witness_1 : WitnessClaimed_1 := ⟨start1.p0, start1.e0, start1.about1, start1.theMethod, start1.args0, start1.below0, start1.atStart⟩
end Jvm.Pilot.@@N@@
