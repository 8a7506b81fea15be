import JvmDerived
import JvmDerived.Pilot.@@N@@Statement
import JvmDerived.Pilot.@@N@@Code
set_option linter.unusedVariables false
set_option linter.unusedSimpArgs false
namespace Jvm.RoadKit
open Sem ClassFile Op Lib Jvm.Stand Jvm.Free Jvm.LawKit
section Own
variable {p : Program} {l : Launch} {e : Env} {R : Room} {s : State} {m : MethodId} {args : Array Value} {below : List Frame} {meth : Method} {c : Code} {T T' : State} {Z : State} {a0 : Array Value} {h h' h0 : Heap} {ws : List Addr} {ck sk CK SK : Nat} {Q : Option Value → Heap → Prop} {bytes : ByteArray} {ml : Nat} {ret : Option FieldType} {y0 : MethodName} {tw : List Jvm.Cond} {pc pc' : Nat} {Ls Ls' : Array Slot} {S : List Value} {g g' : JFrame}
/-- Java's >>> -/
def own_ushr (x y : Int32) : Int32 := (x.toUInt32 >>> (y &&& 31).toUInt32).toInt32
def own_ushrL (x : Int64) (y : Int32) : Int64 := (x.toUInt64 >>> (y &&& 63).toInt64.toUInt64).toInt64
/-- what is known of the method that is walked -/
def OwnCtx (p : Program) (s : State) (m : MethodId) (meth : Method) (c : Code) (Z : State) (a0 : Array Value) (tw : List Jvm.Cond) (y0 : MethodName) (bytes : ByteArray) (ml : Nat) (ret : Option FieldType) : Prop :=
  p.tables.exec = Jvm.exec ∧ Z.Warmed39 s.vm ∧ (∀ d ∈ tw, d.before a0 Z = true) ∧ c.code = bytes ∧ c.maxLocals = ml ∧ s.vm.findClass y0.cls = some m.cls ∧ meth.name = y0.name ∧ meth.sig.returnType = ret ∧ meth.locks = false
/-- where the walk stands: the heap h; of the heap h0 at the entry only the cells at ws may have been written -/
def OwnPos (p : Program) (l : Launch) (e : Env) (R : Room) (s : State) (m : MethodId) (args : Array Value) (below : List Frame) (meth : Method) (c : Code) (h0 : Heap) (ws : List Addr) (T : State) (h : Heap) (ck sk : Nat) : Prop :=
  ∃ locs, Stand p l e R s m args below meth c T locs ck sk ∧ T.heap = h ∧ (∀ y ∈ locs, y.base ∈ ws ∨ h0.size ≤ y.base) ∧ Keep h0 h ws
/-- from here the method returns as Q says -/
def OwnWP (p : Program) (e : Env) (below : List Frame) (s : State) (h0 : Heap) (ws : List Addr) (Q : Option Value → Heap → Prop) (CK SK : Nat) (T : State) (g : JFrame) : Prop :=
  ∃ s₂ o, Steps p.tables e below (T.setTop g) s₂ ∧ s₂.status = .running ∧ Ended s₂ below o ∧ ∃ v L, o = .returned v ∧ ((∀ y ∈ L, y.base ∈ ws ∨ h0.size ≤ y.base) ∧ Keep h0 s₂.heap ws ∧ Q v s₂.heap) ∧ FrameEnd s o s₂ L CK SK
/-- a method's contract -/
def OwnCtr (l : Launch) (Z : State) (y : MethodName) (bytes : ByteArray) (ml : Nat) (ret : Option FieldType) (rm : Room) (as : Array Value) (h0 : Heap) (ws : List Addr) (Q : Option Value → Heap → Prop) (cs : List Jvm.Cond) : Prop :=
  MetFree l y (head1 (Jvm.Cond.code y bytes ml ret :: cs) rm) (fun a U => a = as ∧ Z.Warmed39 U.vm ∧ U.heap = h0) (fun _ _ _ _ _ => True) (fun _ U o U' => ∃ v L, o = .returned v ∧ ((∀ y ∈ L, y.base ∈ ws ∨ h0.size ≤ y.base) ∧ Keep h0 U'.heap ws ∧ Q v U'.heap) ∧ FrameEnd U o U' L rm.cells rm.slots)
theorem ow_le (A : OwnPos p l e R s m args below meth c h0 ws T h ck sk) : h0.size ≤ h.size := by obtain ⟨_, _, _, _, K⟩ := A; exact K.1
theorem ow_st (q : ∀ target, Steps p.tables e below (T'.setTop g') target → Steps p.tables e below (T.setTop g) target) (k : OwnWP p e below s h0 ws Q CK SK T' g') : OwnWP p e below s h0 ws Q CK SK T g := by
  obtain ⟨s₂, o, k1, k2⟩ := k; exact ⟨s₂, o, q _ k1, k2⟩
theorem ow_stT (q : Steps p.tables e below (T.setTop g) (T'.setTop g')) (k : OwnWP p e below s h0 ws Q CK SK T' g') : OwnWP p e below s h0 ws Q CK SK T g := by
  obtain ⟨s₂, o, k1, k2⟩ := k; exact ⟨s₂, o, q.trans k1, k2⟩
theorem ow_mono {Q' : Option Value → Heap → Prop} (q : ∀ v h, Q' v h → Q v h) (k : OwnWP p e below s h0 ws Q' CK SK T g) : OwnWP p e below s h0 ws Q CK SK T g := by
  obtain ⟨s₂, o, k1, k2, k3, v, L, k4, ⟨k5, k6, k7⟩, k8⟩ := k; exact ⟨s₂, o, k1, k2, k3, v, L, k4, ⟨k5, k6, q _ _ k7⟩, k8⟩
theorem ow_ctr {rm : Room} {as : Array Value} {cs : List Jvm.Cond} {Ls : Array Slot} (hp : plainFor y0 = true) (hw : ∀ d ∈ tw, d.before a0 Z = true) (ef : ∀ m, entryFrame m as ml = mkF m 0 Ls [])
    (body : ∀ (p : Program) (e : Env) (s : State) (m : MethodId) (below : List Frame) (meth : Method) (c : Code) (T : State), OwnCtx p s m meth c Z a0 tw y0 bytes ml ret → OwnPos p l e rm s m as below meth c h0 ws T h0 0 0 → OwnWP p e below s h0 ws Q rm.cells rm.slots T (mkF m 0 Ls [])) :
    OwnCtr l Z y0 bytes ml ret rm as h0 ws Q cs := by
  refine MetFree.of_bodySF hp hisR ?_
  intro p e s m args below meth c s₁ Bd hml0 hP hK
  obtain ⟨rfl, hZ, hh⟩ := hP
  have X0 : Stand p l e rm s m _ below meth c s₁ [] 0 0 := Stand.of_body Bd
  have e0 : s₁.heap = h0 := by rw [← hh, Bd.state]; rfl
  have hk : meth.locks = false := BodyLoose.notSynchronized Bd
  obtain ⟨s₂, o, k1, k2⟩ := body p e s m below meth c s₁ ⟨Bd.exec, hZ, hw, Bd.bytes, hml0, findClass_of_methodNamed Bd.named, (name_of_methodNamed Bd.named Bd.method).1, Bd.returns, hk⟩ ⟨[], X0, e0, (fun _ q => nomatch q), Keep.refl _ _⟩
  exact ⟨s₂, o, castTop (ef m) k1, k2⟩
theorem ow_ctr_mono {rm : Room} {as : Array Value} {cs : List Jvm.Cond} {y : MethodName} {Q' : Option Value → Heap → Prop} (M : OwnCtr l Z y bytes ml ret rm as h0 ws Q cs) (q : ∀ v h, Q v h → Q' v h) : OwnCtr l Z y bytes ml ret rm as h0 ws Q' cs := by
  intro p e ha hc hk s m args below hf happ hP hK
  obtain ⟨n, o, h1, h2, h3, v, L, h4, ⟨h5, h6, h7⟩, h8⟩ := M p e ha hc hk s m args below hf happ hP hK
  exact ⟨n, o, h1, h2, h3, v, L, h4, ⟨h5, h6, q _ _ h7⟩, h8⟩
theorem ow_done {v : Option Value} (C : OwnCtx p s m meth c Z a0 tw y0 bytes ml ret) (A : OwnPos p l e R s m args below meth c h0 ws T h ck sk) (hv : ret = none → v = none) (h1 : ck ≤ CK) (h2 : sk ≤ SK) (hq : Q v h)
    (hst : ∀ {locs : List Loc} {fs : List Frame}, Stand p l e R s m args below meth c T locs ck sk → (∀ (f : JFrame) (acts : List Action), f.method = m → f.locked = none → f.entered = [] → (doReturn e (T.setTop f) acts v).1 = T.setFrames fs) → Steps p.tables e below (T.setTop g) (T.setFrames fs)) :
    OwnWP p e below s h0 ws Q CK SK T g := by
  obtain ⟨locs, X, rfl, N, K⟩ := A
  obtain ⟨fs, hr, hrun, hended, hW, hsame⟩ := X.leave (v := v) (fun q => hv (C.2.2.2.2.2.2.2.1.symm.trans q)) C.2.2.2.2.2.2.2.2
  exact ⟨_, _, hst X hr, hrun, hended, _, _, rfl, ⟨N, K, hq⟩, ⟨_, rfl⟩, hW, hsame.mono h1 h2⟩
theorem ow_ireturn (C : OwnCtx p s m meth c Z a0 tw y0 bytes ml ret) (A : OwnPos p l e R s m args below meth c h0 ws T h ck sk) {t : FieldType} {w : Int32} (hret : ret = some t) (hn : narrow t (.int w) = .int w) (hti : t = .int ∨ t = .boolean ∨ t = .byte ∨ t = .char ∨ t = .short)
    (hd : decode bytes pc = .ok (.ireturn, 1)) (h1 : ck ≤ CK) (h2 : sk ≤ SK) (hq : Q (some (.int w)) h) : OwnWP p e below s h0 ws Q CK SK T (mkF m pc Ls [.int w]) :=
  ow_done C A (fun q => by rw [hret] at q; cases q) h1 h2 hq fun X hr => X.ireturnOut C.1 (C.2.2.2.2.2.2.2.1.trans hret) hn hti (hb C.2.2.2.1 hd) hr
theorem ow_lreturn (C : OwnCtx p s m meth c Z a0 tw y0 bytes ml ret) (A : OwnPos p l e R s m args below meth c h0 ws T h ck sk) {w : Int64} (hret : ret = some .long)
    (hd : decode bytes pc = .ok (.lreturn, 1)) (h1 : ck ≤ CK) (h2 : sk ≤ SK) (hq : Q (some (.long w)) h) : OwnWP p e below s h0 ws Q CK SK T (mkF m pc Ls [.long w]) :=
  ow_done C A (fun q => by rw [hret] at q; cases q) h1 h2 hq fun X hr => X.lreturnOut C.1 (C.2.2.2.2.2.2.2.1.trans hret) (hb C.2.2.2.1 hd) hr
theorem ow_areturn (C : OwnCtx p s m meth c Z a0 tw y0 bytes ml ret) (A : OwnPos p l e R s m args below meth c h0 ws T h ck sk) {t : FieldType} {w : Value} (hret : ret = some t) (ht : t.isReference = true) (hw : w.isRef = true)
    (hd : decode bytes pc = .ok (.areturn, 1)) (h1 : ck ≤ CK) (h2 : sk ≤ SK) (hq : Q (some w) h) : OwnWP p e below s h0 ws Q CK SK T (mkF m pc Ls [w]) :=
  ow_done C A (fun q => by rw [hret] at q; cases q) h1 h2 hq fun X hr => X.areturnOut C.1 hw (C.2.2.2.2.2.2.2.1.trans hret) ht (hb C.2.2.2.1 hd) hr
theorem ow_return (C : OwnCtx p s m meth c Z a0 tw y0 bytes ml ret) (A : OwnPos p l e R s m args below meth c h0 ws T h ck sk) (hret : ret = none)
    (hd : decode bytes pc = .ok (.return_, 1)) (h1 : ck ≤ CK) (h2 : sk ≤ SK) (hq : Q none h) : OwnWP p e below s h0 ws Q CK SK T (mkF m pc Ls []) :=
  ow_done C A (fun _ => rfl) h1 h2 hq fun X hr => X.returnOut C.1 (C.2.2.2.2.2.2.2.1.trans hret) (hb C.2.2.2.1 hd) hr
theorem ow_iadd (C : OwnCtx p s m meth c Z a0 tw y0 bytes ml ret) (A : OwnPos p l e R s m args below meth c h0 ws T h ck sk) {x y : Int32} (hd : decode bytes pc = .ok (.iadd, 1)) (hp : pc + 1 = pc') (k : OwnWP p e below s h0 ws Q CK SK T (mkF m pc' Ls (.int (x + y) :: S))) : OwnWP p e below s h0 ws Q CK SK T (mkF m pc Ls (.int y :: .int x :: S)) := by
  obtain ⟨locs, X, -⟩ := A; subst hp
  exact ow_st (fun _ k => XS.iadd X.here C.1 rfl (hb C.2.2.2.1 hd) rfl k) k
theorem ow_isub (C : OwnCtx p s m meth c Z a0 tw y0 bytes ml ret) (A : OwnPos p l e R s m args below meth c h0 ws T h ck sk) {x y : Int32} (hd : decode bytes pc = .ok (.isub, 1)) (hp : pc + 1 = pc') (k : OwnWP p e below s h0 ws Q CK SK T (mkF m pc' Ls (.int (x - y) :: S))) : OwnWP p e below s h0 ws Q CK SK T (mkF m pc Ls (.int y :: .int x :: S)) := by
  obtain ⟨locs, X, -⟩ := A; subst hp
  exact ow_st (fun _ k => XS.isub X.here C.1 rfl (hb C.2.2.2.1 hd) rfl k) k
theorem ow_imul (C : OwnCtx p s m meth c Z a0 tw y0 bytes ml ret) (A : OwnPos p l e R s m args below meth c h0 ws T h ck sk) {x y : Int32} (hd : decode bytes pc = .ok (.imul, 1)) (hp : pc + 1 = pc') (k : OwnWP p e below s h0 ws Q CK SK T (mkF m pc' Ls (.int (x * y) :: S))) : OwnWP p e below s h0 ws Q CK SK T (mkF m pc Ls (.int y :: .int x :: S)) := by
  obtain ⟨locs, X, -⟩ := A; subst hp
  exact ow_st (fun _ k => XS.imul X.here C.1 rfl (hb C.2.2.2.1 hd) rfl k) k
theorem ow_iand (C : OwnCtx p s m meth c Z a0 tw y0 bytes ml ret) (A : OwnPos p l e R s m args below meth c h0 ws T h ck sk) {x y : Int32} (hd : decode bytes pc = .ok (.iand, 1)) (hp : pc + 1 = pc') (k : OwnWP p e below s h0 ws Q CK SK T (mkF m pc' Ls (.int (x &&& y) :: S))) : OwnWP p e below s h0 ws Q CK SK T (mkF m pc Ls (.int y :: .int x :: S)) := by
  obtain ⟨locs, X, -⟩ := A; subst hp
  exact ow_st (fun _ k => XS.iand X.here C.1 rfl (hb C.2.2.2.1 hd) rfl k) k
theorem ow_ior (C : OwnCtx p s m meth c Z a0 tw y0 bytes ml ret) (A : OwnPos p l e R s m args below meth c h0 ws T h ck sk) {x y : Int32} (hd : decode bytes pc = .ok (.ior, 1)) (hp : pc + 1 = pc') (k : OwnWP p e below s h0 ws Q CK SK T (mkF m pc' Ls (.int (x ||| y) :: S))) : OwnWP p e below s h0 ws Q CK SK T (mkF m pc Ls (.int y :: .int x :: S)) := by
  obtain ⟨locs, X, -⟩ := A; subst hp
  exact ow_st (fun _ k => XS.ior X.here C.1 rfl (hb C.2.2.2.1 hd) rfl k) k
theorem ow_ixor (C : OwnCtx p s m meth c Z a0 tw y0 bytes ml ret) (A : OwnPos p l e R s m args below meth c h0 ws T h ck sk) {x y : Int32} (hd : decode bytes pc = .ok (.ixor, 1)) (hp : pc + 1 = pc') (k : OwnWP p e below s h0 ws Q CK SK T (mkF m pc' Ls (.int (x ^^^ y) :: S))) : OwnWP p e below s h0 ws Q CK SK T (mkF m pc Ls (.int y :: .int x :: S)) := by
  obtain ⟨locs, X, -⟩ := A; subst hp
  exact ow_st (fun _ k => XS.ixor X.here C.1 rfl (hb C.2.2.2.1 hd) rfl k) k
theorem ow_ishl (C : OwnCtx p s m meth c Z a0 tw y0 bytes ml ret) (A : OwnPos p l e R s m args below meth c h0 ws T h ck sk) {x y : Int32} (hd : decode bytes pc = .ok (.ishl, 1)) (hp : pc + 1 = pc') (k : OwnWP p e below s h0 ws Q CK SK T (mkF m pc' Ls (.int (x <<< (y &&& 31)) :: S))) : OwnWP p e below s h0 ws Q CK SK T (mkF m pc Ls (.int y :: .int x :: S)) := by
  obtain ⟨locs, X, -⟩ := A; subst hp
  exact ow_st (fun _ k => XS.ishl X.here C.1 rfl (hb C.2.2.2.1 hd) rfl k) k
theorem ow_ishr (C : OwnCtx p s m meth c Z a0 tw y0 bytes ml ret) (A : OwnPos p l e R s m args below meth c h0 ws T h ck sk) {x y : Int32} (hd : decode bytes pc = .ok (.ishr, 1)) (hp : pc + 1 = pc') (k : OwnWP p e below s h0 ws Q CK SK T (mkF m pc' Ls (.int (x >>> (y &&& 31)) :: S))) : OwnWP p e below s h0 ws Q CK SK T (mkF m pc Ls (.int y :: .int x :: S)) := by
  obtain ⟨locs, X, -⟩ := A; subst hp
  exact ow_st (fun _ k => XS.ishr X.here C.1 rfl (hb C.2.2.2.1 hd) rfl k) k
theorem ow_iushr (C : OwnCtx p s m meth c Z a0 tw y0 bytes ml ret) (A : OwnPos p l e R s m args below meth c h0 ws T h ck sk) {x y : Int32} (hd : decode bytes pc = .ok (.iushr, 1)) (hp : pc + 1 = pc') (k : OwnWP p e below s h0 ws Q CK SK T (mkF m pc' Ls (.int (own_ushr x y) :: S))) : OwnWP p e below s h0 ws Q CK SK T (mkF m pc Ls (.int y :: .int x :: S)) := by
  obtain ⟨locs, X, -⟩ := A; subst hp
  exact ow_st (fun _ k => XS.iushr X.here C.1 rfl (hb C.2.2.2.1 hd) rfl k) k
theorem ow_ladd (C : OwnCtx p s m meth c Z a0 tw y0 bytes ml ret) (A : OwnPos p l e R s m args below meth c h0 ws T h ck sk) {x y : Int64} (hd : decode bytes pc = .ok (.ladd, 1)) (hp : pc + 1 = pc') (k : OwnWP p e below s h0 ws Q CK SK T (mkF m pc' Ls (.long (x + y) :: S))) : OwnWP p e below s h0 ws Q CK SK T (mkF m pc Ls (.long y :: .long x :: S)) := by
  obtain ⟨locs, X, -⟩ := A; subst hp
  exact ow_st (fun _ k => XS.ladd X.here C.1 rfl (hb C.2.2.2.1 hd) rfl k) k
theorem ow_lsub (C : OwnCtx p s m meth c Z a0 tw y0 bytes ml ret) (A : OwnPos p l e R s m args below meth c h0 ws T h ck sk) {x y : Int64} (hd : decode bytes pc = .ok (.lsub, 1)) (hp : pc + 1 = pc') (k : OwnWP p e below s h0 ws Q CK SK T (mkF m pc' Ls (.long (x - y) :: S))) : OwnWP p e below s h0 ws Q CK SK T (mkF m pc Ls (.long y :: .long x :: S)) := by
  obtain ⟨locs, X, -⟩ := A; subst hp
  exact ow_st (fun _ k => XS.lsub X.here C.1 rfl (hb C.2.2.2.1 hd) rfl k) k
theorem ow_lmul (C : OwnCtx p s m meth c Z a0 tw y0 bytes ml ret) (A : OwnPos p l e R s m args below meth c h0 ws T h ck sk) {x y : Int64} (hd : decode bytes pc = .ok (.lmul, 1)) (hp : pc + 1 = pc') (k : OwnWP p e below s h0 ws Q CK SK T (mkF m pc' Ls (.long (x * y) :: S))) : OwnWP p e below s h0 ws Q CK SK T (mkF m pc Ls (.long y :: .long x :: S)) := by
  obtain ⟨locs, X, -⟩ := A; subst hp
  exact ow_st (fun _ k => XS.lmul X.here C.1 rfl (hb C.2.2.2.1 hd) rfl k) k
theorem ow_land (C : OwnCtx p s m meth c Z a0 tw y0 bytes ml ret) (A : OwnPos p l e R s m args below meth c h0 ws T h ck sk) {x y : Int64} (hd : decode bytes pc = .ok (.land, 1)) (hp : pc + 1 = pc') (k : OwnWP p e below s h0 ws Q CK SK T (mkF m pc' Ls (.long (x &&& y) :: S))) : OwnWP p e below s h0 ws Q CK SK T (mkF m pc Ls (.long y :: .long x :: S)) := by
  obtain ⟨locs, X, -⟩ := A; subst hp
  exact ow_st (fun _ k => XS.land X.here C.1 rfl (hb C.2.2.2.1 hd) rfl k) k
theorem ow_lor (C : OwnCtx p s m meth c Z a0 tw y0 bytes ml ret) (A : OwnPos p l e R s m args below meth c h0 ws T h ck sk) {x y : Int64} (hd : decode bytes pc = .ok (.lor, 1)) (hp : pc + 1 = pc') (k : OwnWP p e below s h0 ws Q CK SK T (mkF m pc' Ls (.long (x ||| y) :: S))) : OwnWP p e below s h0 ws Q CK SK T (mkF m pc Ls (.long y :: .long x :: S)) := by
  obtain ⟨locs, X, -⟩ := A; subst hp
  exact ow_st (fun _ k => XS.lor X.here C.1 rfl (hb C.2.2.2.1 hd) rfl k) k
theorem ow_lxor (C : OwnCtx p s m meth c Z a0 tw y0 bytes ml ret) (A : OwnPos p l e R s m args below meth c h0 ws T h ck sk) {x y : Int64} (hd : decode bytes pc = .ok (.lxor, 1)) (hp : pc + 1 = pc') (k : OwnWP p e below s h0 ws Q CK SK T (mkF m pc' Ls (.long (x ^^^ y) :: S))) : OwnWP p e below s h0 ws Q CK SK T (mkF m pc Ls (.long y :: .long x :: S)) := by
  obtain ⟨locs, X, -⟩ := A; subst hp
  exact ow_st (fun _ k => XS.lxor X.here C.1 rfl (hb C.2.2.2.1 hd) rfl k) k
theorem ow_lshl (C : OwnCtx p s m meth c Z a0 tw y0 bytes ml ret) (A : OwnPos p l e R s m args below meth c h0 ws T h ck sk) {x : Int64} {y : Int32} (hd : decode bytes pc = .ok (.lshl, 1)) (hp : pc + 1 = pc') (k : OwnWP p e below s h0 ws Q CK SK T (mkF m pc' Ls (.long (x <<< (y &&& 63).toInt64) :: S))) : OwnWP p e below s h0 ws Q CK SK T (mkF m pc Ls (.int y :: .long x :: S)) := by
  obtain ⟨locs, X, -⟩ := A; subst hp
  exact ow_st (fun _ k => XS.lshl X.here C.1 rfl (hb C.2.2.2.1 hd) rfl k) k
theorem ow_lshr (C : OwnCtx p s m meth c Z a0 tw y0 bytes ml ret) (A : OwnPos p l e R s m args below meth c h0 ws T h ck sk) {x : Int64} {y : Int32} (hd : decode bytes pc = .ok (.lshr, 1)) (hp : pc + 1 = pc') (k : OwnWP p e below s h0 ws Q CK SK T (mkF m pc' Ls (.long (x >>> (y &&& 63).toInt64) :: S))) : OwnWP p e below s h0 ws Q CK SK T (mkF m pc Ls (.int y :: .long x :: S)) := by
  obtain ⟨locs, X, -⟩ := A; subst hp
  exact ow_st (fun _ k => XS.lshr X.here C.1 rfl (hb C.2.2.2.1 hd) rfl k) k
theorem ow_lushr (C : OwnCtx p s m meth c Z a0 tw y0 bytes ml ret) (A : OwnPos p l e R s m args below meth c h0 ws T h ck sk) {x : Int64} {y : Int32} (hd : decode bytes pc = .ok (.lushr, 1)) (hp : pc + 1 = pc') (k : OwnWP p e below s h0 ws Q CK SK T (mkF m pc' Ls (.long (own_ushrL x y) :: S))) : OwnWP p e below s h0 ws Q CK SK T (mkF m pc Ls (.int y :: .long x :: S)) := by
  obtain ⟨locs, X, -⟩ := A; subst hp
  exact ow_st (fun _ k => XS.lushr X.here C.1 rfl (hb C.2.2.2.1 hd) rfl k) k
theorem ow_idiv (C : OwnCtx p s m meth c Z a0 tw y0 bytes ml ret) (A : OwnPos p l e R s m args below meth c h0 ws T h ck sk) {x y : Int32} (hd : decode bytes pc = .ok (.idiv, 1)) (hy : y ≠ 0) (hp : pc + 1 = pc') (k : OwnWP p e below s h0 ws Q CK SK T (mkF m pc' Ls (.int (x / y) :: S))) : OwnWP p e below s h0 ws Q CK SK T (mkF m pc Ls (.int y :: .int x :: S)) := by
  obtain ⟨locs, X, -⟩ := A; subst hp
  exact ow_st (fun _ k => XS.idiv X.here C.1 rfl (hb C.2.2.2.1 hd) rfl hy k) k
theorem ow_irem (C : OwnCtx p s m meth c Z a0 tw y0 bytes ml ret) (A : OwnPos p l e R s m args below meth c h0 ws T h ck sk) {x y : Int32} (hd : decode bytes pc = .ok (.irem, 1)) (hy : y ≠ 0) (hp : pc + 1 = pc') (k : OwnWP p e below s h0 ws Q CK SK T (mkF m pc' Ls (.int (x % y) :: S))) : OwnWP p e below s h0 ws Q CK SK T (mkF m pc Ls (.int y :: .int x :: S)) := by
  obtain ⟨locs, X, -⟩ := A; subst hp
  exact ow_st (fun _ k => iremM X C.1 rfl (hb C.2.2.2.1 hd) rfl hy k) k
theorem ow_ldiv (C : OwnCtx p s m meth c Z a0 tw y0 bytes ml ret) (A : OwnPos p l e R s m args below meth c h0 ws T h ck sk) {x y : Int64} (hd : decode bytes pc = .ok (.ldiv, 1)) (hy : y ≠ 0) (hp : pc + 1 = pc') (k : OwnWP p e below s h0 ws Q CK SK T (mkF m pc' Ls (.long (x / y) :: S))) : OwnWP p e below s h0 ws Q CK SK T (mkF m pc Ls (.long y :: .long x :: S)) := by
  obtain ⟨locs, X, -⟩ := A; subst hp
  exact ow_st (fun _ k => XS.ldiv X.here C.1 rfl (hb C.2.2.2.1 hd) rfl hy k) k
theorem ow_lrem (C : OwnCtx p s m meth c Z a0 tw y0 bytes ml ret) (A : OwnPos p l e R s m args below meth c h0 ws T h ck sk) {x y : Int64} (hd : decode bytes pc = .ok (.lrem, 1)) (hy : y ≠ 0) (hp : pc + 1 = pc') (k : OwnWP p e below s h0 ws Q CK SK T (mkF m pc' Ls (.long (x % y) :: S))) : OwnWP p e below s h0 ws Q CK SK T (mkF m pc Ls (.long y :: .long x :: S)) := by
  obtain ⟨locs, X, -⟩ := A; subst hp
  exact ow_st (fun _ k => XS.lrem X.here C.1 rfl (hb C.2.2.2.1 hd) rfl hy (by rw [lrem_mod]; exact k)) k
theorem ow_ineg (C : OwnCtx p s m meth c Z a0 tw y0 bytes ml ret) (A : OwnPos p l e R s m args below meth c h0 ws T h ck sk) {x : Int32} (hd : decode bytes pc = .ok (.ineg, 1)) (hp : pc + 1 = pc') (k : OwnWP p e below s h0 ws Q CK SK T (mkF m pc' Ls (.int (-x) :: S))) : OwnWP p e below s h0 ws Q CK SK T (mkF m pc Ls (.int x :: S)) := by
  obtain ⟨locs, X, -⟩ := A; subst hp
  exact ow_st (fun _ k => XS.ineg X.here C.1 rfl (hb C.2.2.2.1 hd) rfl k) k
theorem ow_lneg (C : OwnCtx p s m meth c Z a0 tw y0 bytes ml ret) (A : OwnPos p l e R s m args below meth c h0 ws T h ck sk) {x : Int64} (hd : decode bytes pc = .ok (.lneg, 1)) (hp : pc + 1 = pc') (k : OwnWP p e below s h0 ws Q CK SK T (mkF m pc' Ls (.long (-x) :: S))) : OwnWP p e below s h0 ws Q CK SK T (mkF m pc Ls (.long x :: S)) := by
  obtain ⟨locs, X, -⟩ := A; subst hp
  exact ow_st (fun _ k => XS.lneg X.here C.1 rfl (hb C.2.2.2.1 hd) rfl k) k
theorem ow_i2l (C : OwnCtx p s m meth c Z a0 tw y0 bytes ml ret) (A : OwnPos p l e R s m args below meth c h0 ws T h ck sk) {x : Int32} (hd : decode bytes pc = .ok (.i2l, 1)) (hp : pc + 1 = pc') (k : OwnWP p e below s h0 ws Q CK SK T (mkF m pc' Ls (.long x.toInt64 :: S))) : OwnWP p e below s h0 ws Q CK SK T (mkF m pc Ls (.int x :: S)) := by
  obtain ⟨locs, X, -⟩ := A; subst hp
  exact ow_st (fun _ k => XS.i2l X.here C.1 rfl (hb C.2.2.2.1 hd) rfl k) k
theorem ow_l2i (C : OwnCtx p s m meth c Z a0 tw y0 bytes ml ret) (A : OwnPos p l e R s m args below meth c h0 ws T h ck sk) {x : Int64} (hd : decode bytes pc = .ok (.l2i, 1)) (hp : pc + 1 = pc') (k : OwnWP p e below s h0 ws Q CK SK T (mkF m pc' Ls (.int x.toInt32 :: S))) : OwnWP p e below s h0 ws Q CK SK T (mkF m pc Ls (.long x :: S)) := by
  obtain ⟨locs, X, -⟩ := A; subst hp
  exact ow_st (fun _ k => XS.l2i X.here C.1 rfl (hb C.2.2.2.1 hd) rfl k) k
theorem ow_i2b (C : OwnCtx p s m meth c Z a0 tw y0 bytes ml ret) (A : OwnPos p l e R s m args below meth c h0 ws T h ck sk) {x : Int32} (hd : decode bytes pc = .ok (.i2b, 1)) (hp : pc + 1 = pc') (k : OwnWP p e below s h0 ws Q CK SK T (mkF m pc' Ls (.int x.toInt8.toInt32 :: S))) : OwnWP p e below s h0 ws Q CK SK T (mkF m pc Ls (.int x :: S)) := by
  obtain ⟨locs, X, -⟩ := A; subst hp
  exact ow_st (fun _ k => XS.i2b X.here C.1 rfl (hb C.2.2.2.1 hd) rfl k) k
theorem ow_i2s (C : OwnCtx p s m meth c Z a0 tw y0 bytes ml ret) (A : OwnPos p l e R s m args below meth c h0 ws T h ck sk) {x : Int32} (hd : decode bytes pc = .ok (.i2s, 1)) (hp : pc + 1 = pc') (k : OwnWP p e below s h0 ws Q CK SK T (mkF m pc' Ls (.int x.toInt16.toInt32 :: S))) : OwnWP p e below s h0 ws Q CK SK T (mkF m pc Ls (.int x :: S)) := by
  obtain ⟨locs, X, -⟩ := A; subst hp
  exact ow_st (fun _ k => XS.i2s X.here C.1 rfl (hb C.2.2.2.1 hd) rfl k) k
theorem ow_i2c (C : OwnCtx p s m meth c Z a0 tw y0 bytes ml ret) (A : OwnPos p l e R s m args below meth c h0 ws T h ck sk) {x : Int32} (hd : decode bytes pc = .ok (.i2c, 1)) (hp : pc + 1 = pc') (k : OwnWP p e below s h0 ws Q CK SK T (mkF m pc' Ls (.int x.toUInt32.toUInt16.toUInt32.toInt32 :: S))) : OwnWP p e below s h0 ws Q CK SK T (mkF m pc Ls (.int x :: S)) := by
  obtain ⟨locs, X, -⟩ := A; subst hp
  exact ow_st (fun _ k => XS.i2c X.here C.1 rfl (hb C.2.2.2.1 hd) rfl k) k
theorem ow_iconst (C : OwnCtx p s m meth c Z a0 tw y0 bytes ml ret) (A : OwnPos p l e R s m args below meth c h0 ws T h ck sk) {i : Int} {v : Int32} (hd : decode bytes pc = .ok (.iconst i, 1)) (hv : Int32.ofInt i = v) (hp : pc + 1 = pc') (k : OwnWP p e below s h0 ws Q CK SK T (mkF m pc' Ls (.int v :: S))) : OwnWP p e below s h0 ws Q CK SK T (mkF m pc Ls (S)) := by
  obtain ⟨locs, X, -⟩ := A; subst hp
  exact ow_st (fun _ k => by subst hv; exact XS.iconst X.here C.1 rfl (hb C.2.2.2.1 hd) k) k
theorem ow_bipush (C : OwnCtx p s m meth c Z a0 tw y0 bytes ml ret) (A : OwnPos p l e R s m args below meth c h0 ws T h ck sk) {i : Int} {v : Int32} (hd : decode bytes pc = .ok (.bipush i, 2)) (hv : (Int8.ofInt i).toInt32 = v) (hp : pc + 2 = pc') (k : OwnWP p e below s h0 ws Q CK SK T (mkF m pc' Ls (.int v :: S))) : OwnWP p e below s h0 ws Q CK SK T (mkF m pc Ls (S)) := by
  obtain ⟨locs, X, -⟩ := A; subst hp
  exact ow_st (fun _ k => by subst hv; exact XS.bipush X.here C.1 rfl (hb C.2.2.2.1 hd) k) k
theorem ow_sipush (C : OwnCtx p s m meth c Z a0 tw y0 bytes ml ret) (A : OwnPos p l e R s m args below meth c h0 ws T h ck sk) {i : Int} {v : Int32} (hd : decode bytes pc = .ok (.sipush i, 3)) (hv : (Int16.ofInt i).toInt32 = v) (hp : pc + 3 = pc') (k : OwnWP p e below s h0 ws Q CK SK T (mkF m pc' Ls (.int v :: S))) : OwnWP p e below s h0 ws Q CK SK T (mkF m pc Ls (S)) := by
  obtain ⟨locs, X, -⟩ := A; subst hp
  exact ow_st (fun _ k => by subst hv; exact XS.sipush X.here C.1 rfl (hb C.2.2.2.1 hd) k) k
theorem ow_lconst (C : OwnCtx p s m meth c Z a0 tw y0 bytes ml ret) (A : OwnPos p l e R s m args below meth c h0 ws T h ck sk) {i : Fin 2} {v : Int64} (hd : decode bytes pc = .ok (.lconst i, 1)) (hv : Int64.ofNat i = v) (hp : pc + 1 = pc') (k : OwnWP p e below s h0 ws Q CK SK T (mkF m pc' Ls (.long v :: S))) : OwnWP p e below s h0 ws Q CK SK T (mkF m pc Ls (S)) := by
  obtain ⟨locs, X, -⟩ := A; subst hp
  exact ow_st (fun _ k => by subst hv; exact XS.lconst X.here C.1 rfl (hb C.2.2.2.1 hd) k) k
theorem ow_aconst_null (C : OwnCtx p s m meth c Z a0 tw y0 bytes ml ret) (A : OwnPos p l e R s m args below meth c h0 ws T h ck sk)  (hd : decode bytes pc = .ok (.aconst_null, 1)) (hp : pc + 1 = pc') (k : OwnWP p e below s h0 ws Q CK SK T (mkF m pc' Ls (.null :: S))) : OwnWP p e below s h0 ws Q CK SK T (mkF m pc Ls (S)) := by
  obtain ⟨locs, X, -⟩ := A; subst hp
  exact ow_st (fun _ k => XS.aconstNull X.here C.1 rfl (hb C.2.2.2.1 hd) k) k
theorem ow_iload (C : OwnCtx p s m meth c Z a0 tw y0 bytes ml ret) (A : OwnPos p l e R s m args below meth c h0 ws T h ck sk) {j : Nat} {v : Int32} (hd : decode bytes pc = .ok (.iload j, 2)) (hl : Ls[j]? = some (.val (.int v))) (hp : pc + 2 = pc') (k : OwnWP p e below s h0 ws Q CK SK T (mkF m pc' Ls (.int v :: S))) : OwnWP p e below s h0 ws Q CK SK T (mkF m pc Ls (S)) := by
  obtain ⟨locs, X, -⟩ := A; subst hp
  exact ow_st (fun _ k => XS.iload X.here C.1 rfl (hb C.2.2.2.1 hd) hl k) k
theorem ow_iloadN (C : OwnCtx p s m meth c Z a0 tw y0 bytes ml ret) (A : OwnPos p l e R s m args below meth c h0 ws T h ck sk) {j : Fin 4} {v : Int32} (hd : decode bytes pc = .ok (.iload_n j, 1)) (hl : Ls[j.val]? = some (.val (.int v))) (hp : pc + 1 = pc') (k : OwnWP p e below s h0 ws Q CK SK T (mkF m pc' Ls (.int v :: S))) : OwnWP p e below s h0 ws Q CK SK T (mkF m pc Ls (S)) := by
  obtain ⟨locs, X, -⟩ := A; subst hp
  exact ow_st (fun _ k => XS.iloadN X.here C.1 rfl (hb C.2.2.2.1 hd) hl k) k
theorem ow_lload (C : OwnCtx p s m meth c Z a0 tw y0 bytes ml ret) (A : OwnPos p l e R s m args below meth c h0 ws T h ck sk) {j : Nat} {v : Int64} (hd : decode bytes pc = .ok (.lload j, 2)) (hl : Ls[j]? = some (.val (.long v))) (hp : pc + 2 = pc') (k : OwnWP p e below s h0 ws Q CK SK T (mkF m pc' Ls (.long v :: S))) : OwnWP p e below s h0 ws Q CK SK T (mkF m pc Ls (S)) := by
  obtain ⟨locs, X, -⟩ := A; subst hp
  exact ow_st (fun _ k => XS.lload X.here C.1 rfl (hb C.2.2.2.1 hd) hl k) k
theorem ow_lloadN (C : OwnCtx p s m meth c Z a0 tw y0 bytes ml ret) (A : OwnPos p l e R s m args below meth c h0 ws T h ck sk) {j : Fin 4} {v : Int64} (hd : decode bytes pc = .ok (.lload_n j, 1)) (hl : Ls[j.val]? = some (.val (.long v))) (hp : pc + 1 = pc') (k : OwnWP p e below s h0 ws Q CK SK T (mkF m pc' Ls (.long v :: S))) : OwnWP p e below s h0 ws Q CK SK T (mkF m pc Ls (S)) := by
  obtain ⟨locs, X, -⟩ := A; subst hp
  exact ow_st (fun _ k => XS.lloadN X.here C.1 rfl (hb C.2.2.2.1 hd) hl k) k
theorem ow_aload (C : OwnCtx p s m meth c Z a0 tw y0 bytes ml ret) (A : OwnPos p l e R s m args below meth c h0 ws T h ck sk) {j : Nat} {v : Value} (hd : decode bytes pc = .ok (.aload j, 2)) (hl : Ls[j]? = some (.val v)) (hv : v.isRef = true) (hp : pc + 2 = pc') (k : OwnWP p e below s h0 ws Q CK SK T (mkF m pc' Ls (v :: S))) : OwnWP p e below s h0 ws Q CK SK T (mkF m pc Ls (S)) := by
  obtain ⟨locs, X, -⟩ := A; subst hp
  exact ow_st (fun _ k => XS.aload X.here C.1 rfl (hb C.2.2.2.1 hd) hl hv k) k
theorem ow_aloadN (C : OwnCtx p s m meth c Z a0 tw y0 bytes ml ret) (A : OwnPos p l e R s m args below meth c h0 ws T h ck sk) {j : Fin 4} {v : Value} (hd : decode bytes pc = .ok (.aload_n j, 1)) (hl : Ls[j.val]? = some (.val v)) (hv : v.isRef = true) (hp : pc + 1 = pc') (k : OwnWP p e below s h0 ws Q CK SK T (mkF m pc' Ls (v :: S))) : OwnWP p e below s h0 ws Q CK SK T (mkF m pc Ls (S)) := by
  obtain ⟨locs, X, -⟩ := A; subst hp
  exact ow_st (fun _ k => XS.aloadN X.here C.1 rfl (hb C.2.2.2.1 hd) hl hv k) k
theorem ow_istore (C : OwnCtx p s m meth c Z a0 tw y0 bytes ml ret) (A : OwnPos p l e R s m args below meth c h0 ws T h ck sk) {j : Nat} {v : Int32} (hd : decode bytes pc = .ok (.istore j, 2)) (hl : storeLocals Ls j (.int v) = some Ls') (hp : pc + 2 = pc') (k : OwnWP p e below s h0 ws Q CK SK T (mkF m pc' Ls' (S))) : OwnWP p e below s h0 ws Q CK SK T (mkF m pc Ls (.int v :: S)) := by
  obtain ⟨locs, X, -⟩ := A; subst hp
  exact ow_st (fun _ k => XS.istore X.here C.1 rfl (hb C.2.2.2.1 hd) rfl hl k) k
theorem ow_istoreN (C : OwnCtx p s m meth c Z a0 tw y0 bytes ml ret) (A : OwnPos p l e R s m args below meth c h0 ws T h ck sk) {j : Fin 4} {v : Int32} (hd : decode bytes pc = .ok (.istore_n j, 1)) (hl : storeLocals Ls j.val (.int v) = some Ls') (hp : pc + 1 = pc') (k : OwnWP p e below s h0 ws Q CK SK T (mkF m pc' Ls' (S))) : OwnWP p e below s h0 ws Q CK SK T (mkF m pc Ls (.int v :: S)) := by
  obtain ⟨locs, X, -⟩ := A; subst hp
  exact ow_st (fun _ k => XS.istoreN X.here C.1 rfl (hb C.2.2.2.1 hd) rfl hl k) k
theorem ow_lstore (C : OwnCtx p s m meth c Z a0 tw y0 bytes ml ret) (A : OwnPos p l e R s m args below meth c h0 ws T h ck sk) {j : Nat} {v : Int64} (hd : decode bytes pc = .ok (.lstore j, 2)) (hl : storeLocals Ls j (.long v) = some Ls') (hp : pc + 2 = pc') (k : OwnWP p e below s h0 ws Q CK SK T (mkF m pc' Ls' (S))) : OwnWP p e below s h0 ws Q CK SK T (mkF m pc Ls (.long v :: S)) := by
  obtain ⟨locs, X, -⟩ := A; subst hp
  exact ow_st (fun _ k => XS.lstore X.here C.1 rfl (hb C.2.2.2.1 hd) rfl hl k) k
theorem ow_lstoreN (C : OwnCtx p s m meth c Z a0 tw y0 bytes ml ret) (A : OwnPos p l e R s m args below meth c h0 ws T h ck sk) {j : Fin 4} {v : Int64} (hd : decode bytes pc = .ok (.lstore_n j, 1)) (hl : storeLocals Ls j.val (.long v) = some Ls') (hp : pc + 1 = pc') (k : OwnWP p e below s h0 ws Q CK SK T (mkF m pc' Ls' (S))) : OwnWP p e below s h0 ws Q CK SK T (mkF m pc Ls (.long v :: S)) := by
  obtain ⟨locs, X, -⟩ := A; subst hp
  exact ow_st (fun _ k => XS.lstoreN X.here C.1 rfl (hb C.2.2.2.1 hd) rfl hl k) k
theorem ow_astore (C : OwnCtx p s m meth c Z a0 tw y0 bytes ml ret) (A : OwnPos p l e R s m args below meth c h0 ws T h ck sk) {j : Nat} {v : Value} (hd : decode bytes pc = .ok (.astore j, 2)) (hv : v.isRef = true) (hl : storeLocals Ls j v = some Ls') (hp : pc + 2 = pc') (k : OwnWP p e below s h0 ws Q CK SK T (mkF m pc' Ls' (S))) : OwnWP p e below s h0 ws Q CK SK T (mkF m pc Ls (v :: S)) := by
  obtain ⟨locs, X, -⟩ := A; subst hp
  exact ow_st (fun _ k => XS.astore X.here C.1 rfl (hb C.2.2.2.1 hd) rfl hv hl k) k
theorem ow_astoreN (C : OwnCtx p s m meth c Z a0 tw y0 bytes ml ret) (A : OwnPos p l e R s m args below meth c h0 ws T h ck sk) {j : Fin 4} {v : Value} (hd : decode bytes pc = .ok (.astore_n j, 1)) (hv : v.isRef = true) (hl : storeLocals Ls j.val v = some Ls') (hp : pc + 1 = pc') (k : OwnWP p e below s h0 ws Q CK SK T (mkF m pc' Ls' (S))) : OwnWP p e below s h0 ws Q CK SK T (mkF m pc Ls (v :: S)) := by
  obtain ⟨locs, X, -⟩ := A; subst hp
  exact ow_st (fun _ k => XS.astoreN X.here C.1 rfl (hb C.2.2.2.1 hd) rfl hv hl k) k
theorem ow_iinc (C : OwnCtx p s m meth c Z a0 tw y0 bytes ml ret) (A : OwnPos p l e R s m args below meth c h0 ws T h ck sk) {j : Nat} {cst : Int} {v : Int32} (hd : decode bytes pc = .ok (.iinc j cst, 3)) (hl : Ls[j]? = some (.val (.int v))) (hl' : storeLocals Ls j (.int (v + Int32.ofInt cst)) = some Ls') (hp : pc + 3 = pc') (k : OwnWP p e below s h0 ws Q CK SK T (mkF m pc' Ls' (S))) : OwnWP p e below s h0 ws Q CK SK T (mkF m pc Ls (S)) := by
  obtain ⟨locs, X, -⟩ := A; subst hp
  exact ow_st (fun _ k => XS.iinc X.here C.1 rfl (hb C.2.2.2.1 hd) hl hl' k) k
theorem ow_dup (C : OwnCtx p s m meth c Z a0 tw y0 bytes ml ret) (A : OwnPos p l e R s m args below meth c h0 ws T h ck sk) {v : Value} (hd : decode bytes pc = .ok (.dup, 1)) (hc : v.category = 1) (hp : pc + 1 = pc') (k : OwnWP p e below s h0 ws Q CK SK T (mkF m pc' Ls (v :: v :: S))) : OwnWP p e below s h0 ws Q CK SK T (mkF m pc Ls (v :: S)) := by
  obtain ⟨locs, X, -⟩ := A; subst hp
  exact ow_st (fun _ k => XS.dup X.here C.1 rfl (hb C.2.2.2.1 hd) rfl hc k) k
theorem ow_dup_x1 (C : OwnCtx p s m meth c Z a0 tw y0 bytes ml ret) (A : OwnPos p l e R s m args below meth c h0 ws T h ck sk) {v w : Value} (hd : decode bytes pc = .ok (.dup_x1, 1)) (hc : v.category = 1) (hc' : w.category = 1) (hp : pc + 1 = pc') (k : OwnWP p e below s h0 ws Q CK SK T (mkF m pc' Ls (v :: w :: v :: S))) : OwnWP p e below s h0 ws Q CK SK T (mkF m pc Ls (v :: w :: S)) := by
  obtain ⟨locs, X, -⟩ := A; subst hp
  exact ow_st (fun _ k => XS.dupX1 X.here C.1 rfl (hb C.2.2.2.1 hd) rfl hc hc' k) k
theorem ow_dup2 (C : OwnCtx p s m meth c Z a0 tw y0 bytes ml ret) (A : OwnPos p l e R s m args below meth c h0 ws T h ck sk) {v w : Value} (hd : decode bytes pc = .ok (.dup2, 1)) (hc : v.category = 1) (hc' : w.category = 1) (hp : pc + 1 = pc') (k : OwnWP p e below s h0 ws Q CK SK T (mkF m pc' Ls (v :: w :: v :: w :: S))) : OwnWP p e below s h0 ws Q CK SK T (mkF m pc Ls (v :: w :: S)) := by
  obtain ⟨locs, X, -⟩ := A; subst hp
  exact ow_st (fun _ k => XT.dup2 X.here C.1 rfl (hb C.2.2.2.1 hd) rfl hc hc' k) k
theorem ow_pop (C : OwnCtx p s m meth c Z a0 tw y0 bytes ml ret) (A : OwnPos p l e R s m args below meth c h0 ws T h ck sk) {v : Value} (hd : decode bytes pc = .ok (.pop, 1)) (hc : v.category = 1) (hp : pc + 1 = pc') (k : OwnWP p e below s h0 ws Q CK SK T (mkF m pc' Ls (S))) : OwnWP p e below s h0 ws Q CK SK T (mkF m pc Ls (v :: S)) := by
  obtain ⟨locs, X, -⟩ := A; subst hp
  exact ow_st (fun _ k => XS.pop X.here C.1 rfl (hb C.2.2.2.1 hd) rfl hc k) k
theorem ow_goto (C : OwnCtx p s m meth c Z a0 tw y0 bytes ml ret) (A : OwnPos p l e R s m args below meth c h0 ws T h ck sk) {o : Int} (hd : decode bytes pc = .ok (.goto o, 3)) (ho : 0 ≤ (pc : Int) + o) (hp : ((pc : Int) + o).toNat = pc') (k : OwnWP p e below s h0 ws Q CK SK T (mkF m pc' Ls S)) : OwnWP p e below s h0 ws Q CK SK T (mkF m pc Ls S) := by
  obtain ⟨locs, X, -⟩ := A
  exact ow_st (fun _ k => XS.goto X.here C.1 rfl (pc0 := pc) (pc' := pc') rfl (hb C.2.2.2.1 hd) ho hp k) k
theorem ow_icmp_lt (C : OwnCtx p s m meth c Z a0 tw y0 bytes ml ret) (A : OwnPos p l e R s m args below meth c h0 ws T h ck sk) {x y : Int32} {o : Int} {pcY pcN : Nat} (hd : decode bytes pc = .ok (.if_icmp .lt o, 3)) (ho : 0 ≤ (pc : Int) + o) (hpY : ((pc : Int) + o).toNat = pcY) (hpN : pc + 3 = pcN) (kY : x < y → OwnWP p e below s h0 ws Q CK SK T (mkF m pcY Ls S)) (kN : ¬ (x < y) → OwnWP p e below s h0 ws Q CK SK T (mkF m pcN Ls S)) : OwnWP p e below s h0 ws Q CK SK T (mkF m pc Ls (.int y :: .int x :: S)) := by
  obtain ⟨locs, X, -⟩ := A; subst hpN
  by_cases q : x < y
  · exact ow_st (fun _ k => XS.icmpYes X.here C.1 rfl (pc0 := pc) (pc' := pcY) rfl (hb C.2.2.2.1 hd) rfl (tlt q).1 ho hpY k) (kY q)
  · exact ow_st (fun _ k => XS.icmpNo X.here C.1 rfl (hb C.2.2.2.1 hd) rfl (flt q).1 k) (kN q)
theorem ow_if_lt (C : OwnCtx p s m meth c Z a0 tw y0 bytes ml ret) (A : OwnPos p l e R s m args below meth c h0 ws T h ck sk) {x : Int32} {o : Int} {pcY pcN : Nat} (hd : decode bytes pc = .ok (.ifCond .lt o, 3)) (ho : 0 ≤ (pc : Int) + o) (hpY : ((pc : Int) + o).toNat = pcY) (hpN : pc + 3 = pcN) (kY : x < 0 → OwnWP p e below s h0 ws Q CK SK T (mkF m pcY Ls S)) (kN : ¬ (x < 0) → OwnWP p e below s h0 ws Q CK SK T (mkF m pcN Ls S)) : OwnWP p e below s h0 ws Q CK SK T (mkF m pc Ls (.int x :: S)) := by
  obtain ⟨locs, X, -⟩ := A; subst hpN
  by_cases q : x < 0
  · exact ow_st (fun _ k => XS.ifYes X.here C.1 rfl (pc0 := pc) (pc' := pcY) rfl (hb C.2.2.2.1 hd) rfl ((if0 _ _).trans (tlt q).1) ho hpY k) (kY q)
  · exact ow_st (fun _ k => XS.ifNo X.here C.1 rfl (hb C.2.2.2.1 hd) rfl ((if0 _ _).trans (flt q).1) k) (kN q)
theorem ow_lcmp_lt (C : OwnCtx p s m meth c Z a0 tw y0 bytes ml ret) (A : OwnPos p l e R s m args below meth c h0 ws T h ck sk) {x y : Int64} {o : Int} {pc1 pcY pcN : Nat} (hd : decode bytes pc = .ok (.lcmp, 1)) (hp1 : pc + 1 = pc1) (hd1 : decode bytes pc1 = .ok (.ifCond .lt o, 3)) (ho : 0 ≤ (pc1 : Int) + o) (hpY : ((pc1 : Int) + o).toNat = pcY) (hpN : pc1 + 3 = pcN) (kY : x < y → OwnWP p e below s h0 ws Q CK SK T (mkF m pcY Ls S)) (kN : ¬ (x < y) → OwnWP p e below s h0 ws Q CK SK T (mkF m pcN Ls S)) : OwnWP p e below s h0 ws Q CK SK T (mkF m pc Ls (.long y :: .long x :: S)) := by
  have A' := A; obtain ⟨locs, X, -⟩ := A'; subst hp1
  refine ow_st (fun _ k => XS.lcmp X.here C.1 rfl (hb C.2.2.2.1 hd) rfl k) ?_
  show OwnWP p e below s h0 ws Q CK SK T (mkF m (pc + 1) Ls (.int (lcmpW x y) :: S))
  exact ow_if_lt C A hd1 ho hpY hpN (fun q => kY ((lw_lt x y).mp q)) (fun q => kN (fun z => q ((lw_lt x y).mpr z)))
theorem ow_icmp_ge (C : OwnCtx p s m meth c Z a0 tw y0 bytes ml ret) (A : OwnPos p l e R s m args below meth c h0 ws T h ck sk) {x y : Int32} {o : Int} {pcY pcN : Nat} (hd : decode bytes pc = .ok (.if_icmp .ge o, 3)) (ho : 0 ≤ (pc : Int) + o) (hpY : ((pc : Int) + o).toNat = pcY) (hpN : pc + 3 = pcN) (kY : ¬ (x < y) → OwnWP p e below s h0 ws Q CK SK T (mkF m pcY Ls S)) (kN : x < y → OwnWP p e below s h0 ws Q CK SK T (mkF m pcN Ls S)) : OwnWP p e below s h0 ws Q CK SK T (mkF m pc Ls (.int y :: .int x :: S)) := by
  obtain ⟨locs, X, -⟩ := A; subst hpN
  by_cases q : x < y
  · exact ow_st (fun _ k => XS.icmpNo X.here C.1 rfl (hb C.2.2.2.1 hd) rfl (tlt q).2.1 k) (kN q)
  · exact ow_st (fun _ k => XS.icmpYes X.here C.1 rfl (pc0 := pc) (pc' := pcY) rfl (hb C.2.2.2.1 hd) rfl (flt q).2.1 ho hpY k) (kY q)
theorem ow_if_ge (C : OwnCtx p s m meth c Z a0 tw y0 bytes ml ret) (A : OwnPos p l e R s m args below meth c h0 ws T h ck sk) {x : Int32} {o : Int} {pcY pcN : Nat} (hd : decode bytes pc = .ok (.ifCond .ge o, 3)) (ho : 0 ≤ (pc : Int) + o) (hpY : ((pc : Int) + o).toNat = pcY) (hpN : pc + 3 = pcN) (kY : ¬ (x < 0) → OwnWP p e below s h0 ws Q CK SK T (mkF m pcY Ls S)) (kN : x < 0 → OwnWP p e below s h0 ws Q CK SK T (mkF m pcN Ls S)) : OwnWP p e below s h0 ws Q CK SK T (mkF m pc Ls (.int x :: S)) := by
  obtain ⟨locs, X, -⟩ := A; subst hpN
  by_cases q : x < 0
  · exact ow_st (fun _ k => XS.ifNo X.here C.1 rfl (hb C.2.2.2.1 hd) rfl ((if0 _ _).trans (tlt q).2.1) k) (kN q)
  · exact ow_st (fun _ k => XS.ifYes X.here C.1 rfl (pc0 := pc) (pc' := pcY) rfl (hb C.2.2.2.1 hd) rfl ((if0 _ _).trans (flt q).2.1) ho hpY k) (kY q)
theorem ow_lcmp_ge (C : OwnCtx p s m meth c Z a0 tw y0 bytes ml ret) (A : OwnPos p l e R s m args below meth c h0 ws T h ck sk) {x y : Int64} {o : Int} {pc1 pcY pcN : Nat} (hd : decode bytes pc = .ok (.lcmp, 1)) (hp1 : pc + 1 = pc1) (hd1 : decode bytes pc1 = .ok (.ifCond .ge o, 3)) (ho : 0 ≤ (pc1 : Int) + o) (hpY : ((pc1 : Int) + o).toNat = pcY) (hpN : pc1 + 3 = pcN) (kY : ¬ (x < y) → OwnWP p e below s h0 ws Q CK SK T (mkF m pcY Ls S)) (kN : x < y → OwnWP p e below s h0 ws Q CK SK T (mkF m pcN Ls S)) : OwnWP p e below s h0 ws Q CK SK T (mkF m pc Ls (.long y :: .long x :: S)) := by
  have A' := A; obtain ⟨locs, X, -⟩ := A'; subst hp1
  refine ow_st (fun _ k => XS.lcmp X.here C.1 rfl (hb C.2.2.2.1 hd) rfl k) ?_
  show OwnWP p e below s h0 ws Q CK SK T (mkF m (pc + 1) Ls (.int (lcmpW x y) :: S))
  exact ow_if_ge C A hd1 ho hpY hpN (fun q => kY (fun z => q ((lw_lt x y).mpr z))) (fun q => kN ((lw_lt x y).mp q))
theorem ow_icmp_gt (C : OwnCtx p s m meth c Z a0 tw y0 bytes ml ret) (A : OwnPos p l e R s m args below meth c h0 ws T h ck sk) {x y : Int32} {o : Int} {pcY pcN : Nat} (hd : decode bytes pc = .ok (.if_icmp .gt o, 3)) (ho : 0 ≤ (pc : Int) + o) (hpY : ((pc : Int) + o).toNat = pcY) (hpN : pc + 3 = pcN) (kY : y < x → OwnWP p e below s h0 ws Q CK SK T (mkF m pcY Ls S)) (kN : ¬ (y < x) → OwnWP p e below s h0 ws Q CK SK T (mkF m pcN Ls S)) : OwnWP p e below s h0 ws Q CK SK T (mkF m pc Ls (.int y :: .int x :: S)) := by
  obtain ⟨locs, X, -⟩ := A; subst hpN
  by_cases q : y < x
  · exact ow_st (fun _ k => XS.icmpYes X.here C.1 rfl (pc0 := pc) (pc' := pcY) rfl (hb C.2.2.2.1 hd) rfl (tlt q).2.2.1 ho hpY k) (kY q)
  · exact ow_st (fun _ k => XS.icmpNo X.here C.1 rfl (hb C.2.2.2.1 hd) rfl (flt q).2.2.1 k) (kN q)
theorem ow_if_gt (C : OwnCtx p s m meth c Z a0 tw y0 bytes ml ret) (A : OwnPos p l e R s m args below meth c h0 ws T h ck sk) {x : Int32} {o : Int} {pcY pcN : Nat} (hd : decode bytes pc = .ok (.ifCond .gt o, 3)) (ho : 0 ≤ (pc : Int) + o) (hpY : ((pc : Int) + o).toNat = pcY) (hpN : pc + 3 = pcN) (kY : 0 < x → OwnWP p e below s h0 ws Q CK SK T (mkF m pcY Ls S)) (kN : ¬ (0 < x) → OwnWP p e below s h0 ws Q CK SK T (mkF m pcN Ls S)) : OwnWP p e below s h0 ws Q CK SK T (mkF m pc Ls (.int x :: S)) := by
  obtain ⟨locs, X, -⟩ := A; subst hpN
  by_cases q : 0 < x
  · exact ow_st (fun _ k => XS.ifYes X.here C.1 rfl (pc0 := pc) (pc' := pcY) rfl (hb C.2.2.2.1 hd) rfl ((if0 _ _).trans (tlt q).2.2.1) ho hpY k) (kY q)
  · exact ow_st (fun _ k => XS.ifNo X.here C.1 rfl (hb C.2.2.2.1 hd) rfl ((if0 _ _).trans (flt q).2.2.1) k) (kN q)
theorem ow_lcmp_gt (C : OwnCtx p s m meth c Z a0 tw y0 bytes ml ret) (A : OwnPos p l e R s m args below meth c h0 ws T h ck sk) {x y : Int64} {o : Int} {pc1 pcY pcN : Nat} (hd : decode bytes pc = .ok (.lcmp, 1)) (hp1 : pc + 1 = pc1) (hd1 : decode bytes pc1 = .ok (.ifCond .gt o, 3)) (ho : 0 ≤ (pc1 : Int) + o) (hpY : ((pc1 : Int) + o).toNat = pcY) (hpN : pc1 + 3 = pcN) (kY : y < x → OwnWP p e below s h0 ws Q CK SK T (mkF m pcY Ls S)) (kN : ¬ (y < x) → OwnWP p e below s h0 ws Q CK SK T (mkF m pcN Ls S)) : OwnWP p e below s h0 ws Q CK SK T (mkF m pc Ls (.long y :: .long x :: S)) := by
  have A' := A; obtain ⟨locs, X, -⟩ := A'; subst hp1
  refine ow_st (fun _ k => XS.lcmp X.here C.1 rfl (hb C.2.2.2.1 hd) rfl k) ?_
  show OwnWP p e below s h0 ws Q CK SK T (mkF m (pc + 1) Ls (.int (lcmpW x y) :: S))
  exact ow_if_gt C A hd1 ho hpY hpN (fun q => kY ((lw_gt x y).mp q)) (fun q => kN (fun z => q ((lw_gt x y).mpr z)))
theorem ow_icmp_le (C : OwnCtx p s m meth c Z a0 tw y0 bytes ml ret) (A : OwnPos p l e R s m args below meth c h0 ws T h ck sk) {x y : Int32} {o : Int} {pcY pcN : Nat} (hd : decode bytes pc = .ok (.if_icmp .le o, 3)) (ho : 0 ≤ (pc : Int) + o) (hpY : ((pc : Int) + o).toNat = pcY) (hpN : pc + 3 = pcN) (kY : ¬ (y < x) → OwnWP p e below s h0 ws Q CK SK T (mkF m pcY Ls S)) (kN : y < x → OwnWP p e below s h0 ws Q CK SK T (mkF m pcN Ls S)) : OwnWP p e below s h0 ws Q CK SK T (mkF m pc Ls (.int y :: .int x :: S)) := by
  obtain ⟨locs, X, -⟩ := A; subst hpN
  by_cases q : y < x
  · exact ow_st (fun _ k => XS.icmpNo X.here C.1 rfl (hb C.2.2.2.1 hd) rfl (tlt q).2.2.2 k) (kN q)
  · exact ow_st (fun _ k => XS.icmpYes X.here C.1 rfl (pc0 := pc) (pc' := pcY) rfl (hb C.2.2.2.1 hd) rfl (flt q).2.2.2 ho hpY k) (kY q)
theorem ow_if_le (C : OwnCtx p s m meth c Z a0 tw y0 bytes ml ret) (A : OwnPos p l e R s m args below meth c h0 ws T h ck sk) {x : Int32} {o : Int} {pcY pcN : Nat} (hd : decode bytes pc = .ok (.ifCond .le o, 3)) (ho : 0 ≤ (pc : Int) + o) (hpY : ((pc : Int) + o).toNat = pcY) (hpN : pc + 3 = pcN) (kY : ¬ (0 < x) → OwnWP p e below s h0 ws Q CK SK T (mkF m pcY Ls S)) (kN : 0 < x → OwnWP p e below s h0 ws Q CK SK T (mkF m pcN Ls S)) : OwnWP p e below s h0 ws Q CK SK T (mkF m pc Ls (.int x :: S)) := by
  obtain ⟨locs, X, -⟩ := A; subst hpN
  by_cases q : 0 < x
  · exact ow_st (fun _ k => XS.ifNo X.here C.1 rfl (hb C.2.2.2.1 hd) rfl ((if0 _ _).trans (tlt q).2.2.2) k) (kN q)
  · exact ow_st (fun _ k => XS.ifYes X.here C.1 rfl (pc0 := pc) (pc' := pcY) rfl (hb C.2.2.2.1 hd) rfl ((if0 _ _).trans (flt q).2.2.2) ho hpY k) (kY q)
theorem ow_lcmp_le (C : OwnCtx p s m meth c Z a0 tw y0 bytes ml ret) (A : OwnPos p l e R s m args below meth c h0 ws T h ck sk) {x y : Int64} {o : Int} {pc1 pcY pcN : Nat} (hd : decode bytes pc = .ok (.lcmp, 1)) (hp1 : pc + 1 = pc1) (hd1 : decode bytes pc1 = .ok (.ifCond .le o, 3)) (ho : 0 ≤ (pc1 : Int) + o) (hpY : ((pc1 : Int) + o).toNat = pcY) (hpN : pc1 + 3 = pcN) (kY : ¬ (y < x) → OwnWP p e below s h0 ws Q CK SK T (mkF m pcY Ls S)) (kN : y < x → OwnWP p e below s h0 ws Q CK SK T (mkF m pcN Ls S)) : OwnWP p e below s h0 ws Q CK SK T (mkF m pc Ls (.long y :: .long x :: S)) := by
  have A' := A; obtain ⟨locs, X, -⟩ := A'; subst hp1
  refine ow_st (fun _ k => XS.lcmp X.here C.1 rfl (hb C.2.2.2.1 hd) rfl k) ?_
  show OwnWP p e below s h0 ws Q CK SK T (mkF m (pc + 1) Ls (.int (lcmpW x y) :: S))
  exact ow_if_le C A hd1 ho hpY hpN (fun q => kY (fun z => q ((lw_gt x y).mpr z))) (fun q => kN ((lw_gt x y).mp q))
theorem ow_icmp_eq (C : OwnCtx p s m meth c Z a0 tw y0 bytes ml ret) (A : OwnPos p l e R s m args below meth c h0 ws T h ck sk) {x y : Int32} {o : Int} {pcY pcN : Nat} (hd : decode bytes pc = .ok (.if_icmp .eq o, 3)) (ho : 0 ≤ (pc : Int) + o) (hpY : ((pc : Int) + o).toNat = pcY) (hpN : pc + 3 = pcN) (kY : x = y → OwnWP p e below s h0 ws Q CK SK T (mkF m pcY Ls S)) (kN : ¬ (x = y) → OwnWP p e below s h0 ws Q CK SK T (mkF m pcN Ls S)) : OwnWP p e below s h0 ws Q CK SK T (mkF m pc Ls (.int y :: .int x :: S)) := by
  obtain ⟨locs, X, -⟩ := A; subst hpN
  by_cases q : x = y
  · exact ow_st (fun _ k => XS.icmpYes X.here C.1 rfl (pc0 := pc) (pc' := pcY) rfl (hb C.2.2.2.1 hd) rfl (teq q).1 ho hpY k) (kY q)
  · exact ow_st (fun _ k => XS.icmpNo X.here C.1 rfl (hb C.2.2.2.1 hd) rfl (feq q).1 k) (kN q)
theorem ow_if_eq (C : OwnCtx p s m meth c Z a0 tw y0 bytes ml ret) (A : OwnPos p l e R s m args below meth c h0 ws T h ck sk) {x : Int32} {o : Int} {pcY pcN : Nat} (hd : decode bytes pc = .ok (.ifCond .eq o, 3)) (ho : 0 ≤ (pc : Int) + o) (hpY : ((pc : Int) + o).toNat = pcY) (hpN : pc + 3 = pcN) (kY : x = 0 → OwnWP p e below s h0 ws Q CK SK T (mkF m pcY Ls S)) (kN : ¬ (x = 0) → OwnWP p e below s h0 ws Q CK SK T (mkF m pcN Ls S)) : OwnWP p e below s h0 ws Q CK SK T (mkF m pc Ls (.int x :: S)) := by
  obtain ⟨locs, X, -⟩ := A; subst hpN
  by_cases q : x = 0
  · exact ow_st (fun _ k => XS.ifYes X.here C.1 rfl (pc0 := pc) (pc' := pcY) rfl (hb C.2.2.2.1 hd) rfl ((if0 _ _).trans (teq q).1) ho hpY k) (kY q)
  · exact ow_st (fun _ k => XS.ifNo X.here C.1 rfl (hb C.2.2.2.1 hd) rfl ((if0 _ _).trans (feq q).1) k) (kN q)
theorem ow_lcmp_eq (C : OwnCtx p s m meth c Z a0 tw y0 bytes ml ret) (A : OwnPos p l e R s m args below meth c h0 ws T h ck sk) {x y : Int64} {o : Int} {pc1 pcY pcN : Nat} (hd : decode bytes pc = .ok (.lcmp, 1)) (hp1 : pc + 1 = pc1) (hd1 : decode bytes pc1 = .ok (.ifCond .eq o, 3)) (ho : 0 ≤ (pc1 : Int) + o) (hpY : ((pc1 : Int) + o).toNat = pcY) (hpN : pc1 + 3 = pcN) (kY : x = y → OwnWP p e below s h0 ws Q CK SK T (mkF m pcY Ls S)) (kN : ¬ (x = y) → OwnWP p e below s h0 ws Q CK SK T (mkF m pcN Ls S)) : OwnWP p e below s h0 ws Q CK SK T (mkF m pc Ls (.long y :: .long x :: S)) := by
  have A' := A; obtain ⟨locs, X, -⟩ := A'; subst hp1
  refine ow_st (fun _ k => XS.lcmp X.here C.1 rfl (hb C.2.2.2.1 hd) rfl k) ?_
  show OwnWP p e below s h0 ws Q CK SK T (mkF m (pc + 1) Ls (.int (lcmpW x y) :: S))
  exact ow_if_eq C A hd1 ho hpY hpN (fun q => kY ((lw_eq x y).mp q)) (fun q => kN (fun z => q ((lw_eq x y).mpr z)))
theorem ow_icmp_ne (C : OwnCtx p s m meth c Z a0 tw y0 bytes ml ret) (A : OwnPos p l e R s m args below meth c h0 ws T h ck sk) {x y : Int32} {o : Int} {pcY pcN : Nat} (hd : decode bytes pc = .ok (.if_icmp .ne o, 3)) (ho : 0 ≤ (pc : Int) + o) (hpY : ((pc : Int) + o).toNat = pcY) (hpN : pc + 3 = pcN) (kY : ¬ (x = y) → OwnWP p e below s h0 ws Q CK SK T (mkF m pcY Ls S)) (kN : x = y → OwnWP p e below s h0 ws Q CK SK T (mkF m pcN Ls S)) : OwnWP p e below s h0 ws Q CK SK T (mkF m pc Ls (.int y :: .int x :: S)) := by
  obtain ⟨locs, X, -⟩ := A; subst hpN
  by_cases q : x = y
  · exact ow_st (fun _ k => XS.icmpNo X.here C.1 rfl (hb C.2.2.2.1 hd) rfl (teq q).2 k) (kN q)
  · exact ow_st (fun _ k => XS.icmpYes X.here C.1 rfl (pc0 := pc) (pc' := pcY) rfl (hb C.2.2.2.1 hd) rfl (feq q).2 ho hpY k) (kY q)
theorem ow_if_ne (C : OwnCtx p s m meth c Z a0 tw y0 bytes ml ret) (A : OwnPos p l e R s m args below meth c h0 ws T h ck sk) {x : Int32} {o : Int} {pcY pcN : Nat} (hd : decode bytes pc = .ok (.ifCond .ne o, 3)) (ho : 0 ≤ (pc : Int) + o) (hpY : ((pc : Int) + o).toNat = pcY) (hpN : pc + 3 = pcN) (kY : ¬ (x = 0) → OwnWP p e below s h0 ws Q CK SK T (mkF m pcY Ls S)) (kN : x = 0 → OwnWP p e below s h0 ws Q CK SK T (mkF m pcN Ls S)) : OwnWP p e below s h0 ws Q CK SK T (mkF m pc Ls (.int x :: S)) := by
  obtain ⟨locs, X, -⟩ := A; subst hpN
  by_cases q : x = 0
  · exact ow_st (fun _ k => XS.ifNo X.here C.1 rfl (hb C.2.2.2.1 hd) rfl ((if0 _ _).trans (teq q).2) k) (kN q)
  · exact ow_st (fun _ k => XS.ifYes X.here C.1 rfl (pc0 := pc) (pc' := pcY) rfl (hb C.2.2.2.1 hd) rfl ((if0 _ _).trans (feq q).2) ho hpY k) (kY q)
theorem ow_lcmp_ne (C : OwnCtx p s m meth c Z a0 tw y0 bytes ml ret) (A : OwnPos p l e R s m args below meth c h0 ws T h ck sk) {x y : Int64} {o : Int} {pc1 pcY pcN : Nat} (hd : decode bytes pc = .ok (.lcmp, 1)) (hp1 : pc + 1 = pc1) (hd1 : decode bytes pc1 = .ok (.ifCond .ne o, 3)) (ho : 0 ≤ (pc1 : Int) + o) (hpY : ((pc1 : Int) + o).toNat = pcY) (hpN : pc1 + 3 = pcN) (kY : ¬ (x = y) → OwnWP p e below s h0 ws Q CK SK T (mkF m pcY Ls S)) (kN : x = y → OwnWP p e below s h0 ws Q CK SK T (mkF m pcN Ls S)) : OwnWP p e below s h0 ws Q CK SK T (mkF m pc Ls (.long y :: .long x :: S)) := by
  have A' := A; obtain ⟨locs, X, -⟩ := A'; subst hp1
  refine ow_st (fun _ k => XS.lcmp X.here C.1 rfl (hb C.2.2.2.1 hd) rfl k) ?_
  show OwnWP p e below s h0 ws Q CK SK T (mkF m (pc + 1) Ls (.int (lcmpW x y) :: S))
  exact ow_if_ne C A hd1 ho hpY hpN (fun q => kY (fun z => q ((lw_eq x y).mpr z))) (fun q => kN ((lw_eq x y).mp q))
theorem ow_ifnonnullYes (C : OwnCtx p s m meth c Z a0 tw y0 bytes ml ret) (A : OwnPos p l e R s m args below meth c h0 ws T h ck sk) {o : Int} {b : Addr} (hd : decode bytes pc = .ok (.ifnonnull o, 3)) (ho : 0 ≤ (pc : Int) + o) (hp : ((pc : Int) + o).toNat = pc') (k : OwnWP p e below s h0 ws Q CK SK T (mkF m pc' Ls S)) : OwnWP p e below s h0 ws Q CK SK T (mkF m pc Ls (.ref b :: S)) := by
  obtain ⟨locs, X, -⟩ := A
  exact ow_st (fun _ k => XS.ifnonnullYes X.here C.1 rfl (pc0 := pc) (pc' := pc') rfl (hb C.2.2.2.1 hd) rfl ho hp k) k
theorem ow_ifnonnullNo (C : OwnCtx p s m meth c Z a0 tw y0 bytes ml ret) (A : OwnPos p l e R s m args below meth c h0 ws T h ck sk) {o : Int} (hd : decode bytes pc = .ok (.ifnonnull o, 3)) (hp : pc + 3 = pc') (k : OwnWP p e below s h0 ws Q CK SK T (mkF m pc' Ls S)) : OwnWP p e below s h0 ws Q CK SK T (mkF m pc Ls (.null :: S)) := by
  obtain ⟨locs, X, -⟩ := A; subst hp
  exact ow_st (fun _ k => XS.ifnonnullNo X.here C.1 rfl (hb C.2.2.2.1 hd) rfl k) k
theorem ow_ldcInt (C : OwnCtx p s m meth c Z a0 tw y0 bytes ml ret) (A : OwnPos p l e R s m args below meth c h0 ws T h ck sk) {i : Nat} {v : Int32} (w : Jvm.Cond.constant y0.cls i v ∈ tw) (hd : decode bytes pc = .ok (.ldc i, 2)) (hp : pc + 2 = pc') (k : OwnWP p e below s h0 ws Q CK SK T (mkF m pc' Ls (.int v :: S))) : OwnWP p e below s h0 ws Q CK SK T (mkF m pc Ls S) := by
  obtain ⟨locs, X, -⟩ := A; subst hp
  exact ow_st (X.ldcInt C.1 C.2.2.2.2.2.1 (mvT C.2.1 (C.2.2.1 _ w)) (g := mkF m pc Ls S) rfl (hb C.2.2.2.1 hd)) k
theorem ow_ldc2 (C : OwnCtx p s m meth c Z a0 tw y0 bytes ml ret) (A : OwnPos p l e R s m args below meth c h0 ws T h ck sk) {i : Nat} {v : Int64} (w : Jvm.Cond.constantLong y0.cls i v ∈ tw) (hd : decode bytes pc = .ok (.ldc2_w i, 3)) (hp : pc + 3 = pc') (k : OwnWP p e below s h0 ws Q CK SK T (mkF m pc' Ls (.long v :: S))) : OwnWP p e below s h0 ws Q CK SK T (mkF m pc Ls S) := by
  obtain ⟨locs, X, -⟩ := A; subst hp
  exact ow_st (X.ldc2Long C.1 C.2.2.2.2.2.1 (mvT C.2.1 (C.2.2.1 _ w)) (g := mkF m pc Ls S) rfl (hb C.2.2.2.1 hd)) k
theorem ow_getF (C : OwnCtx p s m meth c Z a0 tw y0 bytes ml ret) (A : OwnPos p l e R s m args below meth c h0 ws T h ck sk) {i : Nat} {R0 O n d : String} {a : Addr} {v : Value} (w : Jvm.Cond.fieldLink y0.cls i R0 n d ∈ tw) (via : Via Z R0 O n d) (F : Fld Z h a O n d v) (hd : decode bytes pc = .ok (.getfield i, 3)) (hp : pc + 3 = pc') (k : ∀ T', OwnPos p l e R s m args below meth c h0 ws T' h ck sk → OwnWP p e below s h0 ws Q CK SK T' (mkF m pc' Ls (v :: S))) : OwnWP p e below s h0 ws Q CK SK T (mkF m pc Ls (.ref a :: S)) := by
  obtain ⟨locs, X, e1, N, K⟩ := A; subst hp
  obtain ⟨T', X', e', st⟩ := getF X C.1 C.2.1 C.2.2.2.2.2.1 (host := "") (Or.inl (C.2.2.1 _ w)) via e1 F (g := mkF m pc Ls (.ref a :: S)) rfl rfl (hb C.2.2.2.1 hd)
  exact ow_st st (k T' ⟨locs, X', e', N, K⟩)
theorem ow_putF (C : OwnCtx p s m meth c Z a0 tw y0 bytes ml ret) (A : OwnPos p l e R s m args below meth c h0 ws T h ck sk) {i kk : Nat} {R0 O n d D : String} {a : Addr} {v old : Value} {ty : FieldType} (w : Jvm.Cond.fieldLink y0.cls i R0 n d ∈ tw) (via : Via Z R0 O n d) (F : Fld Z h a O n d old) (E : Exa Z h a D) (wl : Jvm.Cond.lays D O n d ∈ tw) (wi : Jvm.Cond.instantiable D kk ∈ tw) (hty : parseFieldDescriptor d = some ty) (hn : narrow ty v = v) (hf : fits ty v = true) (q : a ∈ ws ∨ h0.size ≤ a) (hd : decode bytes pc = .ok (.putfield i, 3)) (hp : pc + 3 = pc') (k : ∀ T' h', Wr h h' a (slotOf Z O n d) v → OwnPos p l e R s m args below meth c h0 ws T' h' ck sk → OwnWP p e below s h0 ws Q CK SK T' (mkF m pc' Ls S)) : OwnWP p e below s h0 ws Q CK SK T (mkF m pc Ls (v :: .ref a :: S)) := by
  obtain ⟨locs, X, e1, N, K⟩ := A; subst hp
  obtain ⟨T', h', X', e', W', st⟩ := putF X C.1 C.2.1 C.2.2.2.2.2.1 (host := "") (Or.inl (C.2.2.1 _ w)) via e1 F E (Or.inl (C.2.2.1 _ wl)) (C.2.2.1 _ wi) hty hn hf (g := mkF m pc Ls (v :: .ref a :: S)) rfl rfl (hb C.2.2.2.1 hd)
  exact ow_st st (k T' h' W' ⟨_, X', e', fun y hy => (List.mem_append.mp hy).elim (N y) fun z => by cases List.mem_singleton.mp z; exact q, K.wr W' q⟩)
theorem ow_putFin (C : OwnCtx p s m meth c Z a0 tw y0 bytes ml ret) (A : OwnPos p l e R s m args below meth c h0 ws T h ck sk) {i kk : Nat} {R0 O n d D : String} {a : Addr} {v old : Value} {ty : FieldType} (w : Jvm.Cond.fieldLink y0.cls i R0 n d ∈ tw) (via : Via Z R0 O n d) (F : Fld Z h a O n d old) (E : Exa Z h a D) (wl : Jvm.Cond.laysFinal D O n d ∈ tw) (hO : y0.cls = O) (hi : y0.name = "<init>") (wi : Jvm.Cond.instantiable D kk ∈ tw) (hty : parseFieldDescriptor d = some ty) (hn : narrow ty v = v) (hf : fits ty v = true) (q : a ∈ ws ∨ h0.size ≤ a) (hd : decode bytes pc = .ok (.putfield i, 3)) (hp : pc + 3 = pc') (k : ∀ T' h', Wr h h' a (slotOf Z O n d) v → OwnPos p l e R s m args below meth c h0 ws T' h' ck sk → OwnWP p e below s h0 ws Q CK SK T' (mkF m pc' Ls S)) : OwnWP p e below s h0 ws Q CK SK T (mkF m pc Ls (v :: .ref a :: S)) := by
  obtain ⟨locs, X, e1, N, K⟩ := A; subst hp
  obtain ⟨T', h', X', e', W', st⟩ := putF X C.1 C.2.1 C.2.2.2.2.2.1 (host := "") (Or.inl (C.2.2.1 _ w)) via e1 F E (Or.inr ⟨C.2.2.1 _ wl, hO, C.2.2.2.2.2.2.1.trans hi⟩) (C.2.2.1 _ wi) hty hn hf (g := mkF m pc Ls (v :: .ref a :: S)) rfl rfl (hb C.2.2.2.1 hd)
  exact ow_st st (k T' h' W' ⟨_, X', e', fun y hy => (List.mem_append.mp hy).elim (N y) fun z => by cases List.mem_singleton.mp z; exact q, K.wr W' q⟩)
theorem ow_new (C : OwnCtx p s m meth c Z a0 tw y0 bytes ml ret) (A : OwnPos p l e R s m args below meth c h0 ws T h ck sk) {i n ck' sk' : Nat} {D : String} (w : Jvm.Cond.classLink y0.cls i D ∈ tw) (wi : Jvm.Cond.instantiable D n ∈ tw) (wz : Jvm.Cond.initialized D ∈ tw) (hd : decode bytes pc = .ok (.new i, 3)) (hp : pc + 3 = pc') (hck : ck + 1 = ck') (hsk : sk + n = sk') (hc : ck' ≤ R.cells) (hs : sk' ≤ R.slots)
    (k : ∀ T' h' b, b = h.size → Ext h h' → Exa Z h' b D → (∀ {O nm d : String} {ty : FieldType}, Laid Z a0 D O nm d → parseFieldDescriptor d = some ty → Fld Z h' b O nm d (defaultValue ty)) → OwnPos p l e R s m args below meth c h0 ws T' h' ck' sk' → OwnWP p e below s h0 ws Q CK SK T' (mkF m pc' Ls (.ref b :: S))) : OwnWP p e below s h0 ws Q CK SK T (mkF m pc Ls S) := by
  obtain ⟨locs, X, e1, N, K⟩ := A; subst hp hck hsk
  obtain ⟨T', h', X', e', E', A', D', -, st⟩ := newO X C.1 C.2.1 C.2.2.2.2.2.1 (C.2.2.1 _ w) (C.2.2.1 _ wi) (C.2.2.1 _ wz) e1 (g := mkF m pc Ls S) rfl (hb C.2.2.2.1 hd) hc hs
  exact ow_st st (k T' h' h.size rfl E' A' D' ⟨locs, X', e', N, K.ext E'⟩)
theorem ow_newA (C : OwnCtx p s m meth c Z a0 tw y0 bytes ml ret) (A : OwnPos p l e R s m args below meth c h0 ws T h ck sk) {aty : ArrayType} {ty : FieldType} {n : Int32} {cap ck' sk' : Nat} (hty : newarray.typeOf aty = ty) (w : Jvm.Cond.arrayClass ty ∈ tw) (hd : decode bytes pc = .ok (.newarray aty, 2)) (hp : pc + 2 = pc') (hn : ¬ n < 0) (hcap : n.toNatClampNeg ≤ cap) (hb8 : cap * 8 ≤ 536870912) (hck : ck + 1 = ck') (hsk : sk + cap = sk') (hc : ck' ≤ R.cells) (hs : sk' ≤ R.slots)
    (k : ∀ T' h' b kk, b = h.size → Ext h h' → Arv Z h' b kk ty n [] (defaultValue ty) → OwnPos p l e R s m args below meth c h0 ws T' h' ck' sk' → OwnWP p e below s h0 ws Q CK SK T' (mkF m pc' Ls (.ref b :: S))) : OwnWP p e below s h0 ws Q CK SK T (mkF m pc Ls (.int n :: S)) := by
  obtain ⟨locs, X, e1, N, K⟩ := A; subst hp hck hsk hty
  obtain ⟨T', h', kk, X', e', E', A', st⟩ := newP X C.1 C.2.1 (C.2.2.1 _ w) e1 (g := mkF m pc Ls (.int n :: S)) rfl (hb C.2.2.2.1 hd) rfl hn (cap := cap) hcap hb8 hc hs
  exact ow_st st (k T' h' h.size kk rfl E' (Arv.new A' hn) ⟨locs, X', e', N, K.ext E'⟩)
theorem ow_alen (C : OwnCtx p s m meth c Z a0 tw y0 bytes ml ret) (A : OwnPos p l e R s m args below meth c h0 ws T h ck sk) {a : Addr} {kk : ClassId} {ty : FieldType} {n : Int32} {vs : List Value} {dv : Value} (V : Arv Z h a kk ty n vs dv) (hd : decode bytes pc = .ok (.arraylength, 1)) (hp : pc + 1 = pc') (k : OwnWP p e below s h0 ws Q CK SK T (mkF m pc' Ls (.int n :: S))) : OwnWP p e below s h0 ws Q CK SK T (mkF m pc Ls (.ref a :: S)) := by
  obtain ⟨locs, X, rfl, -⟩ := A; subst hp
  obtain ⟨cl, Ar, -, S1, N1, -, -⟩ := V
  refine ow_st (fun t k => X.arraylength C.1 Ar.1 (State.isArrayOf_alike C.2.1.alike Ar.2.1) (g := mkF m pc Ls (.ref a :: S)) rfl rfl (hb C.2.2.2.1 hd) t k) ?_
  rw [len_of S1 N1]; exact k
theorem ow_iaload (C : OwnCtx p s m meth c Z a0 tw y0 bytes ml ret) (A : OwnPos p l e R s m args below meth c h0 ws T h ck sk) {a : Addr} {kk : ClassId} {n j : Int32} {vs : List Value} {dv v : Value} (V : Arv Z h a kk .int n vs dv) (hj : ¬ j < 0 ∧ j < n) (hv : vs.getD j.toNatClampNeg dv = v) (hd : decode bytes pc = .ok (.iaload, 1)) (hp : pc + 1 = pc') (k : OwnWP p e below s h0 ws Q CK SK T (mkF m pc' Ls (v :: S))) : OwnWP p e below s h0 ws Q CK SK T (mkF m pc Ls (.int j :: .ref a :: S)) := by
  obtain ⟨locs, X, rfl, -⟩ := A; subst hp
  obtain ⟨cl, Ar, -, S1, N1, H1, -⟩ := V
  have hin := inb_of S1 hj
  exact ow_st (fun t k => X.iaload C.1 (j := j) (v := v) Ar.1 (State.isArrayOf_alike C.2.1.alike Ar.2.1) Ar.2.2 hin (H1.at hin hv) (g := mkF m pc Ls (.int j :: .ref a :: S)) rfl rfl (hb C.2.2.2.1 hd) t k) k
theorem ow_laload (C : OwnCtx p s m meth c Z a0 tw y0 bytes ml ret) (A : OwnPos p l e R s m args below meth c h0 ws T h ck sk) {a : Addr} {kk : ClassId} {n j : Int32} {vs : List Value} {dv v : Value} (V : Arv Z h a kk .long n vs dv) (hj : ¬ j < 0 ∧ j < n) (hv : vs.getD j.toNatClampNeg dv = v) (hd : decode bytes pc = .ok (.laload, 1)) (hp : pc + 1 = pc') (k : OwnWP p e below s h0 ws Q CK SK T (mkF m pc' Ls (v :: S))) : OwnWP p e below s h0 ws Q CK SK T (mkF m pc Ls (.int j :: .ref a :: S)) := by
  obtain ⟨locs, X, rfl, -⟩ := A; subst hp
  obtain ⟨cl, Ar, -, S1, N1, H1, -⟩ := V
  have hin := inb_of S1 hj
  exact ow_st (fun t k => X.laload C.1 (j := j) (v := v) Ar.1 (State.isArrayOf_alike C.2.1.alike Ar.2.1) Ar.2.2 hin (H1.at hin hv) (g := mkF m pc Ls (.int j :: .ref a :: S)) rfl rfl (hb C.2.2.2.1 hd) t k) k
theorem ow_baload (C : OwnCtx p s m meth c Z a0 tw y0 bytes ml ret) (A : OwnPos p l e R s m args below meth c h0 ws T h ck sk) {a : Addr} {kk : ClassId} {n j : Int32} {vs : List Value} {dv v : Value} (V : Arv Z h a kk .byte n vs dv) (hj : ¬ j < 0 ∧ j < n) (hv : vs.getD j.toNatClampNeg dv = v) (hd : decode bytes pc = .ok (.baload, 1)) (hp : pc + 1 = pc') (k : OwnWP p e below s h0 ws Q CK SK T (mkF m pc' Ls (v :: S))) : OwnWP p e below s h0 ws Q CK SK T (mkF m pc Ls (.int j :: .ref a :: S)) := by
  obtain ⟨locs, X, rfl, -⟩ := A; subst hp
  obtain ⟨cl, Ar, -, S1, N1, H1, -⟩ := V
  have hin := inb_of S1 hj
  exact ow_st (fun t k => X.baloadBytes C.1 (j := j) (v := v) Ar.1 (State.isArrayOf_alike C.2.1.alike Ar.2.1) Ar.2.2 hin (H1.at hin hv) (g := mkF m pc Ls (.int j :: .ref a :: S)) rfl rfl (hb C.2.2.2.1 hd) t k) k
theorem ow_iastore (C : OwnCtx p s m meth c Z a0 tw y0 bytes ml ret) (A : OwnPos p l e R s m args below meth c h0 ws T h ck sk) {a : Addr} {kk : ClassId} {n j : Int32} {x : Int32} {vs : List Value} {dv : Value} {i : Nat} (V : Arv Z h a kk .int n vs dv) (hj : ¬ j < 0 ∧ j < n) (hi : j.toNatClampNeg = i) (hl : i < vs.length) (q : a ∈ ws ∨ h0.size ≤ a) (hd : decode bytes pc = .ok (.iastore, 1)) (hp : pc + 1 = pc')
    (k : ∀ T' h', Wr h h' a j.toNatClampNeg (.int x) → Arv Z h' a kk .int n (vs.set i (.int x)) dv → OwnPos p l e R s m args below meth c h0 ws T' h' ck sk → OwnWP p e below s h0 ws Q CK SK T' (mkF m pc' Ls S)) : OwnWP p e below s h0 ws Q CK SK T (mkF m pc Ls (.int x :: .int j :: .ref a :: S)) := by
  obtain ⟨locs, X, e1, N, K⟩ := A; subst hp
  obtain ⟨cl, Ar, q1, S1, N1, H1, G1⟩ := V
  have hin := inb_of S1 hj
  obtain ⟨T', h', X', e', W', st⟩ := stI X C.1 C.2.1 e1 Ar (j := j) hin (g := mkF m pc Ls (.int x :: .int j :: .ref a :: S)) rfl rfl (hb C.2.2.2.1 hd)
  exact ow_st st (k T' h' W' (Arv.set Ar q1 S1 N1 H1 G1 rfl W' i hi hl) ⟨_, X', e', fun y hy => (List.mem_append.mp hy).elim (N y) fun z => by cases List.mem_singleton.mp z; exact q, K.wr W' q⟩)
theorem ow_lastore (C : OwnCtx p s m meth c Z a0 tw y0 bytes ml ret) (A : OwnPos p l e R s m args below meth c h0 ws T h ck sk) {a : Addr} {kk : ClassId} {n j : Int32} {x : Int64} {vs : List Value} {dv : Value} {i : Nat} (V : Arv Z h a kk .long n vs dv) (hj : ¬ j < 0 ∧ j < n) (hi : j.toNatClampNeg = i) (hl : i < vs.length) (q : a ∈ ws ∨ h0.size ≤ a) (hd : decode bytes pc = .ok (.lastore, 1)) (hp : pc + 1 = pc')
    (k : ∀ T' h', Wr h h' a j.toNatClampNeg (.long x) → Arv Z h' a kk .long n (vs.set i (.long x)) dv → OwnPos p l e R s m args below meth c h0 ws T' h' ck sk → OwnWP p e below s h0 ws Q CK SK T' (mkF m pc' Ls S)) : OwnWP p e below s h0 ws Q CK SK T (mkF m pc Ls (.long x :: .int j :: .ref a :: S)) := by
  obtain ⟨locs, X, e1, N, K⟩ := A; subst hp
  obtain ⟨cl, Ar, q1, S1, N1, H1, G1⟩ := V
  have hin := inb_of S1 hj
  obtain ⟨T', h', X', e', W', st⟩ := stJ X C.1 C.2.1 e1 Ar (j := j) hin (g := mkF m pc Ls (.long x :: .int j :: .ref a :: S)) rfl rfl (hb C.2.2.2.1 hd)
  exact ow_st st (k T' h' W' (Arv.set Ar q1 S1 N1 H1 G1 rfl W' i hi hl) ⟨_, X', e', fun y hy => (List.mem_append.mp hy).elim (N y) fun z => by cases List.mem_singleton.mp z; exact q, K.wr W' q⟩)
theorem ow_bastore (C : OwnCtx p s m meth c Z a0 tw y0 bytes ml ret) (A : OwnPos p l e R s m args below meth c h0 ws T h ck sk) {a : Addr} {kk : ClassId} {n j : Int32} {x : Int32} {vs : List Value} {dv : Value} {i : Nat} (V : Arv Z h a kk .byte n vs dv) (hj : ¬ j < 0 ∧ j < n) (hi : j.toNatClampNeg = i) (hl : i < vs.length) (q : a ∈ ws ∨ h0.size ≤ a) (hd : decode bytes pc = .ok (.bastore, 1)) (hp : pc + 1 = pc')
    (k : ∀ T' h', Wr h h' a j.toNatClampNeg (.int x.toInt8.toInt32) → Arv Z h' a kk .byte n (vs.set i (.int x.toInt8.toInt32)) dv → OwnPos p l e R s m args below meth c h0 ws T' h' ck sk → OwnWP p e below s h0 ws Q CK SK T' (mkF m pc' Ls S)) : OwnWP p e below s h0 ws Q CK SK T (mkF m pc Ls (.int x :: .int j :: .ref a :: S)) := by
  obtain ⟨locs, X, e1, N, K⟩ := A; subst hp
  obtain ⟨cl, Ar, q1, S1, N1, H1, G1⟩ := V
  have hin := inb_of S1 hj
  obtain ⟨T', h', X', e', W', st⟩ := stB X C.1 C.2.1 e1 Ar (j := j) hin (g := mkF m pc Ls (.int x :: .int j :: .ref a :: S)) rfl rfl (hb C.2.2.2.1 hd)
  exact ow_st st (k T' h' W' (Arv.set Ar q1 S1 N1 H1 G1 (fits_nar_byte _) W' i hi hl) ⟨_, X', e', fun y hy => (List.mem_append.mp hy).elim (N y) fun z => by cases List.mem_singleton.mp z; exact q, K.wr W' q⟩)
theorem ow_initO (C : OwnCtx p s m meth c Z a0 tw y0 bytes ml ret) (A : OwnPos p l e R s m args below meth c h0 ws T h ck sk) {i W : Nat} {a : Addr} (w1 : Jvm.Cond.methodLink y0.cls i Lib.objectInit ∈ tw) (w2 : Jvm.Cond.instanceMethod Lib.objectInit ∈ tw) (w3 : Jvm.Cond.code Lib.objectInit ⟨#[0xb1]⟩ 1 none ∈ tw) (hsz : Ls.size = ml) (hd : decode bytes pc = .ok (.invokespecial i, 3)) (hp : pc + 3 = pc') (hf : 1 ≤ R.frames) (hW : 2 * 0 + (S.map fun v => v.category).sum ≤ W) (hl : W + 12 ≤ R.locals) (k : ∀ T', OwnPos p l e R s m args below meth c h0 ws T' h ck sk → OwnWP p e below s h0 ws Q CK SK T' (mkF m pc' Ls S)) : OwnWP p e below s h0 ws Q CK SK T (mkF m pc Ls (.ref a :: S)) := by
  obtain ⟨locs, X, e1, N, K⟩ := A; subst hp
  obtain ⟨T', X', e', st⟩ := initO X C.1 C.2.1 C.2.2.2.2.2.1 (C.2.2.1 _ w1) (C.2.2.1 _ w2) (C.2.2.1 _ w3) e1 (g := mkF m pc Ls (.ref a :: S)) rfl (hsz.trans C.2.2.2.2.1.symm) rfl (hb C.2.2.2.1 hd) hf (W := W) hW hl
  exact ow_st st (k T' ⟨locs, X', e', N, K⟩)
theorem ow_callS (C : OwnCtx p s m meth c Z a0 tw y0 bytes ml ret) (A : OwnPos p l e R s m args below meth c h0 ws T h ck sk) {rm : Room} {cb : ByteArray} {cm : Nat} {cr : Option FieldType} {ws' : List Addr} {Q' : Option Value → Heap → Prop} {y : MethodName} {i W ck' sk' : Nat} {argsL : List Value} (hM : OwnCtr l Z y cb cm cr rm argsL.toArray h ws' Q' []) (w1 : Jvm.Cond.methodLink y0.cls i y ∈ tw) (w2 : Jvm.Cond.static y ∈ tw) (w3 : Jvm.Cond.initialized y.cls ∈ tw) (w4 : Jvm.Cond.code y cb cm cr ∈ tw) (hy : y.cls ≠ "java/lang/invoke/MethodHandle" ∧ y.cls ≠ "java/lang/invoke/VarHandle") (hq : ∀ x ∈ ws', x ∈ ws ∨ h0.size ≤ x) (hfr : rm.frames + 1 ≤ R.frames) (hlo : W + (cm + 11) + rm.locals ≤ R.locals) (hck : ck + rm.cells = ck') (hsk : sk + rm.slots = sk') (hc : ck' ≤ R.cells) (hs : sk' ≤ R.slots) (hsz : Ls.size = ml) (hlen : ∀ sig, parseMethodDescriptor y.desc = some sig → argsL.length = sig.parameters.length) {st0 : List Value} (hst : st0 = argsL.reverse ++ S) (hW : 2 * 0 + (S.map fun v => v.category).sum ≤ W) (hd : decode bytes pc = .ok (.invokestatic i, 3)) (hp : pc + 3 = pc') (k : ∀ T' v, Keep h T'.heap ws' → Q' v T'.heap → OwnPos p l e R s m args below meth c h0 ws T' T'.heap ck' sk' → OwnWP p e below s h0 ws Q CK SK T' (mkF m pc' Ls (v.toList ++ S))) : OwnWP p e below s h0 ws Q CK SK T (mkF m pc Ls st0) := by
  obtain ⟨locs, X, e1, N, K⟩ := A; subst hp hck hsk hst
  obtain ⟨v, _, ⟨T', L', k', n'⟩, -, X', ⟨Lc, ⟨hN, hKe, hQ⟩, hl, hc', hs'⟩, st⟩ := Jvm.LawKit.callS X C.1 (y := y) C.2.2.2.2.2.1 (mvT C.2.1 (C.2.2.1 _ w1)) (mvT C.2.1 (C.2.2.1 _ w2)) (mvT C.2.1 (C.2.2.1 _ w3)) (mvT C.2.1 (C.2.2.1 _ w4)) hy (backOf (W := W) (Q := fun v hh L => ((∀ y ∈ L, y.base ∈ ws' ∨ h.size ≤ y.base) ∧ Keep h hh ws' ∧ Q' v hh)) hM C.2.1 (C.2.2.1 _ w4) (C.2.2.1 _ w3) hfr hlo) (g := mkF m pc Ls (argsL.reverse ++ S)) rfl (hsz.trans C.2.2.2.2.1.symm) (argsL := argsL) (rest := S) hlen rfl hW (hb C.2.2.2.1 hd) (fun _ _ => ⟨rfl, e1, hc, hs⟩)
  dsimp only [Pt.U, Pt.locs, Pt.cells, Pt.slots] at X' hl hc' hs' st hN hKe hQ
  subst hl hc' hs'
  exact ow_st st (k T' v hKe hQ ⟨_, X', rfl, fun y hy => (List.mem_append.mp hy).elim (N y) fun z => (hN y z).elim (fun u => hq _ u) fun u => Or.inr (Nat.le_trans K.1 u), K.trans hKe hq⟩)
theorem ow_callI (C : OwnCtx p s m meth c Z a0 tw y0 bytes ml ret) (A : OwnPos p l e R s m args below meth c h0 ws T h ck sk) {rm : Room} {cb : ByteArray} {cm : Nat} {cr : Option FieldType} {ws' : List Addr} {Q' : Option Value → Heap → Prop} {y : MethodName} {i W ck' sk' : Nat} {argsL : List Value} {a : Addr} (hM : OwnCtr l Z y cb cm none rm (.ref a :: argsL).toArray h ws' Q' []) (hy1 : y.name = "<init>") (w1 : Jvm.Cond.methodLink y0.cls i y ∈ tw) (w2 : Jvm.Cond.instanceMethod y ∈ tw) (w3 : Jvm.Cond.initialized y.cls ∈ tw) (w4 : Jvm.Cond.code y cb cm none ∈ tw) (hy : y.cls ≠ "java/lang/invoke/MethodHandle" ∧ y.cls ≠ "java/lang/invoke/VarHandle") (hq : ∀ x ∈ ws', x ∈ ws ∨ h0.size ≤ x) (hfr : rm.frames + 1 ≤ R.frames) (hlo : W + (cm + 11) + rm.locals ≤ R.locals) (hck : ck + rm.cells = ck') (hsk : sk + rm.slots = sk') (hc : ck' ≤ R.cells) (hs : sk' ≤ R.slots) (hsz : Ls.size = ml) (hlen : ∀ sig, parseMethodDescriptor y.desc = some sig → argsL.length = sig.parameters.length) {st0 : List Value} (hst : st0 = argsL.reverse ++ .ref a :: S) (hW : 2 * 0 + (S.map fun v => v.category).sum ≤ W) (hd : decode bytes pc = .ok (.invokespecial i, 3)) (hp : pc + 3 = pc') (k : ∀ T' v, Keep h T'.heap ws' → Q' v T'.heap → OwnPos p l e R s m args below meth c h0 ws T' T'.heap ck' sk' → OwnWP p e below s h0 ws Q CK SK T' (mkF m pc' Ls (v.toList ++ S))) : OwnWP p e below s h0 ws Q CK SK T (mkF m pc Ls st0) := by
  obtain ⟨locs, X, e1, N, K⟩ := A; subst hp hck hsk hst
  obtain ⟨v, _, ⟨T', L', k', n'⟩, -, X', ⟨Lc, ⟨hN, hKe, hQ⟩, hl, hc', hs'⟩, st⟩ := X.specialBack C.1 (y := y) hy1 C.2.2.2.2.2.1 (mvT C.2.1 (C.2.2.1 _ w1)) (mvT C.2.1 (C.2.2.1 _ w2)) (mvT C.2.1 (C.2.2.1 _ w4)) hy (backOf (W := W) (Q := fun v hh L => ((∀ y ∈ L, y.base ∈ ws' ∨ h.size ≤ y.base) ∧ Keep h hh ws' ∧ Q' v hh)) hM C.2.1 (C.2.2.1 _ w4) (C.2.2.1 _ w3) hfr hlo) (g := mkF m pc Ls (argsL.reverse ++ .ref a :: S)) rfl (hsz.trans C.2.2.2.2.1.symm) (Steps.refl _) (a := a) (argsL := argsL) (rest := S) hlen rfl hW (hb C.2.2.2.1 hd) (fun _ _ => ⟨rfl, e1, hc, hs⟩)
  dsimp only [Pt.U, Pt.locs, Pt.cells, Pt.slots] at X' hl hc' hs' st hN hKe hQ
  subst hl hc' hs'
  exact ow_stT st (k T' v hKe hQ ⟨_, X', rfl, fun y hy => (List.mem_append.mp hy).elim (N y) fun z => (hN y z).elim (fun u => hq _ u) fun u => Or.inr (Nat.le_trans K.1 u), K.trans hKe hq⟩)
theorem ow_callV (C : OwnCtx p s m meth c Z a0 tw y0 bytes ml ret) (A : OwnPos p l e R s m args below meth c h0 ws T h ck sk) {rm : Room} {cb : ByteArray} {cm : Nat} {cr : Option FieldType} {ws' : List Addr} {Q' : Option Value → Heap → Prop} {y : MethodName} {i W ck' sk' : Nat} {argsL : List Value} {z : MethodName} {D : String} {a : Addr} (E : Exa Z h a D) (hM : OwnCtr l Z z cb cm cr rm (.ref a :: argsL).toArray h ws' Q' []) (w1 : Jvm.Cond.methodLink y0.cls i y ∈ tw) (w5 : Jvm.Cond.declares y ∈ tw) (hnf : ∀ s : State, ∀ args : Array Value, Z.Warmed39 s.vm → NotFace s y) (w6 : Jvm.Cond.selects D y z ∈ tw) (w2 : Jvm.Cond.instanceMethod z ∈ tw) (w3 : Jvm.Cond.initialized z.cls ∈ tw) (w4 : Jvm.Cond.code z cb cm cr ∈ tw) (hy : y.cls ≠ "java/lang/invoke/MethodHandle" ∧ y.cls ≠ "java/lang/invoke/VarHandle") (hq : ∀ x ∈ ws', x ∈ ws ∨ h0.size ≤ x) (hfr : rm.frames + 1 ≤ R.frames) (hlo : W + (cm + 11) + rm.locals ≤ R.locals) (hck : ck + rm.cells = ck') (hsk : sk + rm.slots = sk') (hc : ck' ≤ R.cells) (hs : sk' ≤ R.slots) (hsz : Ls.size = ml) (hlen : ∀ sig, parseMethodDescriptor y.desc = some sig → argsL.length = sig.parameters.length) {st0 : List Value} (hst : st0 = argsL.reverse ++ .ref a :: S) (hW : 2 * 0 + (S.map fun v => v.category).sum ≤ W) (hd : decode bytes pc = .ok (.invokevirtual i, 3)) (hp : pc + 3 = pc') (k : ∀ T' v, Keep h T'.heap ws' → Q' v T'.heap → OwnPos p l e R s m args below meth c h0 ws T' T'.heap ck' sk' → OwnWP p e below s h0 ws Q CK SK T' (mkF m pc' Ls (v.toList ++ S))) : OwnWP p e below s h0 ws Q CK SK T (mkF m pc Ls st0) := by
  obtain ⟨locs, X, e1, N, K⟩ := A; subst hp hck hsk hst
  obtain ⟨cq, kq, qa, qb, qc⟩ := isOf C.2.1 e1 E
  obtain ⟨v, _, ⟨T', L', k', n'⟩, -, X', ⟨Lc, ⟨hN, hKe, hQ⟩, hl, hc', hs'⟩, st⟩ := X.virtualBack C.1 (y := y) (z := z) C.2.2.2.2.2.1 (mvT C.2.1 (C.2.2.1 _ w1)) (mvT C.2.1 (C.2.2.1 _ w5)) (hnf s #[] C.2.1) (mvT C.2.1 (C.2.2.1 _ w6)) (mvT C.2.1 (C.2.2.1 _ w2)) hy (backOf (W := W) (Q := fun v hh L => ((∀ y ∈ L, y.base ∈ ws' ∨ h.size ≤ y.base) ∧ Keep h hh ws' ∧ Q' v hh)) hM C.2.1 (C.2.2.1 _ w4) (C.2.2.1 _ w3) hfr hlo) qa qc (g := mkF m pc Ls (argsL.reverse ++ .ref a :: S)) rfl (hsz.trans C.2.2.2.2.1.symm) (Steps.refl _) (argsL := argsL) (rest := S) hlen rfl hW (hb C.2.2.2.1 hd) (fun _ _ => ⟨rfl, e1, hc, hs⟩)
  dsimp only [Pt.U, Pt.locs, Pt.cells, Pt.slots] at X' hl hc' hs' st hN hKe hQ
  subst hl hc' hs'
  exact ow_stT st (k T' v hKe hQ ⟨_, X', rfl, fun y hy => (List.mem_append.mp hy).elim (N y) fun z => (hN y z).elim (fun u => hq _ u) fun u => Or.inr (Nat.le_trans K.1 u), K.trans hKe hq⟩)
theorem ow_selP {y : MethodName} {n : Nat} (hy : y.cls ≠ "java/lang/invoke/MethodHandle" ∧ y.cls ≠ "java/lang/invoke/VarHandle") (hins : (Jvm.Cond.instantiable y.cls n).before args s = true) (hpriv : (Jvm.Cond.privateMethod y).before args s = true) (hinst : (Jvm.Cond.instanceMethod y).before args s = true) :
    (Jvm.Cond.selects y.cls y y).before args s = true := by
  obtain ⟨c, k, hc, hk, -, hniab, -, -⟩ := Cond.instantiable_spec hins
  have hni : k.isInterface = false := (Bool.or_eq_false_iff.mp hniab).1
  obtain ⟨mk, methM, hnamed, hmethM, -, -⟩ := Cond.instanceMethod_spec hinst
  have hfound : s.methodFound? y.cls y.name y.desc = some mk := State.methodFound?_of_named hnamed hy
  have hcls : mk.cls = c := Option.some.inj ((findClass_of_methodNamed hnamed).symm.trans hc)
  have hsel : selectMethod {} s.vm c mk = .method mk := selectMethod_private hmethM (Cond.privateMethod_at hpriv mk methM hnamed hmethM)
  simp only [Cond.before, Cond.holds, Cond.value, hc, hfound, hnamed, hsel, hcls, hk]
  simp; exact hni
theorem ow_callP (C : OwnCtx p s m meth c Z a0 tw y0 bytes ml ret) (A : OwnPos p l e R s m args below meth c h0 ws T h ck sk) {rm : Room} {cb : ByteArray} {cm : Nat} {cr : Option FieldType} {ws' : List Addr} {Q' : Option Value → Heap → Prop} {y : MethodName} {i W ck' sk' : Nat} {argsL : List Value} {D : String} {a : Addr} (E : Exa Z h a D) (hM : OwnCtr l Z y cb cm cr rm (.ref a :: argsL).toArray h ws' Q' []) (w1 : Jvm.Cond.methodLink y0.cls i y ∈ tw) (w5 : Jvm.Cond.privateMethod y ∈ tw) {ni : Nat} (w6 : Jvm.Cond.instantiable y.cls ni ∈ tw) (w2 : Jvm.Cond.instanceMethod y ∈ tw) (w3 : Jvm.Cond.initialized y.cls ∈ tw) (w4 : Jvm.Cond.code y cb cm cr ∈ tw) (hy : y.cls ≠ "java/lang/invoke/MethodHandle" ∧ y.cls ≠ "java/lang/invoke/VarHandle") (hq : ∀ x ∈ ws', x ∈ ws ∨ h0.size ≤ x) (hfr : rm.frames + 1 ≤ R.frames) (hlo : W + (cm + 11) + rm.locals ≤ R.locals) (hck : ck + rm.cells = ck') (hsk : sk + rm.slots = sk') (hc : ck' ≤ R.cells) (hs : sk' ≤ R.slots) (hsz : Ls.size = ml) (hlen : ∀ sig, parseMethodDescriptor y.desc = some sig → argsL.length = sig.parameters.length) {st0 : List Value} (hst : st0 = argsL.reverse ++ .ref a :: S) (hW : 2 * 0 + (S.map fun v => v.category).sum ≤ W) (hd : decode bytes pc = .ok (.invokevirtual i, 3)) (hp : pc + 3 = pc') (k : ∀ T' v, Keep h T'.heap ws' → Q' v T'.heap → OwnPos p l e R s m args below meth c h0 ws T' T'.heap ck' sk' → OwnWP p e below s h0 ws Q CK SK T' (mkF m pc' Ls (v.toList ++ S))) : OwnWP p e below s h0 ws Q CK SK T (mkF m pc Ls st0) := by
  obtain ⟨locs, X, e1, N, K⟩ := A; subst hp hck hsk hst
  obtain ⟨cq, qa, qb⟩ := E.cell
  obtain ⟨v, _, ⟨T', L', k', n'⟩, -, X', ⟨Lc, ⟨hN, hKe, hQ⟩, hl, hc', hs'⟩, st⟩ := X.privateBack C.1 (y := y) C.2.2.2.2.2.1 (mvT C.2.1 (C.2.2.1 _ w1)) (mvT C.2.1 (C.2.2.1 _ w2)) (ow_selP hy (mvT C.2.1 (C.2.2.1 _ w6)) (mvP C.2.1 (C.2.2.1 _ w5)) (mvT C.2.1 (C.2.2.1 _ w2))) (Cond.privateMethod_at (mvP C.2.1 (C.2.2.1 _ w5) (args := #[]))) (mvT C.2.1 (C.2.2.1 _ w4)) hy (backOf (W := W) (Q := fun v hh L => ((∀ y ∈ L, y.base ∈ ws' ∨ h.size ≤ y.base) ∧ Keep h hh ws' ∧ Q' v hh)) hM C.2.1 (C.2.2.1 _ w4) (C.2.2.1 _ w3) hfr hlo) (g := mkF m pc Ls (argsL.reverse ++ .ref a :: S)) rfl (hsz.trans C.2.2.2.2.1.symm) (Steps.refl _) (a := a) (by rw [e1]; exact qa) qb (argsL := argsL) (rest := S) hlen rfl hW (hb C.2.2.2.1 hd) (fun _ _ => ⟨rfl, e1, hc, hs⟩)
  dsimp only [Pt.U, Pt.locs, Pt.cells, Pt.slots] at X' hl hc' hs' st hN hKe hQ
  subst hl hc' hs'
  exact ow_stT st (k T' v hKe hQ ⟨_, X', rfl, fun y hy => (List.mem_append.mp hy).elim (N y) fun z => (hN y z).elim (fun u => hq _ u) fun u => Or.inr (Nat.le_trans K.1 u), K.trans hKe hq⟩)
theorem ow_nf {y : MethodName} {D : String} (hw : ∀ d ∈ tw, d.before a0 Z = true) (w6 : Jvm.Cond.selects D y y ∈ tw) : ∀ s : State, ∀ args : Array Value, Z.Warmed39 s.vm → NotFace s y := fun s args hZ => notFace_of_selects (args := args) (mvT hZ (hw _ w6))
end Own
end Jvm.RoadKit
namespace Jvm.Pilot.@@N@@
open Jvm Jvm.ClassFile Sem Op Lib Jvm.Free Jvm.Stand Jvm.LawKit Jvm.RoadKit Bundle Jvm.Pilot.@@N@@.Jvm.D
theorem tw_0 : (Jvm.Cond.methodLink x.cls (7 : Nat) ({ cls := site_9.cls, name := "isDigit", desc := "(I)Z" } : Jvm.MethodName)) ∈ tables_1 := List.mem_of_getElem? (i := 0) rfl
theorem tw_1 : (Jvm.Cond.static ({ cls := site_9.cls, name := "isDigit", desc := "(I)Z" } : Jvm.MethodName)) ∈ tables_1 := List.mem_of_getElem? (i := 1) rfl
theorem tw_2 : (Jvm.Cond.initialized site_9.cls) ∈ tables_1 := List.mem_of_getElem? (i := 2) rfl
theorem tw_3 : (Jvm.Cond.code ({ cls := site_9.cls, name := "isDigit", desc := "(I)Z" } : Jvm.MethodName) prog_148_method_4_code (1 : Nat) (Option.some Jvm.ClassFile.FieldType.boolean)) ∈ tables_1 := List.mem_of_getElem? (i := 3) rfl
theorem tw_4 : (Jvm.Cond.methodLink x.cls (13 : Nat) ({ cls := x.cls, name := "ref", desc := "(I)Z" } : Jvm.MethodName)) ∈ tables_1 := List.mem_of_getElem? (i := 4) rfl
theorem tw_5 : (Jvm.Cond.static ({ cls := x.cls, name := "ref", desc := "(I)Z" } : Jvm.MethodName)) ∈ tables_1 := List.mem_of_getElem? (i := 5) rfl
theorem tw_6 : (Jvm.Cond.initialized x.cls) ∈ tables_1 := List.mem_of_getElem? (i := 6) rfl
theorem tw_7 : (Jvm.Cond.code ({ cls := x.cls, name := "ref", desc := "(I)Z" } : Jvm.MethodName) method_2_code (1 : Nat) (Option.some Jvm.ClassFile.FieldType.boolean)) ∈ tables_1 := List.mem_of_getElem? (i := 7) rfl
theorem pd_0 : parseMethodDescriptor "(I)Z" = some ⟨[.int], some .boolean⟩ := by decide +kernel
theorem d1_0 : decode prog_148_method_4_code 0 = .ok (.iload_n 0, 1) := by decide +kernel
theorem d1_1 : decode prog_148_method_4_code 1 = .ok (.bipush 48, 2) := by decide +kernel
theorem d1_3 : decode prog_148_method_4_code 3 = .ok (.if_icmp .lt 13, 3) := by decide +kernel
theorem d1_6 : decode prog_148_method_4_code 6 = .ok (.iload_n 0, 1) := by decide +kernel
theorem d1_7 : decode prog_148_method_4_code 7 = .ok (.bipush 57, 2) := by decide +kernel
theorem d1_9 : decode prog_148_method_4_code 9 = .ok (.if_icmp .gt 7, 3) := by decide +kernel
theorem d1_12 : decode prog_148_method_4_code 12 = .ok (.iconst 1, 1) := by decide +kernel
theorem d1_13 : decode prog_148_method_4_code 13 = .ok (.goto 4, 3) := by decide +kernel
theorem d1_16 : decode prog_148_method_4_code 16 = .ok (.iconst 0, 1) := by decide +kernel
theorem d1_17 : decode prog_148_method_4_code 17 = .ok (.ireturn, 1) := by decide +kernel
theorem d2_0 : decode method_2_code 0 = .ok (.iload_n 0, 1) := by decide +kernel
theorem d2_1 : decode method_2_code 1 = .ok (.bipush 48, 2) := by decide +kernel
theorem d2_3 : decode method_2_code 3 = .ok (.if_icmp .eq 57, 3) := by decide +kernel
theorem d2_6 : decode method_2_code 6 = .ok (.iload_n 0, 1) := by decide +kernel
theorem d2_7 : decode method_2_code 7 = .ok (.bipush 49, 2) := by decide +kernel
theorem d2_9 : decode method_2_code 9 = .ok (.if_icmp .eq 51, 3) := by decide +kernel
theorem d2_12 : decode method_2_code 12 = .ok (.iload_n 0, 1) := by decide +kernel
theorem d2_13 : decode method_2_code 13 = .ok (.bipush 50, 2) := by decide +kernel
theorem d2_15 : decode method_2_code 15 = .ok (.if_icmp .eq 45, 3) := by decide +kernel
theorem d2_18 : decode method_2_code 18 = .ok (.iload_n 0, 1) := by decide +kernel
theorem d2_19 : decode method_2_code 19 = .ok (.bipush 51, 2) := by decide +kernel
theorem d2_21 : decode method_2_code 21 = .ok (.if_icmp .eq 39, 3) := by decide +kernel
theorem d2_24 : decode method_2_code 24 = .ok (.iload_n 0, 1) := by decide +kernel
theorem d2_25 : decode method_2_code 25 = .ok (.bipush 52, 2) := by decide +kernel
theorem d2_27 : decode method_2_code 27 = .ok (.if_icmp .eq 33, 3) := by decide +kernel
theorem d2_30 : decode method_2_code 30 = .ok (.iload_n 0, 1) := by decide +kernel
theorem d2_31 : decode method_2_code 31 = .ok (.bipush 53, 2) := by decide +kernel
theorem d2_33 : decode method_2_code 33 = .ok (.if_icmp .eq 27, 3) := by decide +kernel
theorem d2_36 : decode method_2_code 36 = .ok (.iload_n 0, 1) := by decide +kernel
theorem d2_37 : decode method_2_code 37 = .ok (.bipush 54, 2) := by decide +kernel
theorem d2_39 : decode method_2_code 39 = .ok (.if_icmp .eq 21, 3) := by decide +kernel
theorem d2_42 : decode method_2_code 42 = .ok (.iload_n 0, 1) := by decide +kernel
theorem d2_43 : decode method_2_code 43 = .ok (.bipush 55, 2) := by decide +kernel
theorem d2_45 : decode method_2_code 45 = .ok (.if_icmp .eq 15, 3) := by decide +kernel
theorem d2_48 : decode method_2_code 48 = .ok (.iload_n 0, 1) := by decide +kernel
theorem d2_49 : decode method_2_code 49 = .ok (.bipush 56, 2) := by decide +kernel
theorem d2_51 : decode method_2_code 51 = .ok (.if_icmp .eq 9, 3) := by decide +kernel
theorem d2_54 : decode method_2_code 54 = .ok (.iload_n 0, 1) := by decide +kernel
theorem d2_55 : decode method_2_code 55 = .ok (.bipush 57, 2) := by decide +kernel
theorem d2_57 : decode method_2_code 57 = .ok (.if_icmp .ne 7, 3) := by decide +kernel
theorem d2_60 : decode method_2_code 60 = .ok (.iconst 1, 1) := by decide +kernel
theorem d2_61 : decode method_2_code 61 = .ok (.goto 4, 3) := by decide +kernel
theorem d2_64 : decode method_2_code 64 = .ok (.iconst 0, 1) := by decide +kernel
theorem d2_65 : decode method_2_code 65 = .ok (.ireturn, 1) := by decide +kernel
theorem pn_0 : plainFor x = true := plainFor_of_name (by first | (simp [plainName, overriddenIn]; done) | decide +kernel)
theorem pn_1 : plainFor (⟨site_9.cls, "isDigit", "(I)Z"⟩ : MethodName) = true := plainFor_of_name (by first | (simp [plainName, overriddenIn]; done) | decide +kernel)
theorem pn_2 : plainFor (⟨x.cls, "ref", "(I)Z"⟩ : MethodName) = true := plainFor_of_name (by first | (simp [plainName, overriddenIn]; done) | decide +kernel)
def own_dig (c : Int32) : Int32 := if ¬ (c < 48) ∧ ¬ (57 < c) then 1 else 0
def own_ref (c : Int32) : Int32 := if c = 48 ∨ c = 49 ∨ c = 50 ∨ c = 51 ∨ c = 52 ∨ c = 53 ∨ c = 54 ∨ c = 55 ∨ c = 56 ∨ c = 57 then 1 else 0
theorem own_same (c : Int32) : own_dig c = own_ref c := by
  have k : ∀ d : Int32, c = d ↔ c.toInt = d.toInt := fun d => Int32.toInt_inj.symm
  unfold own_dig own_ref
  simp only [k, Int32.lt_iff_toInt_lt]
  have k0 : (48 : Int32).toInt = 48 := rfl
  have k1 : (49 : Int32).toInt = 49 := rfl
  have k2 : (50 : Int32).toInt = 50 := rfl
  have k3 : (51 : Int32).toInt = 51 := rfl
  have k4 : (52 : Int32).toInt = 52 := rfl
  have k5 : (53 : Int32).toInt = 53 := rfl
  have k6 : (54 : Int32).toInt = 54 := rfl
  have k7 : (55 : Int32).toInt = 55 := rfl
  have k8 : (56 : Int32).toInt = 56 := rfl
  have k9 : (57 : Int32).toInt = 57 := rfl
  simp only [k0, k1, k2, k3, k4, k5, k6, k7, k8, k9]
  split <;> split <;> first | rfl | omega
def rmz : Room := { frames := 0, cells := 0, slots := 0, locals := 0 }
def Q1 (p1 : Int32) (h0 : Heap) (v : Option Value) (h : Heap) : Prop := v = some (.int (own_dig p1)) ∧ h = h0
def Q2 (p1 : Int32) (h0 : Heap) (v : Option Value) (h : Heap) : Prop := v = some (.int (own_ref p1)) ∧ h = h0
def Q0 (v : Option Value) (h : Heap) : Prop := v = some (.int 1)
set_option maxRecDepth 65536 in
set_option maxHeartbeats 40000000 in
theorem rm1 (l : Launch) (Z : State) (a0 : Array Value) (hw : ∀ d ∈ tables_1, d.before a0 Z = true) (p1 : Int32) (h0 : Heap)  (cs : List Jvm.Cond) :
    OwnCtr l Z (⟨site_9.cls, "isDigit", "(I)Z"⟩ : MethodName) prog_148_method_4_code 1 (some .boolean) rmz #[(.int p1)] h0 [] (Q1 p1 h0) cs := by
  refine ow_ctr pn_1 hw (Ls := #[.val (.int p1)]) (fun m => by first | (simp [entryFrame, mkF, argsToLocals, Value.category]; done) | rfl) ?_
  intro p e s m below meth c T0 C A0
  refine ow_iloadN C A0 d1_0 rfl rfl ?_
  refine ow_bipush C A0 d1_1 (v := 48) rfl rfl ?_
  refine ow_icmp_lt C A0 d1_3 (by decide) (pcY := 16) (by decide) (pcN := 6) rfl (fun hc3 => ?_) (fun hc3 => ?_)
  · skip
    refine ow_iconst C A0 d1_16 (v := 0) rfl rfl ?_
    refine ow_ireturn C A0 (t := .boolean) rfl rfl (by simp) d1_17 (by decide) (by decide) ?_
    exact ⟨by simp [own_dig, hc3], rfl⟩
  · skip
    refine ow_iloadN C A0 d1_6 rfl rfl ?_
    refine ow_bipush C A0 d1_7 (v := 57) rfl rfl ?_
    refine ow_icmp_gt C A0 d1_9 (by decide) (pcY := 16) (by decide) (pcN := 12) rfl (fun hc9 => ?_) (fun hc9 => ?_)
    · skip
      refine ow_iconst C A0 d1_16 (v := 0) rfl rfl ?_
      refine ow_ireturn C A0 (t := .boolean) rfl rfl (by simp) d1_17 (by decide) (by decide) ?_
      exact ⟨by simp [own_dig, hc3, hc9], rfl⟩
    · skip
      refine ow_iconst C A0 d1_12 (v := 1) rfl rfl ?_
      refine ow_goto C A0 d1_13 (by decide) (pc' := 17) (by decide) ?_
      refine ow_ireturn C A0 (t := .boolean) rfl rfl (by simp) d1_17 (by decide) (by decide) ?_
      exact ⟨by simp [own_dig, hc3, hc9], rfl⟩
set_option maxRecDepth 65536 in
set_option maxHeartbeats 40000000 in
theorem rm2 (l : Launch) (Z : State) (a0 : Array Value) (hw : ∀ d ∈ tables_1, d.before a0 Z = true) (p1 : Int32) (h0 : Heap)  (cs : List Jvm.Cond) :
    OwnCtr l Z (⟨x.cls, "ref", "(I)Z"⟩ : MethodName) method_2_code 1 (some .boolean) rmz #[(.int p1)] h0 [] (Q2 p1 h0) cs := by
  refine ow_ctr pn_2 hw (Ls := #[.val (.int p1)]) (fun m => by first | (simp [entryFrame, mkF, argsToLocals, Value.category]; done) | rfl) ?_
  intro p e s m below meth c T0 C A0
  refine ow_iloadN C A0 d2_0 rfl rfl ?_
  refine ow_bipush C A0 d2_1 (v := 48) rfl rfl ?_
  refine ow_icmp_eq C A0 d2_3 (by decide) (pcY := 60) (by decide) (pcN := 6) rfl (fun hc3 => ?_) (fun hc3 => ?_)
  · skip
    refine ow_iconst C A0 d2_60 (v := 1) rfl rfl ?_
    refine ow_goto C A0 d2_61 (by decide) (pc' := 65) (by decide) ?_
    refine ow_ireturn C A0 (t := .boolean) rfl rfl (by simp) d2_65 (by decide) (by decide) ?_
    exact ⟨by simp [own_ref, hc3], rfl⟩
  · skip
    refine ow_iloadN C A0 d2_6 rfl rfl ?_
    refine ow_bipush C A0 d2_7 (v := 49) rfl rfl ?_
    refine ow_icmp_eq C A0 d2_9 (by decide) (pcY := 60) (by decide) (pcN := 12) rfl (fun hc9 => ?_) (fun hc9 => ?_)
    · skip
      refine ow_iconst C A0 d2_60 (v := 1) rfl rfl ?_
      refine ow_goto C A0 d2_61 (by decide) (pc' := 65) (by decide) ?_
      refine ow_ireturn C A0 (t := .boolean) rfl rfl (by simp) d2_65 (by decide) (by decide) ?_
      exact ⟨by simp [own_ref, hc3, hc9], rfl⟩
    · skip
      refine ow_iloadN C A0 d2_12 rfl rfl ?_
      refine ow_bipush C A0 d2_13 (v := 50) rfl rfl ?_
      refine ow_icmp_eq C A0 d2_15 (by decide) (pcY := 60) (by decide) (pcN := 18) rfl (fun hc15 => ?_) (fun hc15 => ?_)
      · skip
        refine ow_iconst C A0 d2_60 (v := 1) rfl rfl ?_
        refine ow_goto C A0 d2_61 (by decide) (pc' := 65) (by decide) ?_
        refine ow_ireturn C A0 (t := .boolean) rfl rfl (by simp) d2_65 (by decide) (by decide) ?_
        exact ⟨by simp [own_ref, hc3, hc9, hc15], rfl⟩
      · skip
        refine ow_iloadN C A0 d2_18 rfl rfl ?_
        refine ow_bipush C A0 d2_19 (v := 51) rfl rfl ?_
        refine ow_icmp_eq C A0 d2_21 (by decide) (pcY := 60) (by decide) (pcN := 24) rfl (fun hc21 => ?_) (fun hc21 => ?_)
        · skip
          refine ow_iconst C A0 d2_60 (v := 1) rfl rfl ?_
          refine ow_goto C A0 d2_61 (by decide) (pc' := 65) (by decide) ?_
          refine ow_ireturn C A0 (t := .boolean) rfl rfl (by simp) d2_65 (by decide) (by decide) ?_
          exact ⟨by simp [own_ref, hc3, hc9, hc15, hc21], rfl⟩
        · skip
          refine ow_iloadN C A0 d2_24 rfl rfl ?_
          refine ow_bipush C A0 d2_25 (v := 52) rfl rfl ?_
          refine ow_icmp_eq C A0 d2_27 (by decide) (pcY := 60) (by decide) (pcN := 30) rfl (fun hc27 => ?_) (fun hc27 => ?_)
          · skip
            refine ow_iconst C A0 d2_60 (v := 1) rfl rfl ?_
            refine ow_goto C A0 d2_61 (by decide) (pc' := 65) (by decide) ?_
            refine ow_ireturn C A0 (t := .boolean) rfl rfl (by simp) d2_65 (by decide) (by decide) ?_
            exact ⟨by simp [own_ref, hc3, hc9, hc15, hc21, hc27], rfl⟩
          · skip
            refine ow_iloadN C A0 d2_30 rfl rfl ?_
            refine ow_bipush C A0 d2_31 (v := 53) rfl rfl ?_
            refine ow_icmp_eq C A0 d2_33 (by decide) (pcY := 60) (by decide) (pcN := 36) rfl (fun hc33 => ?_) (fun hc33 => ?_)
            · skip
              refine ow_iconst C A0 d2_60 (v := 1) rfl rfl ?_
              refine ow_goto C A0 d2_61 (by decide) (pc' := 65) (by decide) ?_
              refine ow_ireturn C A0 (t := .boolean) rfl rfl (by simp) d2_65 (by decide) (by decide) ?_
              exact ⟨by simp [own_ref, hc3, hc9, hc15, hc21, hc27, hc33], rfl⟩
            · skip
              refine ow_iloadN C A0 d2_36 rfl rfl ?_
              refine ow_bipush C A0 d2_37 (v := 54) rfl rfl ?_
              refine ow_icmp_eq C A0 d2_39 (by decide) (pcY := 60) (by decide) (pcN := 42) rfl (fun hc39 => ?_) (fun hc39 => ?_)
              · skip
                refine ow_iconst C A0 d2_60 (v := 1) rfl rfl ?_
                refine ow_goto C A0 d2_61 (by decide) (pc' := 65) (by decide) ?_
                refine ow_ireturn C A0 (t := .boolean) rfl rfl (by simp) d2_65 (by decide) (by decide) ?_
                exact ⟨by simp [own_ref, hc3, hc9, hc15, hc21, hc27, hc33, hc39], rfl⟩
              · skip
                refine ow_iloadN C A0 d2_42 rfl rfl ?_
                refine ow_bipush C A0 d2_43 (v := 55) rfl rfl ?_
                refine ow_icmp_eq C A0 d2_45 (by decide) (pcY := 60) (by decide) (pcN := 48) rfl (fun hc45 => ?_) (fun hc45 => ?_)
                · skip
                  refine ow_iconst C A0 d2_60 (v := 1) rfl rfl ?_
                  refine ow_goto C A0 d2_61 (by decide) (pc' := 65) (by decide) ?_
                  refine ow_ireturn C A0 (t := .boolean) rfl rfl (by simp) d2_65 (by decide) (by decide) ?_
                  exact ⟨by simp [own_ref, hc3, hc9, hc15, hc21, hc27, hc33, hc39, hc45], rfl⟩
                · skip
                  refine ow_iloadN C A0 d2_48 rfl rfl ?_
                  refine ow_bipush C A0 d2_49 (v := 56) rfl rfl ?_
                  refine ow_icmp_eq C A0 d2_51 (by decide) (pcY := 60) (by decide) (pcN := 54) rfl (fun hc51 => ?_) (fun hc51 => ?_)
                  · skip
                    refine ow_iconst C A0 d2_60 (v := 1) rfl rfl ?_
                    refine ow_goto C A0 d2_61 (by decide) (pc' := 65) (by decide) ?_
                    refine ow_ireturn C A0 (t := .boolean) rfl rfl (by simp) d2_65 (by decide) (by decide) ?_
                    exact ⟨by simp [own_ref, hc3, hc9, hc15, hc21, hc27, hc33, hc39, hc45, hc51], rfl⟩
                  · skip
                    refine ow_iloadN C A0 d2_54 rfl rfl ?_
                    refine ow_bipush C A0 d2_55 (v := 57) rfl rfl ?_
                    refine ow_icmp_ne C A0 d2_57 (by decide) (pcY := 64) (by decide) (pcN := 60) rfl (fun hc57 => ?_) (fun hc57 => ?_)
                    · skip
                      refine ow_iconst C A0 d2_64 (v := 0) rfl rfl ?_
                      refine ow_ireturn C A0 (t := .boolean) rfl rfl (by simp) d2_65 (by decide) (by decide) ?_
                      exact ⟨by simp [own_ref, hc3, hc9, hc15, hc21, hc27, hc33, hc39, hc45, hc51, hc57], rfl⟩
                    · skip
                      refine ow_iconst C A0 d2_60 (v := 1) rfl rfl ?_
                      refine ow_goto C A0 d2_61 (by decide) (pc' := 65) (by decide) ?_
                      refine ow_ireturn C A0 (t := .boolean) rfl rfl (by simp) d2_65 (by decide) (by decide) ?_
                      exact ⟨by simp [own_ref, hc3, hc9, hc15, hc21, hc27, hc33, hc39, hc45, hc51, hc57], rfl⟩
set_option maxRecDepth 65536 in
set_option maxHeartbeats 40000000 in
theorem rm0 (l : Launch) (Z : State) (a0 : Array Value) (hw : ∀ d ∈ tables_1, d.before a0 Z = true) (p1 p2 : Int32) (h0 : Heap)  (cs : List Jvm.Cond) :
    OwnCtr l Z x code maxLocals ret room_1 #[(.int p1), (.int p2)] h0 [] Q0 cs := by
  refine ow_ctr pn_0 hw (Ls := #[.val (.int p1), .val (.int p2), .unset, .unset, .unset]) (fun m => by first | (simp [entryFrame, mkF, argsToLocals, Value.category, maxLocals]; done) | rfl) ?_
  intro p e s m below meth c T0 C A0
  refine ow_bipush C A0 at_0 (v := 40) rfl rfl ?_
  refine ow_iloadN C A0 at_2 rfl rfl ?_
  refine ow_bipush C A0 at_3 (v := 31) rfl rfl ?_
  refine ow_iand C A0 at_5 rfl ?_
  refine ow_iadd C A0 at_6 rfl ?_
  refine ow_istoreN C A0 at_7 (Ls' := #[.val (.int p1), .val (.int p2), .val (.int ((40 : Int32) + (p2 &&& (31 : Int32)))), .unset, .unset]) rfl rfl ?_
  refine ow_iloadN C A0 at_8 rfl rfl ?_
  refine ow_callS C A0 (argsL := [(.int p1)]) (rm1 l Z a0 hw p1 h0 []) tw_0 tw_1 tw_2 tw_3 (by decide) all0 (by decide) (by decide) (ck' := 0) (sk' := 0) rfl rfl (by decide) (by decide) rfl (lenOf pd_0 rfl) (S := []) rfl (W := 0) (Nat.le_of_eq rfl) at_9 rfl ?_
  intro T1 v1 K1 hQ1 A1
  obtain ⟨rfl, e1⟩ := hQ1
  rw [e1] at A1 K1
  show OwnWP _ _ _ _ _ _ _ _ _ T1 (mkF m 12 #[.val (.int p1), .val (.int p2), .val (.int ((40 : Int32) + (p2 &&& (31 : Int32)))), .unset, .unset] [(.int (own_dig p1))])
  refine ow_iloadN C A1 at_12 rfl rfl ?_
  refine ow_callS C A1 (argsL := [(.int p1)]) (rm2 l Z a0 hw p1 h0 []) tw_4 tw_5 tw_6 tw_7 (by decide) all0 (by decide) (by decide) (ck' := 0) (sk' := 0) rfl rfl (by decide) (by decide) rfl (lenOf pd_0 rfl) (S := [(.int (own_dig p1))]) rfl (W := 1) (Nat.le_of_eq rfl) at_13 rfl ?_
  intro T2 v2 K2 hQ2 A2
  obtain ⟨rfl, e2⟩ := hQ2
  rw [e2] at A2 K2
  show OwnWP _ _ _ _ _ _ _ _ _ T2 (mkF m 16 #[.val (.int p1), .val (.int p2), .val (.int ((40 : Int32) + (p2 &&& (31 : Int32)))), .unset, .unset] [(.int (own_ref p1)), (.int (own_dig p1))])
  refine ow_icmp_ne C A2 at_16 (by decide) (pcY := 23) (by decide) (pcN := 19) rfl (fun z => absurd (own_same _) z) (fun _ => ?_)
  refine ow_iconst C A2 at_19 (v := 1) rfl rfl ?_
  refine ow_goto C A2 at_20 (by decide) (pc' := 24) (by decide) ?_
  refine ow_istoreN C A2 at_24 (Ls' := #[.val (.int p1), .val (.int p2), .val (.int ((40 : Int32) + (p2 &&& (31 : Int32)))), .val (.int (1 : Int32)), .unset]) rfl rfl ?_
  refine ow_iloadN C A2 at_25 rfl rfl ?_
  refine ow_callS C A2 (argsL := [(.int ((40 : Int32) + (p2 &&& (31 : Int32))))]) (rm1 l Z a0 hw ((40 : Int32) + (p2 &&& (31 : Int32))) h0 []) tw_0 tw_1 tw_2 tw_3 (by decide) all0 (by decide) (by decide) (ck' := 0) (sk' := 0) rfl rfl (by decide) (by decide) rfl (lenOf pd_0 rfl) (S := []) rfl (W := 0) (Nat.le_of_eq rfl) at_26 rfl ?_
  intro T3 v3 K3 hQ3 A3
  obtain ⟨rfl, e3⟩ := hQ3
  rw [e3] at A3 K3
  show OwnWP _ _ _ _ _ _ _ _ _ T3 (mkF m 29 #[.val (.int p1), .val (.int p2), .val (.int ((40 : Int32) + (p2 &&& (31 : Int32)))), .val (.int (1 : Int32)), .unset] [(.int (own_dig ((40 : Int32) + (p2 &&& (31 : Int32)))))])
  refine ow_iloadN C A3 at_29 rfl rfl ?_
  refine ow_callS C A3 (argsL := [(.int ((40 : Int32) + (p2 &&& (31 : Int32))))]) (rm2 l Z a0 hw ((40 : Int32) + (p2 &&& (31 : Int32))) h0 []) tw_4 tw_5 tw_6 tw_7 (by decide) all0 (by decide) (by decide) (ck' := 0) (sk' := 0) rfl rfl (by decide) (by decide) rfl (lenOf pd_0 rfl) (S := [(.int (own_dig ((40 : Int32) + (p2 &&& (31 : Int32)))))]) rfl (W := 1) (Nat.le_of_eq rfl) at_30 rfl ?_
  intro T4 v4 K4 hQ4 A4
  obtain ⟨rfl, e4⟩ := hQ4
  rw [e4] at A4 K4
  show OwnWP _ _ _ _ _ _ _ _ _ T4 (mkF m 33 #[.val (.int p1), .val (.int p2), .val (.int ((40 : Int32) + (p2 &&& (31 : Int32)))), .val (.int (1 : Int32)), .unset] [(.int (own_ref ((40 : Int32) + (p2 &&& (31 : Int32))))), (.int (own_dig ((40 : Int32) + (p2 &&& (31 : Int32)))))])
  refine ow_icmp_ne C A4 at_33 (by decide) (pcY := 40) (by decide) (pcN := 36) rfl (fun z => absurd (own_same _) z) (fun _ => ?_)
  refine ow_iconst C A4 at_36 (v := 1) rfl rfl ?_
  refine ow_goto C A4 at_37 (by decide) (pc' := 41) (by decide) ?_
  refine ow_istore C A4 at_41 (Ls' := #[.val (.int p1), .val (.int p2), .val (.int ((40 : Int32) + (p2 &&& (31 : Int32)))), .val (.int (1 : Int32)), .val (.int (1 : Int32))]) rfl rfl ?_
  refine ow_iloadN C A4 at_43 rfl rfl ?_
  refine ow_if_eq C A4 at_44 (by decide) (pcY := 56) (by decide) (pcN := 47) rfl (fun z => absurd z (by decide)) (fun _ => ?_)
  refine ow_iload C A4 at_47 rfl rfl ?_
  refine ow_if_eq C A4 at_49 (by decide) (pcY := 56) (by decide) (pcN := 52) rfl (fun z => absurd z (by decide)) (fun _ => ?_)
  refine ow_iconst C A4 at_52 (v := 1) rfl rfl ?_
  refine ow_goto C A4 at_53 (by decide) (pc' := 57) (by decide) ?_
  refine ow_ireturn C A4 (t := .boolean) rfl rfl (by simp) at_57 (by decide) (by decide) ?_
  exact rfl
set_option maxRecDepth 65536 in
set_option maxHeartbeats 40000000 in
theorem comes_1 {Post : Tables → Env → Array Value → State → Outcome → State → Prop} (hpost : ∀ tb e args s v u, (limb_1_1.after args s (.returned v) u = true ∧ limb_1_2.after args s (.returned v) u = true ∧ True) → FrameEnd s (.returned v) u (Jvm.fieldLocs frame_1_writes args s ++ Jvm.arrayLocs frame_1_arrays args s ++ Jvm.staticLocs frame_1_statics s) 0 0 → Post tb e args s (.returned v) u) :
    ArmFor flags0 classFile x code maxLocals ret World_1 tables_1 room_1 Calls_1 rest_1 Pre_1 Post := by
  intro l hfl _ _ p e ha hc hk s m args below hf hA hF happ hP
  obtain ⟨hcalls, hrest, hpre⟩ := hP
  obtain ⟨-, -, -, hnamed, -, -, -, hat⟩ := (Spec.applies_iff hf).mp happ
  obtain ⟨hg, hn⟩ := and_e (Cond.before_iff.mp (show (Jvm.Cond.and given_1 narrow_1).before args s = true from hpre))
  obtain ⟨gg1, gg2⟩ := and_e hg
  obtain ⟨gg3, gg4⟩ := and_e gg2
  obtain ⟨w0, w1, rfl⟩ : ∃ w0 w1 : Value, args = #[w0, w1] := by
    have hs : args.size = 2 := by simpa [Cond.value, given_1] using gg1
    obtain ⟨L⟩ := args
    match L, hs with
    | [w0, w1], _ => exact ⟨w0, w1, rfl⟩
  have hw := fun d (hd : d ∈ tables_1) => atoms_spec (ws := Jvm.Cond.code x code maxLocals ret :: tables_1) hat d (List.mem_cons_of_mem _ hd)
  have hfit : Fit s := fun {y c} hc i hi => by
    obtain ⟨ha, rfl⟩ := Array.getElem?_eq_some_iff.mp hc
    have q := List.all_eq_true.mp ((Array.all_eq_true_iff_forall_mem.mp hF) _ (Array.getElem_mem ha)) i (List.mem_range.mpr hi)
    simpa [Array.getElem?_eq_getElem hi] using q
  obtain ⟨i0, ei0⟩ := is_v gg3
  obtain rfl : w0 = (.int i0) := Option.some.inj ei0
  obtain ⟨i1, ei1⟩ := is_v gg4
  obtain rfl : w1 = (.int i1) := Option.some.inj ei1
  obtain ⟨n, o, h1, h2, h3, _, L, rfl, ⟨N, -, rfl⟩, hq⟩ := rm0 l s _ hw i0 i1 s.heap  tables_1 p e ha hc hk s m _ below hf ((Spec.applies_iff_loose hf).mp happ).1 ⟨rfl, State.Warmed39.refl s, rfl⟩ trivial
  refine ⟨n, _, h1, h2, h3, hpost _ _ _ _ _ _ ⟨Cond.after_iff.mpr rfl, Cond.after_iff.mpr (eq_i res_at (Term.int_eval (1)) rfl), trivial⟩ ⟨hq.1, hq.2.1, (hq.2.2.sift fun y hy => Or.inr ((N y hy).elim (fun q => nomatch q) id)).mono (by decide) (by decide)⟩⟩
theorem main_1_1 : Claimed_1_1 := comes_1 fun _ _ _ _ _ _ h hF => ⟨h.1, hF⟩
theorem main_1_2 : Claimed_1_2 := comes_1 fun _ _ _ _ _ _ h hF => ⟨h.2.1, hF⟩
end Jvm.Pilot.@@N@@
namespace Jvm.Pilot.@@N@@
open Jvm Jvm.ClassFile Sem Op Lib Jvm.Free Jvm.Stand Jvm.Pilot.@@N@@.Jvm.D
/-! MADE BY PROGRAM (witnessworld.py) out of the Statement's table words and the real class files: 9 classes; the members and pool entries that the words name. The judged class is class 1, her method 2. -/
namespace start1
open Jvm.ClassFile
def u (s : String) : CpInfo := .utf8 (stringToUtf16 s)
/-- a pool by its gaps: so many unusable entries, then the entry; so many at the end -/
def gap : Nat → List CpInfo → List CpInfo
  | 0, r => r
  | n + 1, r => .unusable :: gap n r
def poolList (es : List (Nat × CpInfo)) (last : Nat) : List CpInfo := es.foldr (fun e r => gap e.1 (e.2 :: r)) (gap last [])
def pool (es : List (Nat × CpInfo)) (last : Nat) : Array CpInfo := ⟨poolList es last⟩
def fileOf (pool : Array CpInfo) (this : Nat) (attrs : Array Attribute := #[]) (ms : Array MethodInfo := #[]) (fl : Nat := 33) (sup : Nat := 0) (ifs : Array Nat := #[]) (fds : Array FieldInfo := #[]) : ClassFile where
  minorVersion := 0
  majorVersion := 65
  constantPool := pool
  accessFlags := fl
  thisClass := this
  superClass := sup
  interfaces := ifs
  fields := fds
  methods := ms
  attributes := attrs
def plain (name : String) (sup : Option ClassId) : Class where
  name := name
  kind := .ordinary
  loader := none
  accessFlags := 33
  super := sup
  interfaces := #[]
  cf := none
  fields := #[]
  methods := #[]
  instanceTypes := #[]
  staticTypes := #[]
  resolved := #[]
  callSites := []
  init := .initialized
  statics := none
  mirror := none

def pool0 : Array CpInfo := pool [(5, u "<init>"), (0, u "()V"), (1, .class_ 10), (1, u "java/lang/Object")] 113

def k0m0 : Method := { name := "<init>", desc := "()V", sig := { parameters := [], returnType := none }, accessFlags := 1, code := none }
/-- java/lang/Object -/
def k0 : Class := { plain "java/lang/Object" none with
  accessFlags := 33
  interfaces := #[]
  cf := some (fileOf pool0 8 #[] #[{ accessFlags := 1, nameIndex := 5, descriptorIndex := 6, attributes := #[] }] 33 0 #[] #[])
  fields := #[]
  methods := #[k0m0]
  instanceTypes := #[]
  staticTypes := #[]
  resolved := Array.replicate 124 none
  statics := none }

def pool1 : Array CpInfo := pool [(2, .class_ 4), (1, u "java/lang/Object"), (0, u "<init>"), (0, u "()V"), (0, .methodref 8 9), (0, .class_ 10), (0, .nameAndType 11 12), (0, u site_9.cls), (0, u "isDigit"), (0, u "(I)Z"), (0, .methodref 14 15), (0, .class_ 16), (0, .nameAndType 17 12), (0, u x.cls), (0, u "ref"), (3, u "law"), (0, u "(II)Z")] 2

def k1m0 : Method := { name := "<init>", desc := "()V", sig := { parameters := [], returnType := none }, accessFlags := 1, code := none }
def k1c1 : Code := { maxStack := 2, maxLocals := 1, code := method_2_code, exceptionTable := #[], attributes := #[] }
def k1m1 : Method := { name := "ref", desc := "(I)Z", sig := { parameters := [.int], returnType := some .boolean }, accessFlags := 10, code := some k1c1 }
def k1c2 : Code := { maxStack := 3, maxLocals := 5, code := code, exceptionTable := #[], attributes := #[] }
def k1m2 : Method := { name := "law", desc := "(II)Z", sig := { parameters := [.int, .int], returnType := some .boolean }, accessFlags := 9, code := some k1c2 }
/-- a class -/
def k1 : Class := { plain x.cls (some 0) with
  accessFlags := 49
  interfaces := #[]
  cf := some (fileOf pool1 14 #[] #[{ accessFlags := 1, nameIndex := 5, descriptorIndex := 6, attributes := #[] }, { accessFlags := 10, nameIndex := 17, descriptorIndex := 12, attributes := #[] }, { accessFlags := 9, nameIndex := 21, descriptorIndex := 22, attributes := #[] }] 49 2 #[] #[])
  fields := #[]
  methods := #[k1m0, k1m1, k1m2]
  instanceTypes := #[]
  staticTypes := #[]
  resolved := Array.replicate 25 none
  statics := none }

def pool2 : Array CpInfo := pool [(2, .class_ 4), (1, u "java/lang/Object"), (0, u "<init>"), (0, u "()V"), (1, .class_ 10), (1, u site_9.cls), (1, u "(I)Z"), (2, u "isDigit"), (34, u "NON_WORD_MARKS"), (0, u "Ljava/lang/String;"), (1, u "PATH_MARKS")] 9

def k2m0 : Method := { name := "<init>", desc := "()V", sig := { parameters := [], returnType := none }, accessFlags := 2, code := none }
def k2c1 : Code := { maxStack := 2, maxLocals := 1, code := prog_148_method_4_code, exceptionTable := #[], attributes := #[] }
def k2m1 : Method := { name := "isDigit", desc := "(I)Z", sig := { parameters := [.int], returnType := some .boolean }, accessFlags := 9, code := some k2c1 }
/-- a class -/
def k2 : Class := { plain site_9.cls (some 0) with
  accessFlags := 49
  interfaces := #[]
  cf := some (fileOf pool2 8 #[] #[{ accessFlags := 2, nameIndex := 5, descriptorIndex := 6, attributes := #[] }, { accessFlags := 9, nameIndex := 15, descriptorIndex := 12, attributes := #[] }] 49 2 #[] #[{ accessFlags := 26, nameIndex := 50, descriptorIndex := 51, attributes := #[] }, { accessFlags := 26, nameIndex := 53, descriptorIndex := 51, attributes := #[] }])
  fields := #[{ name := "NON_WORD_MARKS", type := (.object "java/lang/String"), accessFlags := 26, slot := 0, constantValue := 0 }, { name := "PATH_MARKS", type := (.object "java/lang/String"), accessFlags := 26, slot := 1, constantValue := 0 }]
  methods := #[k2m0, k2m1]
  instanceTypes := #[]
  staticTypes := #[(.object "java/lang/String"), (.object "java/lang/String")]
  resolved := Array.replicate 63 none
  statics := none }

def pool3 : Array CpInfo := pool [(1, u "java/lang/Cloneable"), (0, .class_ 1), (0, u "java/lang/Object"), (0, .class_ 3)] 3

/-- java/lang/Cloneable -/
def k3 : Class := { plain "java/lang/Cloneable" (some 0) with
  accessFlags := 1537
  interfaces := #[]
  cf := some (fileOf pool3 2 #[] #[] 1537 4 #[] #[])
  fields := #[]
  methods := #[]
  instanceTypes := #[]
  staticTypes := #[]
  resolved := Array.replicate 8 none
  statics := none }

def pool4 : Array CpInfo := pool [(1, u "java/io/Serializable"), (0, .class_ 1), (0, u "java/lang/Object"), (0, .class_ 3)] 3

/-- java/io/Serializable -/
def k4 : Class := { plain "java/io/Serializable" (some 0) with
  accessFlags := 1537
  interfaces := #[]
  cf := some (fileOf pool4 2 #[] #[] 1537 4 #[] #[])
  fields := #[]
  methods := #[]
  instanceTypes := #[]
  staticTypes := #[]
  resolved := Array.replicate 8 none
  statics := none }

/-- the primitive byte -/
def k5 : Class := { plain "byte" none with kind := .primitive 'B', accessFlags := 0x411 }
/-- [B -/
def k6 : Class := { plain "[B" (some 0) with kind := .array 5 .byte, interfaces := #[3, 4], accessFlags := 1041 }

/-- the primitive int -/
def k7 : Class := { plain "int" none with kind := .primitive 'I', accessFlags := 0x411 }
/-- [I -/
def k8 : Class := { plain "[I" (some 0) with kind := .array 7 .int, interfaces := #[3, 4], accessFlags := 1041 }

def heap : Heap := #[]
def classes : Array Class := #[k0, k1, k2, k3, k4, k5, k6, k7, k8]
def interned : List (Array UInt16 × Addr) := []
def slotsUsed : Nat := 0
def theMethod : MethodId := ⟨1, 2⟩
def args0 : Array Value := #[.int 5, .int 5]
def aboutOver (below : List Frame) : State where
  vm := { classes := classes, interned := interned.toArray }
  heap := heap
  slotsUsed := slotsUsed
  threads := #[{ frames := .invoking theMethod args0 :: below }]
def below0 : List Frame := [.native { method := ⟨0, 0⟩, args := #[] }]
def about1 : State := aboutOver below0
def p0 : Program := .bare "" "" ""
def e0 : Env := launch0.env 0 0 0
theorem w_frames : about1.frames = Frame.invoking theMethod args0 :: below0 := rfl
set_option maxRecDepth 65536 in
theorem w_args : argsFit about1.vm theMethod args0 = true := by decide +kernel
set_option maxRecDepth 65536 in
theorem w_heap : heapFits about1 = true := by decide +kernel
set_option maxRecDepth 65536 in
theorem w_runnable : about1.curStatus? = some .runnable := by decide +kernel
set_option maxRecDepth 65536 in
theorem w_alone : about1.alone = true := by decide +kernel
set_option maxRecDepth 65536 in
theorem w_named : about1.methodNamed? x = some theMethod := by decide +kernel
set_option maxRecDepth 65536 in
theorem w_hears : about1.hears theMethod below0 = true := by decide +kernel
set_option maxRecDepth 65536 in
theorem w_ripe : about1.ripe theMethod args0 below0 = true := by decide +kernel
theorem w_running : about1.status = .running := rfl
set_option maxRecDepth 65536 in
theorem w_room : about1.hasRoom e0.platform room_1 = true :=
  launch0.hasRoom_least _ room_1 (by decide +kernel) (by decide +kernel) (by decide +kernel) (by decide +kernel) (by decide +kernel) (by decide +kernel)
theorem allAtoms_all (ts : List Jvm.Cond) (a : Array Jvm.Value) (st : Jvm.State) : (allAtoms ts).before a st = ts.all (fun c => c.before a st) := by
  induction ts with
  | nil => rfl
  | cons c t ih =>
    show (Jvm.Cond.and c (allAtoms t)).before a st = _
    rw [Jvm.Cond.before_and, ih, List.all_cons]
def words1 : List Jvm.Cond := Jvm.Cond.code x code maxLocals ret :: tables_1
/-- a 'code' word, met by the world's own term for the bytes: nothing is compared byte by byte -/
theorem code_word {y : MethodName} {bytes : ByteArray} {mx : Nat} {rt : Option FieldType} {a : Array Value} {s : State} {m : MethodId} {meth : Method} {c : Code} (h1 : s.methodNamed? y = some m) (h2 : s.vm.method? m = some meth) (h3 : meth.code = some c) (h4 : c.code = bytes)
    (h5 : (c.maxLocals == mx && c.exceptionTable.isEmpty && decide (c.maxStack ≤ mostOperands) && decide (meth.sig.returnType = rt) && !meth.locks && decide (parseMethodDescriptor y.desc = some meth.sig)) = true) : (Jvm.Cond.code y bytes mx rt).before a s = true := by
  simp only [Bool.and_eq_true, beq_iff_eq, Bool.not_eq_true', decide_eq_true_eq] at h5
  obtain ⟨⟨⟨⟨⟨g1, g2⟩, g3⟩, g4⟩, g5⟩, g6⟩ := h5
  simp [Cond.before, Cond.holds, Cond.value, h1, h2, h3, h4, g1, g2, g3, g4, g5, g6]
def isCode : Jvm.Cond → Bool
  | .code _ _ _ _ => true
  | _ => false
theorem all_split {L : List Jvm.Cond} {P : Jvm.Cond → Bool} (h1 : L.all (fun c => isCode c || P c) = true) (h2 : ∀ c ∈ L.filter isCode, P c = true) : L.all P = true := by
  refine List.all_eq_true.mpr fun c hc => ?_
  have h := List.all_eq_true.mp h1 c hc
  rcases Bool.eq_false_or_eq_true (isCode c) with hi | hi
  · exact h2 c (List.mem_filter.mpr ⟨hc, hi⟩)
  · simpa [hi] using h
set_option maxRecDepth 65536 in
theorem w_c0 : (Jvm.Cond.code x code maxLocals ret).before args0 about1 = true := code_word (m := ⟨1, 2⟩) (meth := k1m2) (c := k1c2) (by decide +kernel) rfl rfl rfl (by decide +kernel)
set_option maxRecDepth 65536 in
theorem w_c1 : (Jvm.Cond.code ({ cls := site_9.cls, name := "isDigit", desc := "(I)Z" } : Jvm.MethodName) prog_148_method_4_code (1 : Nat) (Option.some Jvm.ClassFile.FieldType.boolean)).before args0 about1 = true := code_word (m := ⟨2, 1⟩) (meth := k2m1) (c := k2c1) (by decide +kernel) rfl rfl rfl (by decide +kernel)
set_option maxRecDepth 65536 in
theorem w_c2 : (Jvm.Cond.code ({ cls := x.cls, name := "ref", desc := "(I)Z" } : Jvm.MethodName) method_2_code (1 : Nat) (Option.some Jvm.ClassFile.FieldType.boolean)).before args0 about1 = true := code_word (m := ⟨1, 1⟩) (meth := k1m1) (c := k1c1) (by decide +kernel) rfl rfl rfl (by decide +kernel)
def codes1 : List Jvm.Cond := [Jvm.Cond.code x code maxLocals ret, Jvm.Cond.code ({ cls := site_9.cls, name := "isDigit", desc := "(I)Z" } : Jvm.MethodName) prog_148_method_4_code (1 : Nat) (Option.some Jvm.ClassFile.FieldType.boolean), Jvm.Cond.code ({ cls := x.cls, name := "ref", desc := "(I)Z" } : Jvm.MethodName) method_2_code (1 : Nat) (Option.some Jvm.ClassFile.FieldType.boolean)]
set_option maxRecDepth 65536 in
theorem codes_eq : words1.filter isCode = codes1 := rfl
theorem w_codes : ∀ c ∈ words1.filter isCode, c.before args0 about1 = true := by
  rw [codes_eq]
  intro c hc
  simp only [codes1, List.mem_cons, List.not_mem_nil, or_false] at hc
  rcases hc with rfl | rfl | rfl
  · exact w_c0
  · exact w_c1
  · exact w_c2
set_option maxRecDepth 65536 in
theorem w_t1 : words1.all (fun c => isCode c || c.before args0 about1) = true := by decide +kernel
theorem w_tables : (allAtoms (Jvm.Cond.code x code maxLocals ret :: tables_1)).before args0 about1 = true := by
  rw [allAtoms_all]
  show words1.all (fun c => c.before args0 about1) = true
  refine all_split ?_ w_codes
  rw [w_t1]
set_option maxRecDepth 65536 in
theorem w_case : (Jvm.Cond.and given_1 narrow_1).before args0 about1 = true := by decide +kernel
theorem w_applies : (headSpec (Jvm.Cond.code x code maxLocals ret :: tables_1) room_1).applies x e0.platform about1 = true :=
  (Spec.applies_iff w_frames).mpr ⟨w_running, w_runnable, w_alone, w_named, w_hears, w_ripe, w_room, w_tables⟩
theorem atStart : AtStart classFile x code maxLocals ret World_1 tables_1 room_1 Calls_1 rest_1 Pre_1 launch0 p0 e0 about1 theMethod args0 below0 :=
  ⟨lists_1, trivial, launch0.admits_env _ _ _, launch0.least_env, fairChoices_fair.cas, fairChoices_fair.clock, w_frames, w_args, w_heap, w_applies, trivial, trivial, w_case⟩
end start1
theorem witness_1 : WitnessClaimed_1 := ⟨start1.p0, start1.e0, start1.about1, start1.theMethod, start1.args0, start1.below0, start1.atStart⟩
end Jvm.Pilot.@@N@@
