import JvmDerived
import JvmDerived.Pilot.@@N@@Statement
import JvmDerived.Pilot.@@N@@Code
set_option linter.unusedVariables false
set_option linter.unusedSimpArgs false
namespace Jvm.RoadKit
open Sem ClassFile Op Lib Jvm.Stand Jvm.Free Jvm.LawKit
section Own
variable {p : Program} {l : Launch} {e : Env} {R : Room} {s : State} {m : MethodId} {args : Array Value} {below : List Frame} {meth : Method} {c : Code} {T T' : State} {Z : State} {a0 : Array Value} {h h' h0 : Heap} {ws : List Addr} {ck sk CK SK : Nat} {Q : Option Value → Heap → Prop} {bytes : ByteArray} {ml : Nat} {ret : Option FieldType} {y0 : MethodName} {tw : List Jvm.Cond} {pc pc' : Nat} {Ls Ls' : Array Slot} {S : List Value} {g g' : JFrame}
/-- Java's >>> -/
def own_ushr (x y : Int32) : Int32 := (x.toUInt32 >>> (y &&& 31).toUInt32).toInt32
def own_ushrL (x : Int64) (y : Int32) : Int64 := (x.toUInt64 >>> (y &&& 63).toInt64.toUInt64).toInt64
/-- what is known of the method that is walked -/
def OwnCtx (p : Program) (s : State) (m : MethodId) (meth : Method) (c : Code) (Z : State) (a0 : Array Value) (tw : List Jvm.Cond) (y0 : MethodName) (bytes : ByteArray) (ml : Nat) (ret : Option FieldType) : Prop :=
  p.tables.exec = Jvm.exec ∧ Z.Warmed39 s.vm ∧ (∀ d ∈ tw, d.before a0 Z = true) ∧ c.code = bytes ∧ c.maxLocals = ml ∧ s.vm.findClass y0.cls = some m.cls ∧ meth.name = y0.name ∧ meth.sig.returnType = ret ∧ meth.locks = false
/-- where the walk stands: the heap h; of the heap h0 at the entry only the cells at ws may have been written -/
def OwnPos (p : Program) (l : Launch) (e : Env) (R : Room) (s : State) (m : MethodId) (args : Array Value) (below : List Frame) (meth : Method) (c : Code) (h0 : Heap) (ws : List Addr) (T : State) (h : Heap) (ck sk : Nat) : Prop :=
  ∃ locs, Stand p l e R s m args below meth c T locs ck sk ∧ T.heap = h ∧ (∀ y ∈ locs, y.base ∈ ws ∨ h0.size ≤ y.base) ∧ Keep h0 h ws
/-- from here the method returns as Q says -/
def OwnWP (p : Program) (e : Env) (below : List Frame) (s : State) (h0 : Heap) (ws : List Addr) (Q : Option Value → Heap → Prop) (CK SK : Nat) (T : State) (g : JFrame) : Prop :=
  ∃ s₂ o, Steps p.tables e below (T.setTop g) s₂ ∧ s₂.status = .running ∧ Ended s₂ below o ∧ ∃ v L, o = .returned v ∧ ((∀ y ∈ L, y.base ∈ ws ∨ h0.size ≤ y.base) ∧ Keep h0 s₂.heap ws ∧ Q v s₂.heap) ∧ FrameEnd s o s₂ L CK SK
/-- a method's contract -/
def OwnCtr (l : Launch) (Z : State) (y : MethodName) (bytes : ByteArray) (ml : Nat) (ret : Option FieldType) (rm : Room) (as : Array Value) (h0 : Heap) (ws : List Addr) (Q : Option Value → Heap → Prop) (cs : List Jvm.Cond) : Prop :=
  MetFree l y (head1 (Jvm.Cond.code y bytes ml ret :: cs) rm) (fun a U => a = as ∧ Z.Warmed39 U.vm ∧ U.heap = h0) (fun _ _ _ _ _ => True) (fun _ U o U' => ∃ v L, o = .returned v ∧ ((∀ y ∈ L, y.base ∈ ws ∨ h0.size ≤ y.base) ∧ Keep h0 U'.heap ws ∧ Q v U'.heap) ∧ FrameEnd U o U' L rm.cells rm.slots)
theorem ow_le (A : OwnPos p l e R s m args below meth c h0 ws T h ck sk) : h0.size ≤ h.size := by obtain ⟨_, _, _, _, K⟩ := A; exact K.1
theorem ow_st (q : ∀ target, Steps p.tables e below (T'.setTop g') target → Steps p.tables e below (T.setTop g) target) (k : OwnWP p e below s h0 ws Q CK SK T' g') : OwnWP p e below s h0 ws Q CK SK T g := by
  obtain ⟨s₂, o, k1, k2⟩ := k; exact ⟨s₂, o, q _ k1, k2⟩
theorem ow_stT (q : Steps p.tables e below (T.setTop g) (T'.setTop g')) (k : OwnWP p e below s h0 ws Q CK SK T' g') : OwnWP p e below s h0 ws Q CK SK T g := by
  obtain ⟨s₂, o, k1, k2⟩ := k; exact ⟨s₂, o, q.trans k1, k2⟩
theorem ow_mono {Q' : Option Value → Heap → Prop} (q : ∀ v h, Q' v h → Q v h) (k : OwnWP p e below s h0 ws Q' CK SK T g) : OwnWP p e below s h0 ws Q CK SK T g := by
  obtain ⟨s₂, o, k1, k2, k3, v, L, k4, ⟨k5, k6, k7⟩, k8⟩ := k; exact ⟨s₂, o, k1, k2, k3, v, L, k4, ⟨k5, k6, q _ _ k7⟩, k8⟩
theorem ow_ctr {rm : Room} {as : Array Value} {cs : List Jvm.Cond} {Ls : Array Slot} (hp : plainFor y0 = true) (hw : ∀ d ∈ tw, d.before a0 Z = true) (ef : ∀ m, entryFrame m as ml = mkF m 0 Ls [])
    (body : ∀ (p : Program) (e : Env) (s : State) (m : MethodId) (below : List Frame) (meth : Method) (c : Code) (T : State), OwnCtx p s m meth c Z a0 tw y0 bytes ml ret → OwnPos p l e rm s m as below meth c h0 ws T h0 0 0 → OwnWP p e below s h0 ws Q rm.cells rm.slots T (mkF m 0 Ls [])) :
    OwnCtr l Z y0 bytes ml ret rm as h0 ws Q cs := by
  refine MetFree.of_bodySF hp hisR ?_
  intro p e s m args below meth c s₁ Bd hml0 hP hK
  obtain ⟨rfl, hZ, hh⟩ := hP
  have X0 : Stand p l e rm s m _ below meth c s₁ [] 0 0 := Stand.of_body Bd
  have e0 : s₁.heap = h0 := by rw [← hh, Bd.state]; rfl
  have hk : meth.locks = false := BodyLoose.notSynchronized Bd
  obtain ⟨s₂, o, k1, k2⟩ := body p e s m below meth c s₁ ⟨Bd.exec, hZ, hw, Bd.bytes, hml0, findClass_of_methodNamed Bd.named, (name_of_methodNamed Bd.named Bd.method).1, Bd.returns, hk⟩ ⟨[], X0, e0, (fun _ q => nomatch q), Keep.refl _ _⟩
  exact ⟨s₂, o, castTop (ef m) k1, k2⟩
theorem ow_ctr_mono {rm : Room} {as : Array Value} {cs : List Jvm.Cond} {y : MethodName} {Q' : Option Value → Heap → Prop} (M : OwnCtr l Z y bytes ml ret rm as h0 ws Q cs) (q : ∀ v h, Q v h → Q' v h) : OwnCtr l Z y bytes ml ret rm as h0 ws Q' cs := by
  intro p e ha hc hk s m args below hf happ hP hK
  obtain ⟨n, o, h1, h2, h3, v, L, h4, ⟨h5, h6, h7⟩, h8⟩ := M p e ha hc hk s m args below hf happ hP hK
  exact ⟨n, o, h1, h2, h3, v, L, h4, ⟨h5, h6, q _ _ h7⟩, h8⟩
theorem ow_done {v : Option Value} (C : OwnCtx p s m meth c Z a0 tw y0 bytes ml ret) (A : OwnPos p l e R s m args below meth c h0 ws T h ck sk) (hv : ret = none → v = none) (h1 : ck ≤ CK) (h2 : sk ≤ SK) (hq : Q v h)
    (hst : ∀ {locs : List Loc} {fs : List Frame}, Stand p l e R s m args below meth c T locs ck sk → (∀ (f : JFrame) (acts : List Action), f.method = m → f.locked = none → f.entered = [] → (doReturn e (T.setTop f) acts v).1 = T.setFrames fs) → Steps p.tables e below (T.setTop g) (T.setFrames fs)) :
    OwnWP p e below s h0 ws Q CK SK T g := by
  obtain ⟨locs, X, rfl, N, K⟩ := A
  obtain ⟨fs, hr, hrun, hended, hW, hsame⟩ := X.leave (v := v) (fun q => hv (C.2.2.2.2.2.2.2.1.symm.trans q)) C.2.2.2.2.2.2.2.2
  exact ⟨_, _, hst X hr, hrun, hended, _, _, rfl, ⟨N, K, hq⟩, ⟨_, rfl⟩, hW, hsame.mono h1 h2⟩
theorem ow_ireturn (C : OwnCtx p s m meth c Z a0 tw y0 bytes ml ret) (A : OwnPos p l e R s m args below meth c h0 ws T h ck sk) {t : FieldType} {w : Int32} (hret : ret = some t) (hn : narrow t (.int w) = .int w) (hti : t = .int ∨ t = .boolean ∨ t = .byte ∨ t = .char ∨ t = .short)
    (hd : decode bytes pc = .ok (.ireturn, 1)) (h1 : ck ≤ CK) (h2 : sk ≤ SK) (hq : Q (some (.int w)) h) : OwnWP p e below s h0 ws Q CK SK T (mkF m pc Ls [.int w]) :=
  ow_done C A (fun q => by rw [hret] at q; cases q) h1 h2 hq fun X hr => X.ireturnOut C.1 (C.2.2.2.2.2.2.2.1.trans hret) hn hti (hb C.2.2.2.1 hd) hr
theorem ow_lreturn (C : OwnCtx p s m meth c Z a0 tw y0 bytes ml ret) (A : OwnPos p l e R s m args below meth c h0 ws T h ck sk) {w : Int64} (hret : ret = some .long)
    (hd : decode bytes pc = .ok (.lreturn, 1)) (h1 : ck ≤ CK) (h2 : sk ≤ SK) (hq : Q (some (.long w)) h) : OwnWP p e below s h0 ws Q CK SK T (mkF m pc Ls [.long w]) :=
  ow_done C A (fun q => by rw [hret] at q; cases q) h1 h2 hq fun X hr => X.lreturnOut C.1 (C.2.2.2.2.2.2.2.1.trans hret) (hb C.2.2.2.1 hd) hr
theorem ow_areturn (C : OwnCtx p s m meth c Z a0 tw y0 bytes ml ret) (A : OwnPos p l e R s m args below meth c h0 ws T h ck sk) {t : FieldType} {w : Value} (hret : ret = some t) (ht : t.isReference = true) (hw : w.isRef = true)
    (hd : decode bytes pc = .ok (.areturn, 1)) (h1 : ck ≤ CK) (h2 : sk ≤ SK) (hq : Q (some w) h) : OwnWP p e below s h0 ws Q CK SK T (mkF m pc Ls [w]) :=
  ow_done C A (fun q => by rw [hret] at q; cases q) h1 h2 hq fun X hr => X.areturnOut C.1 hw (C.2.2.2.2.2.2.2.1.trans hret) ht (hb C.2.2.2.1 hd) hr
theorem ow_return (C : OwnCtx p s m meth c Z a0 tw y0 bytes ml ret) (A : OwnPos p l e R s m args below meth c h0 ws T h ck sk) (hret : ret = none)
    (hd : decode bytes pc = .ok (.return_, 1)) (h1 : ck ≤ CK) (h2 : sk ≤ SK) (hq : Q none h) : OwnWP p e below s h0 ws Q CK SK T (mkF m pc Ls []) :=
  ow_done C A (fun _ => rfl) h1 h2 hq fun X hr => X.returnOut C.1 (C.2.2.2.2.2.2.2.1.trans hret) (hb C.2.2.2.1 hd) hr
theorem ow_iadd (C : OwnCtx p s m meth c Z a0 tw y0 bytes ml ret) (A : OwnPos p l e R s m args below meth c h0 ws T h ck sk) {x y : Int32} (hd : decode bytes pc = .ok (.iadd, 1)) (hp : pc + 1 = pc') (k : OwnWP p e below s h0 ws Q CK SK T (mkF m pc' Ls (.int (x + y) :: S))) : OwnWP p e below s h0 ws Q CK SK T (mkF m pc Ls (.int y :: .int x :: S)) := by
  obtain ⟨locs, X, -⟩ := A; subst hp
  exact ow_st (fun _ k => XS.iadd X.here C.1 rfl (hb C.2.2.2.1 hd) rfl k) k
theorem ow_isub (C : OwnCtx p s m meth c Z a0 tw y0 bytes ml ret) (A : OwnPos p l e R s m args below meth c h0 ws T h ck sk) {x y : Int32} (hd : decode bytes pc = .ok (.isub, 1)) (hp : pc + 1 = pc') (k : OwnWP p e below s h0 ws Q CK SK T (mkF m pc' Ls (.int (x - y) :: S))) : OwnWP p e below s h0 ws Q CK SK T (mkF m pc Ls (.int y :: .int x :: S)) := by
  obtain ⟨locs, X, -⟩ := A; subst hp
  exact ow_st (fun _ k => XS.isub X.here C.1 rfl (hb C.2.2.2.1 hd) rfl k) k
theorem ow_imul (C : OwnCtx p s m meth c Z a0 tw y0 bytes ml ret) (A : OwnPos p l e R s m args below meth c h0 ws T h ck sk) {x y : Int32} (hd : decode bytes pc = .ok (.imul, 1)) (hp : pc + 1 = pc') (k : OwnWP p e below s h0 ws Q CK SK T (mkF m pc' Ls (.int (x * y) :: S))) : OwnWP p e below s h0 ws Q CK SK T (mkF m pc Ls (.int y :: .int x :: S)) := by
  obtain ⟨locs, X, -⟩ := A; subst hp
  exact ow_st (fun _ k => XS.imul X.here C.1 rfl (hb C.2.2.2.1 hd) rfl k) k
theorem ow_iand (C : OwnCtx p s m meth c Z a0 tw y0 bytes ml ret) (A : OwnPos p l e R s m args below meth c h0 ws T h ck sk) {x y : Int32} (hd : decode bytes pc = .ok (.iand, 1)) (hp : pc + 1 = pc') (k : OwnWP p e below s h0 ws Q CK SK T (mkF m pc' Ls (.int (x &&& y) :: S))) : OwnWP p e below s h0 ws Q CK SK T (mkF m pc Ls (.int y :: .int x :: S)) := by
  obtain ⟨locs, X, -⟩ := A; subst hp
  exact ow_st (fun _ k => XS.iand X.here C.1 rfl (hb C.2.2.2.1 hd) rfl k) k
theorem ow_ior (C : OwnCtx p s m meth c Z a0 tw y0 bytes ml ret) (A : OwnPos p l e R s m args below meth c h0 ws T h ck sk) {x y : Int32} (hd : decode bytes pc = .ok (.ior, 1)) (hp : pc + 1 = pc') (k : OwnWP p e below s h0 ws Q CK SK T (mkF m pc' Ls (.int (x ||| y) :: S))) : OwnWP p e below s h0 ws Q CK SK T (mkF m pc Ls (.int y :: .int x :: S)) := by
  obtain ⟨locs, X, -⟩ := A; subst hp
  exact ow_st (fun _ k => XS.ior X.here C.1 rfl (hb C.2.2.2.1 hd) rfl k) k
theorem ow_ixor (C : OwnCtx p s m meth c Z a0 tw y0 bytes ml ret) (A : OwnPos p l e R s m args below meth c h0 ws T h ck sk) {x y : Int32} (hd : decode bytes pc = .ok (.ixor, 1)) (hp : pc + 1 = pc') (k : OwnWP p e below s h0 ws Q CK SK T (mkF m pc' Ls (.int (x ^^^ y) :: S))) : OwnWP p e below s h0 ws Q CK SK T (mkF m pc Ls (.int y :: .int x :: S)) := by
  obtain ⟨locs, X, -⟩ := A; subst hp
  exact ow_st (fun _ k => XS.ixor X.here C.1 rfl (hb C.2.2.2.1 hd) rfl k) k
theorem ow_ishl (C : OwnCtx p s m meth c Z a0 tw y0 bytes ml ret) (A : OwnPos p l e R s m args below meth c h0 ws T h ck sk) {x y : Int32} (hd : decode bytes pc = .ok (.ishl, 1)) (hp : pc + 1 = pc') (k : OwnWP p e below s h0 ws Q CK SK T (mkF m pc' Ls (.int (x <<< (y &&& 31)) :: S))) : OwnWP p e below s h0 ws Q CK SK T (mkF m pc Ls (.int y :: .int x :: S)) := by
  obtain ⟨locs, X, -⟩ := A; subst hp
  exact ow_st (fun _ k => XS.ishl X.here C.1 rfl (hb C.2.2.2.1 hd) rfl k) k
theorem ow_ishr (C : OwnCtx p s m meth c Z a0 tw y0 bytes ml ret) (A : OwnPos p l e R s m args below meth c h0 ws T h ck sk) {x y : Int32} (hd : decode bytes pc = .ok (.ishr, 1)) (hp : pc + 1 = pc') (k : OwnWP p e below s h0 ws Q CK SK T (mkF m pc' Ls (.int (x >>> (y &&& 31)) :: S))) : OwnWP p e below s h0 ws Q CK SK T (mkF m pc Ls (.int y :: .int x :: S)) := by
  obtain ⟨locs, X, -⟩ := A; subst hp
  exact ow_st (fun _ k => XS.ishr X.here C.1 rfl (hb C.2.2.2.1 hd) rfl k) k
theorem ow_iushr (C : OwnCtx p s m meth c Z a0 tw y0 bytes ml ret) (A : OwnPos p l e R s m args below meth c h0 ws T h ck sk) {x y : Int32} (hd : decode bytes pc = .ok (.iushr, 1)) (hp : pc + 1 = pc') (k : OwnWP p e below s h0 ws Q CK SK T (mkF m pc' Ls (.int (own_ushr x y) :: S))) : OwnWP p e below s h0 ws Q CK SK T (mkF m pc Ls (.int y :: .int x :: S)) := by
  obtain ⟨locs, X, -⟩ := A; subst hp
  exact ow_st (fun _ k => XS.iushr X.here C.1 rfl (hb C.2.2.2.1 hd) rfl k) k
theorem ow_ladd (C : OwnCtx p s m meth c Z a0 tw y0 bytes ml ret) (A : OwnPos p l e R s m args below meth c h0 ws T h ck sk) {x y : Int64} (hd : decode bytes pc = .ok (.ladd, 1)) (hp : pc + 1 = pc') (k : OwnWP p e below s h0 ws Q CK SK T (mkF m pc' Ls (.long (x + y) :: S))) : OwnWP p e below s h0 ws Q CK SK T (mkF m pc Ls (.long y :: .long x :: S)) := by
  obtain ⟨locs, X, -⟩ := A; subst hp
  exact ow_st (fun _ k => XS.ladd X.here C.1 rfl (hb C.2.2.2.1 hd) rfl k) k
theorem ow_lsub (C : OwnCtx p s m meth c Z a0 tw y0 bytes ml ret) (A : OwnPos p l e R s m args below meth c h0 ws T h ck sk) {x y : Int64} (hd : decode bytes pc = .ok (.lsub, 1)) (hp : pc + 1 = pc') (k : OwnWP p e below s h0 ws Q CK SK T (mkF m pc' Ls (.long (x - y) :: S))) : OwnWP p e below s h0 ws Q CK SK T (mkF m pc Ls (.long y :: .long x :: S)) := by
  obtain ⟨locs, X, -⟩ := A; subst hp
  exact ow_st (fun _ k => XS.lsub X.here C.1 rfl (hb C.2.2.2.1 hd) rfl k) k
theorem ow_lmul (C : OwnCtx p s m meth c Z a0 tw y0 bytes ml ret) (A : OwnPos p l e R s m args below meth c h0 ws T h ck sk) {x y : Int64} (hd : decode bytes pc = .ok (.lmul, 1)) (hp : pc + 1 = pc') (k : OwnWP p e below s h0 ws Q CK SK T (mkF m pc' Ls (.long (x * y) :: S))) : OwnWP p e below s h0 ws Q CK SK T (mkF m pc Ls (.long y :: .long x :: S)) := by
  obtain ⟨locs, X, -⟩ := A; subst hp
  exact ow_st (fun _ k => XS.lmul X.here C.1 rfl (hb C.2.2.2.1 hd) rfl k) k
theorem ow_land (C : OwnCtx p s m meth c Z a0 tw y0 bytes ml ret) (A : OwnPos p l e R s m args below meth c h0 ws T h ck sk) {x y : Int64} (hd : decode bytes pc = .ok (.land, 1)) (hp : pc + 1 = pc') (k : OwnWP p e below s h0 ws Q CK SK T (mkF m pc' Ls (.long (x &&& y) :: S))) : OwnWP p e below s h0 ws Q CK SK T (mkF m pc Ls (.long y :: .long x :: S)) := by
  obtain ⟨locs, X, -⟩ := A; subst hp
  exact ow_st (fun _ k => XS.land X.here C.1 rfl (hb C.2.2.2.1 hd) rfl k) k
theorem ow_lor (C : OwnCtx p s m meth c Z a0 tw y0 bytes ml ret) (A : OwnPos p l e R s m args below meth c h0 ws T h ck sk) {x y : Int64} (hd : decode bytes pc = .ok (.lor, 1)) (hp : pc + 1 = pc') (k : OwnWP p e below s h0 ws Q CK SK T (mkF m pc' Ls (.long (x ||| y) :: S))) : OwnWP p e below s h0 ws Q CK SK T (mkF m pc Ls (.long y :: .long x :: S)) := by
  obtain ⟨locs, X, -⟩ := A; subst hp
  exact ow_st (fun _ k => XS.lor X.here C.1 rfl (hb C.2.2.2.1 hd) rfl k) k
theorem ow_lxor (C : OwnCtx p s m meth c Z a0 tw y0 bytes ml ret) (A : OwnPos p l e R s m args below meth c h0 ws T h ck sk) {x y : Int64} (hd : decode bytes pc = .ok (.lxor, 1)) (hp : pc + 1 = pc') (k : OwnWP p e below s h0 ws Q CK SK T (mkF m pc' Ls (.long (x ^^^ y) :: S))) : OwnWP p e below s h0 ws Q CK SK T (mkF m pc Ls (.long y :: .long x :: S)) := by
  obtain ⟨locs, X, -⟩ := A; subst hp
  exact ow_st (fun _ k => XS.lxor X.here C.1 rfl (hb C.2.2.2.1 hd) rfl k) k
theorem ow_lshl (C : OwnCtx p s m meth c Z a0 tw y0 bytes ml ret) (A : OwnPos p l e R s m args below meth c h0 ws T h ck sk) {x : Int64} {y : Int32} (hd : decode bytes pc = .ok (.lshl, 1)) (hp : pc + 1 = pc') (k : OwnWP p e below s h0 ws Q CK SK T (mkF m pc' Ls (.long (x <<< (y &&& 63).toInt64) :: S))) : OwnWP p e below s h0 ws Q CK SK T (mkF m pc Ls (.int y :: .long x :: S)) := by
  obtain ⟨locs, X, -⟩ := A; subst hp
  exact ow_st (fun _ k => XS.lshl X.here C.1 rfl (hb C.2.2.2.1 hd) rfl k) k
theorem ow_lshr (C : OwnCtx p s m meth c Z a0 tw y0 bytes ml ret) (A : OwnPos p l e R s m args below meth c h0 ws T h ck sk) {x : Int64} {y : Int32} (hd : decode bytes pc = .ok (.lshr, 1)) (hp : pc + 1 = pc') (k : OwnWP p e below s h0 ws Q CK SK T (mkF m pc' Ls (.long (x >>> (y &&& 63).toInt64) :: S))) : OwnWP p e below s h0 ws Q CK SK T (mkF m pc Ls (.int y :: .long x :: S)) := by
  obtain ⟨locs, X, -⟩ := A; subst hp
  exact ow_st (fun _ k => XS.lshr X.here C.1 rfl (hb C.2.2.2.1 hd) rfl k) k
theorem ow_lushr (C : OwnCtx p s m meth c Z a0 tw y0 bytes ml ret) (A : OwnPos p l e R s m args below meth c h0 ws T h ck sk) {x : Int64} {y : Int32} (hd : decode bytes pc = .ok (.lushr, 1)) (hp : pc + 1 = pc') (k : OwnWP p e below s h0 ws Q CK SK T (mkF m pc' Ls (.long (own_ushrL x y) :: S))) : OwnWP p e below s h0 ws Q CK SK T (mkF m pc Ls (.int y :: .long x :: S)) := by
  obtain ⟨locs, X, -⟩ := A; subst hp
  exact ow_st (fun _ k => XS.lushr X.here C.1 rfl (hb C.2.2.2.1 hd) rfl k) k
theorem ow_idiv (C : OwnCtx p s m meth c Z a0 tw y0 bytes ml ret) (A : OwnPos p l e R s m args below meth c h0 ws T h ck sk) {x y : Int32} (hd : decode bytes pc = .ok (.idiv, 1)) (hy : y ≠ 0) (hp : pc + 1 = pc') (k : OwnWP p e below s h0 ws Q CK SK T (mkF m pc' Ls (.int (x / y) :: S))) : OwnWP p e below s h0 ws Q CK SK T (mkF m pc Ls (.int y :: .int x :: S)) := by
  obtain ⟨locs, X, -⟩ := A; subst hp
  exact ow_st (fun _ k => XS.idiv X.here C.1 rfl (hb C.2.2.2.1 hd) rfl hy k) k
theorem ow_irem (C : OwnCtx p s m meth c Z a0 tw y0 bytes ml ret) (A : OwnPos p l e R s m args below meth c h0 ws T h ck sk) {x y : Int32} (hd : decode bytes pc = .ok (.irem, 1)) (hy : y ≠ 0) (hp : pc + 1 = pc') (k : OwnWP p e below s h0 ws Q CK SK T (mkF m pc' Ls (.int (x % y) :: S))) : OwnWP p e below s h0 ws Q CK SK T (mkF m pc Ls (.int y :: .int x :: S)) := by
  obtain ⟨locs, X, -⟩ := A; subst hp
  exact ow_st (fun _ k => iremM X C.1 rfl (hb C.2.2.2.1 hd) rfl hy k) k
theorem ow_ldiv (C : OwnCtx p s m meth c Z a0 tw y0 bytes ml ret) (A : OwnPos p l e R s m args below meth c h0 ws T h ck sk) {x y : Int64} (hd : decode bytes pc = .ok (.ldiv, 1)) (hy : y ≠ 0) (hp : pc + 1 = pc') (k : OwnWP p e below s h0 ws Q CK SK T (mkF m pc' Ls (.long (x / y) :: S))) : OwnWP p e below s h0 ws Q CK SK T (mkF m pc Ls (.long y :: .long x :: S)) := by
  obtain ⟨locs, X, -⟩ := A; subst hp
  exact ow_st (fun _ k => XS.ldiv X.here C.1 rfl (hb C.2.2.2.1 hd) rfl hy k) k
theorem ow_lrem (C : OwnCtx p s m meth c Z a0 tw y0 bytes ml ret) (A : OwnPos p l e R s m args below meth c h0 ws T h ck sk) {x y : Int64} (hd : decode bytes pc = .ok (.lrem, 1)) (hy : y ≠ 0) (hp : pc + 1 = pc') (k : OwnWP p e below s h0 ws Q CK SK T (mkF m pc' Ls (.long (x % y) :: S))) : OwnWP p e below s h0 ws Q CK SK T (mkF m pc Ls (.long y :: .long x :: S)) := by
  obtain ⟨locs, X, -⟩ := A; subst hp
  exact ow_st (fun _ k => XS.lrem X.here C.1 rfl (hb C.2.2.2.1 hd) rfl hy (by rw [lrem_mod]; exact k)) k
theorem ow_ineg (C : OwnCtx p s m meth c Z a0 tw y0 bytes ml ret) (A : OwnPos p l e R s m args below meth c h0 ws T h ck sk) {x : Int32} (hd : decode bytes pc = .ok (.ineg, 1)) (hp : pc + 1 = pc') (k : OwnWP p e below s h0 ws Q CK SK T (mkF m pc' Ls (.int (-x) :: S))) : OwnWP p e below s h0 ws Q CK SK T (mkF m pc Ls (.int x :: S)) := by
  obtain ⟨locs, X, -⟩ := A; subst hp
  exact ow_st (fun _ k => XS.ineg X.here C.1 rfl (hb C.2.2.2.1 hd) rfl k) k
theorem ow_lneg (C : OwnCtx p s m meth c Z a0 tw y0 bytes ml ret) (A : OwnPos p l e R s m args below meth c h0 ws T h ck sk) {x : Int64} (hd : decode bytes pc = .ok (.lneg, 1)) (hp : pc + 1 = pc') (k : OwnWP p e below s h0 ws Q CK SK T (mkF m pc' Ls (.long (-x) :: S))) : OwnWP p e below s h0 ws Q CK SK T (mkF m pc Ls (.long x :: S)) := by
  obtain ⟨locs, X, -⟩ := A; subst hp
  exact ow_st (fun _ k => XS.lneg X.here C.1 rfl (hb C.2.2.2.1 hd) rfl k) k
theorem ow_i2l (C : OwnCtx p s m meth c Z a0 tw y0 bytes ml ret) (A : OwnPos p l e R s m args below meth c h0 ws T h ck sk) {x : Int32} (hd : decode bytes pc = .ok (.i2l, 1)) (hp : pc + 1 = pc') (k : OwnWP p e below s h0 ws Q CK SK T (mkF m pc' Ls (.long x.toInt64 :: S))) : OwnWP p e below s h0 ws Q CK SK T (mkF m pc Ls (.int x :: S)) := by
  obtain ⟨locs, X, -⟩ := A; subst hp
  exact ow_st (fun _ k => XS.i2l X.here C.1 rfl (hb C.2.2.2.1 hd) rfl k) k
theorem ow_l2i (C : OwnCtx p s m meth c Z a0 tw y0 bytes ml ret) (A : OwnPos p l e R s m args below meth c h0 ws T h ck sk) {x : Int64} (hd : decode bytes pc = .ok (.l2i, 1)) (hp : pc + 1 = pc') (k : OwnWP p e below s h0 ws Q CK SK T (mkF m pc' Ls (.int x.toInt32 :: S))) : OwnWP p e below s h0 ws Q CK SK T (mkF m pc Ls (.long x :: S)) := by
  obtain ⟨locs, X, -⟩ := A; subst hp
  exact ow_st (fun _ k => XS.l2i X.here C.1 rfl (hb C.2.2.2.1 hd) rfl k) k
theorem ow_i2b (C : OwnCtx p s m meth c Z a0 tw y0 bytes ml ret) (A : OwnPos p l e R s m args below meth c h0 ws T h ck sk) {x : Int32} (hd : decode bytes pc = .ok (.i2b, 1)) (hp : pc + 1 = pc') (k : OwnWP p e below s h0 ws Q CK SK T (mkF m pc' Ls (.int x.toInt8.toInt32 :: S))) : OwnWP p e below s h0 ws Q CK SK T (mkF m pc Ls (.int x :: S)) := by
  obtain ⟨locs, X, -⟩ := A; subst hp
  exact ow_st (fun _ k => XS.i2b X.here C.1 rfl (hb C.2.2.2.1 hd) rfl k) k
theorem ow_i2s (C : OwnCtx p s m meth c Z a0 tw y0 bytes ml ret) (A : OwnPos p l e R s m args below meth c h0 ws T h ck sk) {x : Int32} (hd : decode bytes pc = .ok (.i2s, 1)) (hp : pc + 1 = pc') (k : OwnWP p e below s h0 ws Q CK SK T (mkF m pc' Ls (.int x.toInt16.toInt32 :: S))) : OwnWP p e below s h0 ws Q CK SK T (mkF m pc Ls (.int x :: S)) := by
  obtain ⟨locs, X, -⟩ := A; subst hp
  exact ow_st (fun _ k => XS.i2s X.here C.1 rfl (hb C.2.2.2.1 hd) rfl k) k
theorem ow_i2c (C : OwnCtx p s m meth c Z a0 tw y0 bytes ml ret) (A : OwnPos p l e R s m args below meth c h0 ws T h ck sk) {x : Int32} (hd : decode bytes pc = .ok (.i2c, 1)) (hp : pc + 1 = pc') (k : OwnWP p e below s h0 ws Q CK SK T (mkF m pc' Ls (.int x.toUInt32.toUInt16.toUInt32.toInt32 :: S))) : OwnWP p e below s h0 ws Q CK SK T (mkF m pc Ls (.int x :: S)) := by
  obtain ⟨locs, X, -⟩ := A; subst hp
  exact ow_st (fun _ k => XS.i2c X.here C.1 rfl (hb C.2.2.2.1 hd) rfl k) k
theorem ow_iconst (C : OwnCtx p s m meth c Z a0 tw y0 bytes ml ret) (A : OwnPos p l e R s m args below meth c h0 ws T h ck sk) {i : Int} {v : Int32} (hd : decode bytes pc = .ok (.iconst i, 1)) (hv : Int32.ofInt i = v) (hp : pc + 1 = pc') (k : OwnWP p e below s h0 ws Q CK SK T (mkF m pc' Ls (.int v :: S))) : OwnWP p e below s h0 ws Q CK SK T (mkF m pc Ls (S)) := by
  obtain ⟨locs, X, -⟩ := A; subst hp
  exact ow_st (fun _ k => by subst hv; exact XS.iconst X.here C.1 rfl (hb C.2.2.2.1 hd) k) k
theorem ow_bipush (C : OwnCtx p s m meth c Z a0 tw y0 bytes ml ret) (A : OwnPos p l e R s m args below meth c h0 ws T h ck sk) {i : Int} {v : Int32} (hd : decode bytes pc = .ok (.bipush i, 2)) (hv : (Int8.ofInt i).toInt32 = v) (hp : pc + 2 = pc') (k : OwnWP p e below s h0 ws Q CK SK T (mkF m pc' Ls (.int v :: S))) : OwnWP p e below s h0 ws Q CK SK T (mkF m pc Ls (S)) := by
  obtain ⟨locs, X, -⟩ := A; subst hp
  exact ow_st (fun _ k => by subst hv; exact XS.bipush X.here C.1 rfl (hb C.2.2.2.1 hd) k) k
theorem ow_sipush (C : OwnCtx p s m meth c Z a0 tw y0 bytes ml ret) (A : OwnPos p l e R s m args below meth c h0 ws T h ck sk) {i : Int} {v : Int32} (hd : decode bytes pc = .ok (.sipush i, 3)) (hv : (Int16.ofInt i).toInt32 = v) (hp : pc + 3 = pc') (k : OwnWP p e below s h0 ws Q CK SK T (mkF m pc' Ls (.int v :: S))) : OwnWP p e below s h0 ws Q CK SK T (mkF m pc Ls (S)) := by
  obtain ⟨locs, X, -⟩ := A; subst hp
  exact ow_st (fun _ k => by subst hv; exact XS.sipush X.here C.1 rfl (hb C.2.2.2.1 hd) k) k
theorem ow_lconst (C : OwnCtx p s m meth c Z a0 tw y0 bytes ml ret) (A : OwnPos p l e R s m args below meth c h0 ws T h ck sk) {i : Fin 2} {v : Int64} (hd : decode bytes pc = .ok (.lconst i, 1)) (hv : Int64.ofNat i = v) (hp : pc + 1 = pc') (k : OwnWP p e below s h0 ws Q CK SK T (mkF m pc' Ls (.long v :: S))) : OwnWP p e below s h0 ws Q CK SK T (mkF m pc Ls (S)) := by
  obtain ⟨locs, X, -⟩ := A; subst hp
  exact ow_st (fun _ k => by subst hv; exact XS.lconst X.here C.1 rfl (hb C.2.2.2.1 hd) k) k
theorem ow_aconst_null (C : OwnCtx p s m meth c Z a0 tw y0 bytes ml ret) (A : OwnPos p l e R s m args below meth c h0 ws T h ck sk)  (hd : decode bytes pc = .ok (.aconst_null, 1)) (hp : pc + 1 = pc') (k : OwnWP p e below s h0 ws Q CK SK T (mkF m pc' Ls (.null :: S))) : OwnWP p e below s h0 ws Q CK SK T (mkF m pc Ls (S)) := by
  obtain ⟨locs, X, -⟩ := A; subst hp
  exact ow_st (fun _ k => XS.aconstNull X.here C.1 rfl (hb C.2.2.2.1 hd) k) k
theorem ow_iload (C : OwnCtx p s m meth c Z a0 tw y0 bytes ml ret) (A : OwnPos p l e R s m args below meth c h0 ws T h ck sk) {j : Nat} {v : Int32} (hd : decode bytes pc = .ok (.iload j, 2)) (hl : Ls[j]? = some (.val (.int v))) (hp : pc + 2 = pc') (k : OwnWP p e below s h0 ws Q CK SK T (mkF m pc' Ls (.int v :: S))) : OwnWP p e below s h0 ws Q CK SK T (mkF m pc Ls (S)) := by
  obtain ⟨locs, X, -⟩ := A; subst hp
  exact ow_st (fun _ k => XS.iload X.here C.1 rfl (hb C.2.2.2.1 hd) hl k) k
theorem ow_iloadN (C : OwnCtx p s m meth c Z a0 tw y0 bytes ml ret) (A : OwnPos p l e R s m args below meth c h0 ws T h ck sk) {j : Fin 4} {v : Int32} (hd : decode bytes pc = .ok (.iload_n j, 1)) (hl : Ls[j.val]? = some (.val (.int v))) (hp : pc + 1 = pc') (k : OwnWP p e below s h0 ws Q CK SK T (mkF m pc' Ls (.int v :: S))) : OwnWP p e below s h0 ws Q CK SK T (mkF m pc Ls (S)) := by
  obtain ⟨locs, X, -⟩ := A; subst hp
  exact ow_st (fun _ k => XS.iloadN X.here C.1 rfl (hb C.2.2.2.1 hd) hl k) k
theorem ow_lload (C : OwnCtx p s m meth c Z a0 tw y0 bytes ml ret) (A : OwnPos p l e R s m args below meth c h0 ws T h ck sk) {j : Nat} {v : Int64} (hd : decode bytes pc = .ok (.lload j, 2)) (hl : Ls[j]? = some (.val (.long v))) (hp : pc + 2 = pc') (k : OwnWP p e below s h0 ws Q CK SK T (mkF m pc' Ls (.long v :: S))) : OwnWP p e below s h0 ws Q CK SK T (mkF m pc Ls (S)) := by
  obtain ⟨locs, X, -⟩ := A; subst hp
  exact ow_st (fun _ k => XS.lload X.here C.1 rfl (hb C.2.2.2.1 hd) hl k) k
theorem ow_lloadN (C : OwnCtx p s m meth c Z a0 tw y0 bytes ml ret) (A : OwnPos p l e R s m args below meth c h0 ws T h ck sk) {j : Fin 4} {v : Int64} (hd : decode bytes pc = .ok (.lload_n j, 1)) (hl : Ls[j.val]? = some (.val (.long v))) (hp : pc + 1 = pc') (k : OwnWP p e below s h0 ws Q CK SK T (mkF m pc' Ls (.long v :: S))) : OwnWP p e below s h0 ws Q CK SK T (mkF m pc Ls (S)) := by
  obtain ⟨locs, X, -⟩ := A; subst hp
  exact ow_st (fun _ k => XS.lloadN X.here C.1 rfl (hb C.2.2.2.1 hd) hl k) k
theorem ow_aload (C : OwnCtx p s m meth c Z a0 tw y0 bytes ml ret) (A : OwnPos p l e R s m args below meth c h0 ws T h ck sk) {j : Nat} {v : Value} (hd : decode bytes pc = .ok (.aload j, 2)) (hl : Ls[j]? = some (.val v)) (hv : v.isRef = true) (hp : pc + 2 = pc') (k : OwnWP p e below s h0 ws Q CK SK T (mkF m pc' Ls (v :: S))) : OwnWP p e below s h0 ws Q CK SK T (mkF m pc Ls (S)) := by
  obtain ⟨locs, X, -⟩ := A; subst hp
  exact ow_st (fun _ k => XS.aload X.here C.1 rfl (hb C.2.2.2.1 hd) hl hv k) k
theorem ow_aloadN (C : OwnCtx p s m meth c Z a0 tw y0 bytes ml ret) (A : OwnPos p l e R s m args below meth c h0 ws T h ck sk) {j : Fin 4} {v : Value} (hd : decode bytes pc = .ok (.aload_n j, 1)) (hl : Ls[j.val]? = some (.val v)) (hv : v.isRef = true) (hp : pc + 1 = pc') (k : OwnWP p e below s h0 ws Q CK SK T (mkF m pc' Ls (v :: S))) : OwnWP p e below s h0 ws Q CK SK T (mkF m pc Ls (S)) := by
  obtain ⟨locs, X, -⟩ := A; subst hp
  exact ow_st (fun _ k => XS.aloadN X.here C.1 rfl (hb C.2.2.2.1 hd) hl hv k) k
theorem ow_istore (C : OwnCtx p s m meth c Z a0 tw y0 bytes ml ret) (A : OwnPos p l e R s m args below meth c h0 ws T h ck sk) {j : Nat} {v : Int32} (hd : decode bytes pc = .ok (.istore j, 2)) (hl : storeLocals Ls j (.int v) = some Ls') (hp : pc + 2 = pc') (k : OwnWP p e below s h0 ws Q CK SK T (mkF m pc' Ls' (S))) : OwnWP p e below s h0 ws Q CK SK T (mkF m pc Ls (.int v :: S)) := by
  obtain ⟨locs, X, -⟩ := A; subst hp
  exact ow_st (fun _ k => XS.istore X.here C.1 rfl (hb C.2.2.2.1 hd) rfl hl k) k
theorem ow_istoreN (C : OwnCtx p s m meth c Z a0 tw y0 bytes ml ret) (A : OwnPos p l e R s m args below meth c h0 ws T h ck sk) {j : Fin 4} {v : Int32} (hd : decode bytes pc = .ok (.istore_n j, 1)) (hl : storeLocals Ls j.val (.int v) = some Ls') (hp : pc + 1 = pc') (k : OwnWP p e below s h0 ws Q CK SK T (mkF m pc' Ls' (S))) : OwnWP p e below s h0 ws Q CK SK T (mkF m pc Ls (.int v :: S)) := by
  obtain ⟨locs, X, -⟩ := A; subst hp
  exact ow_st (fun _ k => XS.istoreN X.here C.1 rfl (hb C.2.2.2.1 hd) rfl hl k) k
theorem ow_lstore (C : OwnCtx p s m meth c Z a0 tw y0 bytes ml ret) (A : OwnPos p l e R s m args below meth c h0 ws T h ck sk) {j : Nat} {v : Int64} (hd : decode bytes pc = .ok (.lstore j, 2)) (hl : storeLocals Ls j (.long v) = some Ls') (hp : pc + 2 = pc') (k : OwnWP p e below s h0 ws Q CK SK T (mkF m pc' Ls' (S))) : OwnWP p e below s h0 ws Q CK SK T (mkF m pc Ls (.long v :: S)) := by
  obtain ⟨locs, X, -⟩ := A; subst hp
  exact ow_st (fun _ k => XS.lstore X.here C.1 rfl (hb C.2.2.2.1 hd) rfl hl k) k
theorem ow_lstoreN (C : OwnCtx p s m meth c Z a0 tw y0 bytes ml ret) (A : OwnPos p l e R s m args below meth c h0 ws T h ck sk) {j : Fin 4} {v : Int64} (hd : decode bytes pc = .ok (.lstore_n j, 1)) (hl : storeLocals Ls j.val (.long v) = some Ls') (hp : pc + 1 = pc') (k : OwnWP p e below s h0 ws Q CK SK T (mkF m pc' Ls' (S))) : OwnWP p e below s h0 ws Q CK SK T (mkF m pc Ls (.long v :: S)) := by
  obtain ⟨locs, X, -⟩ := A; subst hp
  exact ow_st (fun _ k => XS.lstoreN X.here C.1 rfl (hb C.2.2.2.1 hd) rfl hl k) k
theorem ow_astore (C : OwnCtx p s m meth c Z a0 tw y0 bytes ml ret) (A : OwnPos p l e R s m args below meth c h0 ws T h ck sk) {j : Nat} {v : Value} (hd : decode bytes pc = .ok (.astore j, 2)) (hv : v.isRef = true) (hl : storeLocals Ls j v = some Ls') (hp : pc + 2 = pc') (k : OwnWP p e below s h0 ws Q CK SK T (mkF m pc' Ls' (S))) : OwnWP p e below s h0 ws Q CK SK T (mkF m pc Ls (v :: S)) := by
  obtain ⟨locs, X, -⟩ := A; subst hp
  exact ow_st (fun _ k => XS.astore X.here C.1 rfl (hb C.2.2.2.1 hd) rfl hv hl k) k
theorem ow_astoreN (C : OwnCtx p s m meth c Z a0 tw y0 bytes ml ret) (A : OwnPos p l e R s m args below meth c h0 ws T h ck sk) {j : Fin 4} {v : Value} (hd : decode bytes pc = .ok (.astore_n j, 1)) (hv : v.isRef = true) (hl : storeLocals Ls j.val v = some Ls') (hp : pc + 1 = pc') (k : OwnWP p e below s h0 ws Q CK SK T (mkF m pc' Ls' (S))) : OwnWP p e below s h0 ws Q CK SK T (mkF m pc Ls (v :: S)) := by
  obtain ⟨locs, X, -⟩ := A; subst hp
  exact ow_st (fun _ k => XS.astoreN X.here C.1 rfl (hb C.2.2.2.1 hd) rfl hv hl k) k
theorem ow_iinc (C : OwnCtx p s m meth c Z a0 tw y0 bytes ml ret) (A : OwnPos p l e R s m args below meth c h0 ws T h ck sk) {j : Nat} {cst : Int} {v : Int32} (hd : decode bytes pc = .ok (.iinc j cst, 3)) (hl : Ls[j]? = some (.val (.int v))) (hl' : storeLocals Ls j (.int (v + Int32.ofInt cst)) = some Ls') (hp : pc + 3 = pc') (k : OwnWP p e below s h0 ws Q CK SK T (mkF m pc' Ls' (S))) : OwnWP p e below s h0 ws Q CK SK T (mkF m pc Ls (S)) := by
  obtain ⟨locs, X, -⟩ := A; subst hp
  exact ow_st (fun _ k => XS.iinc X.here C.1 rfl (hb C.2.2.2.1 hd) hl hl' k) k
theorem ow_dup (C : OwnCtx p s m meth c Z a0 tw y0 bytes ml ret) (A : OwnPos p l e R s m args below meth c h0 ws T h ck sk) {v : Value} (hd : decode bytes pc = .ok (.dup, 1)) (hc : v.category = 1) (hp : pc + 1 = pc') (k : OwnWP p e below s h0 ws Q CK SK T (mkF m pc' Ls (v :: v :: S))) : OwnWP p e below s h0 ws Q CK SK T (mkF m pc Ls (v :: S)) := by
  obtain ⟨locs, X, -⟩ := A; subst hp
  exact ow_st (fun _ k => XS.dup X.here C.1 rfl (hb C.2.2.2.1 hd) rfl hc k) k
theorem ow_dup_x1 (C : OwnCtx p s m meth c Z a0 tw y0 bytes ml ret) (A : OwnPos p l e R s m args below meth c h0 ws T h ck sk) {v w : Value} (hd : decode bytes pc = .ok (.dup_x1, 1)) (hc : v.category = 1) (hc' : w.category = 1) (hp : pc + 1 = pc') (k : OwnWP p e below s h0 ws Q CK SK T (mkF m pc' Ls (v :: w :: v :: S))) : OwnWP p e below s h0 ws Q CK SK T (mkF m pc Ls (v :: w :: S)) := by
  obtain ⟨locs, X, -⟩ := A; subst hp
  exact ow_st (fun _ k => XS.dupX1 X.here C.1 rfl (hb C.2.2.2.1 hd) rfl hc hc' k) k
theorem ow_dup2 (C : OwnCtx p s m meth c Z a0 tw y0 bytes ml ret) (A : OwnPos p l e R s m args below meth c h0 ws T h ck sk) {v w : Value} (hd : decode bytes pc = .ok (.dup2, 1)) (hc : v.category = 1) (hc' : w.category = 1) (hp : pc + 1 = pc') (k : OwnWP p e below s h0 ws Q CK SK T (mkF m pc' Ls (v :: w :: v :: w :: S))) : OwnWP p e below s h0 ws Q CK SK T (mkF m pc Ls (v :: w :: S)) := by
  obtain ⟨locs, X, -⟩ := A; subst hp
  exact ow_st (fun _ k => XT.dup2 X.here C.1 rfl (hb C.2.2.2.1 hd) rfl hc hc' k) k
theorem ow_pop (C : OwnCtx p s m meth c Z a0 tw y0 bytes ml ret) (A : OwnPos p l e R s m args below meth c h0 ws T h ck sk) {v : Value} (hd : decode bytes pc = .ok (.pop, 1)) (hc : v.category = 1) (hp : pc + 1 = pc') (k : OwnWP p e below s h0 ws Q CK SK T (mkF m pc' Ls (S))) : OwnWP p e below s h0 ws Q CK SK T (mkF m pc Ls (v :: S)) := by
  obtain ⟨locs, X, -⟩ := A; subst hp
  exact ow_st (fun _ k => XS.pop X.here C.1 rfl (hb C.2.2.2.1 hd) rfl hc k) k
theorem ow_goto (C : OwnCtx p s m meth c Z a0 tw y0 bytes ml ret) (A : OwnPos p l e R s m args below meth c h0 ws T h ck sk) {o : Int} (hd : decode bytes pc = .ok (.goto o, 3)) (ho : 0 ≤ (pc : Int) + o) (hp : ((pc : Int) + o).toNat = pc') (k : OwnWP p e below s h0 ws Q CK SK T (mkF m pc' Ls S)) : OwnWP p e below s h0 ws Q CK SK T (mkF m pc Ls S) := by
  obtain ⟨locs, X, -⟩ := A
  exact ow_st (fun _ k => XS.goto X.here C.1 rfl (pc0 := pc) (pc' := pc') rfl (hb C.2.2.2.1 hd) ho hp k) k
theorem ow_icmp_lt (C : OwnCtx p s m meth c Z a0 tw y0 bytes ml ret) (A : OwnPos p l e R s m args below meth c h0 ws T h ck sk) {x y : Int32} {o : Int} {pcY pcN : Nat} (hd : decode bytes pc = .ok (.if_icmp .lt o, 3)) (ho : 0 ≤ (pc : Int) + o) (hpY : ((pc : Int) + o).toNat = pcY) (hpN : pc + 3 = pcN) (kY : x < y → OwnWP p e below s h0 ws Q CK SK T (mkF m pcY Ls S)) (kN : ¬ (x < y) → OwnWP p e below s h0 ws Q CK SK T (mkF m pcN Ls S)) : OwnWP p e below s h0 ws Q CK SK T (mkF m pc Ls (.int y :: .int x :: S)) := by
  obtain ⟨locs, X, -⟩ := A; subst hpN
  by_cases q : x < y
  · exact ow_st (fun _ k => XS.icmpYes X.here C.1 rfl (pc0 := pc) (pc' := pcY) rfl (hb C.2.2.2.1 hd) rfl (tlt q).1 ho hpY k) (kY q)
  · exact ow_st (fun _ k => XS.icmpNo X.here C.1 rfl (hb C.2.2.2.1 hd) rfl (flt q).1 k) (kN q)
theorem ow_if_lt (C : OwnCtx p s m meth c Z a0 tw y0 bytes ml ret) (A : OwnPos p l e R s m args below meth c h0 ws T h ck sk) {x : Int32} {o : Int} {pcY pcN : Nat} (hd : decode bytes pc = .ok (.ifCond .lt o, 3)) (ho : 0 ≤ (pc : Int) + o) (hpY : ((pc : Int) + o).toNat = pcY) (hpN : pc + 3 = pcN) (kY : x < 0 → OwnWP p e below s h0 ws Q CK SK T (mkF m pcY Ls S)) (kN : ¬ (x < 0) → OwnWP p e below s h0 ws Q CK SK T (mkF m pcN Ls S)) : OwnWP p e below s h0 ws Q CK SK T (mkF m pc Ls (.int x :: S)) := by
  obtain ⟨locs, X, -⟩ := A; subst hpN
  by_cases q : x < 0
  · exact ow_st (fun _ k => XS.ifYes X.here C.1 rfl (pc0 := pc) (pc' := pcY) rfl (hb C.2.2.2.1 hd) rfl ((if0 _ _).trans (tlt q).1) ho hpY k) (kY q)
  · exact ow_st (fun _ k => XS.ifNo X.here C.1 rfl (hb C.2.2.2.1 hd) rfl ((if0 _ _).trans (flt q).1) k) (kN q)
theorem ow_lcmp_lt (C : OwnCtx p s m meth c Z a0 tw y0 bytes ml ret) (A : OwnPos p l e R s m args below meth c h0 ws T h ck sk) {x y : Int64} {o : Int} {pc1 pcY pcN : Nat} (hd : decode bytes pc = .ok (.lcmp, 1)) (hp1 : pc + 1 = pc1) (hd1 : decode bytes pc1 = .ok (.ifCond .lt o, 3)) (ho : 0 ≤ (pc1 : Int) + o) (hpY : ((pc1 : Int) + o).toNat = pcY) (hpN : pc1 + 3 = pcN) (kY : x < y → OwnWP p e below s h0 ws Q CK SK T (mkF m pcY Ls S)) (kN : ¬ (x < y) → OwnWP p e below s h0 ws Q CK SK T (mkF m pcN Ls S)) : OwnWP p e below s h0 ws Q CK SK T (mkF m pc Ls (.long y :: .long x :: S)) := by
  have A' := A; obtain ⟨locs, X, -⟩ := A'; subst hp1
  refine ow_st (fun _ k => XS.lcmp X.here C.1 rfl (hb C.2.2.2.1 hd) rfl k) ?_
  show OwnWP p e below s h0 ws Q CK SK T (mkF m (pc + 1) Ls (.int (lcmpW x y) :: S))
  exact ow_if_lt C A hd1 ho hpY hpN (fun q => kY ((lw_lt x y).mp q)) (fun q => kN (fun z => q ((lw_lt x y).mpr z)))
theorem ow_icmp_ge (C : OwnCtx p s m meth c Z a0 tw y0 bytes ml ret) (A : OwnPos p l e R s m args below meth c h0 ws T h ck sk) {x y : Int32} {o : Int} {pcY pcN : Nat} (hd : decode bytes pc = .ok (.if_icmp .ge o, 3)) (ho : 0 ≤ (pc : Int) + o) (hpY : ((pc : Int) + o).toNat = pcY) (hpN : pc + 3 = pcN) (kY : ¬ (x < y) → OwnWP p e below s h0 ws Q CK SK T (mkF m pcY Ls S)) (kN : x < y → OwnWP p e below s h0 ws Q CK SK T (mkF m pcN Ls S)) : OwnWP p e below s h0 ws Q CK SK T (mkF m pc Ls (.int y :: .int x :: S)) := by
  obtain ⟨locs, X, -⟩ := A; subst hpN
  by_cases q : x < y
  · exact ow_st (fun _ k => XS.icmpNo X.here C.1 rfl (hb C.2.2.2.1 hd) rfl (tlt q).2.1 k) (kN q)
  · exact ow_st (fun _ k => XS.icmpYes X.here C.1 rfl (pc0 := pc) (pc' := pcY) rfl (hb C.2.2.2.1 hd) rfl (flt q).2.1 ho hpY k) (kY q)
theorem ow_if_ge (C : OwnCtx p s m meth c Z a0 tw y0 bytes ml ret) (A : OwnPos p l e R s m args below meth c h0 ws T h ck sk) {x : Int32} {o : Int} {pcY pcN : Nat} (hd : decode bytes pc = .ok (.ifCond .ge o, 3)) (ho : 0 ≤ (pc : Int) + o) (hpY : ((pc : Int) + o).toNat = pcY) (hpN : pc + 3 = pcN) (kY : ¬ (x < 0) → OwnWP p e below s h0 ws Q CK SK T (mkF m pcY Ls S)) (kN : x < 0 → OwnWP p e below s h0 ws Q CK SK T (mkF m pcN Ls S)) : OwnWP p e below s h0 ws Q CK SK T (mkF m pc Ls (.int x :: S)) := by
  obtain ⟨locs, X, -⟩ := A; subst hpN
  by_cases q : x < 0
  · exact ow_st (fun _ k => XS.ifNo X.here C.1 rfl (hb C.2.2.2.1 hd) rfl ((if0 _ _).trans (tlt q).2.1) k) (kN q)
  · exact ow_st (fun _ k => XS.ifYes X.here C.1 rfl (pc0 := pc) (pc' := pcY) rfl (hb C.2.2.2.1 hd) rfl ((if0 _ _).trans (flt q).2.1) ho hpY k) (kY q)
theorem ow_lcmp_ge (C : OwnCtx p s m meth c Z a0 tw y0 bytes ml ret) (A : OwnPos p l e R s m args below meth c h0 ws T h ck sk) {x y : Int64} {o : Int} {pc1 pcY pcN : Nat} (hd : decode bytes pc = .ok (.lcmp, 1)) (hp1 : pc + 1 = pc1) (hd1 : decode bytes pc1 = .ok (.ifCond .ge o, 3)) (ho : 0 ≤ (pc1 : Int) + o) (hpY : ((pc1 : Int) + o).toNat = pcY) (hpN : pc1 + 3 = pcN) (kY : ¬ (x < y) → OwnWP p e below s h0 ws Q CK SK T (mkF m pcY Ls S)) (kN : x < y → OwnWP p e below s h0 ws Q CK SK T (mkF m pcN Ls S)) : OwnWP p e below s h0 ws Q CK SK T (mkF m pc Ls (.long y :: .long x :: S)) := by
  have A' := A; obtain ⟨locs, X, -⟩ := A'; subst hp1
  refine ow_st (fun _ k => XS.lcmp X.here C.1 rfl (hb C.2.2.2.1 hd) rfl k) ?_
  show OwnWP p e below s h0 ws Q CK SK T (mkF m (pc + 1) Ls (.int (lcmpW x y) :: S))
  exact ow_if_ge C A hd1 ho hpY hpN (fun q => kY (fun z => q ((lw_lt x y).mpr z))) (fun q => kN ((lw_lt x y).mp q))
theorem ow_icmp_gt (C : OwnCtx p s m meth c Z a0 tw y0 bytes ml ret) (A : OwnPos p l e R s m args below meth c h0 ws T h ck sk) {x y : Int32} {o : Int} {pcY pcN : Nat} (hd : decode bytes pc = .ok (.if_icmp .gt o, 3)) (ho : 0 ≤ (pc : Int) + o) (hpY : ((pc : Int) + o).toNat = pcY) (hpN : pc + 3 = pcN) (kY : y < x → OwnWP p e below s h0 ws Q CK SK T (mkF m pcY Ls S)) (kN : ¬ (y < x) → OwnWP p e below s h0 ws Q CK SK T (mkF m pcN Ls S)) : OwnWP p e below s h0 ws Q CK SK T (mkF m pc Ls (.int y :: .int x :: S)) := by
  obtain ⟨locs, X, -⟩ := A; subst hpN
  by_cases q : y < x
  · exact ow_st (fun _ k => XS.icmpYes X.here C.1 rfl (pc0 := pc) (pc' := pcY) rfl (hb C.2.2.2.1 hd) rfl (tlt q).2.2.1 ho hpY k) (kY q)
  · exact ow_st (fun _ k => XS.icmpNo X.here C.1 rfl (hb C.2.2.2.1 hd) rfl (flt q).2.2.1 k) (kN q)
theorem ow_if_gt (C : OwnCtx p s m meth c Z a0 tw y0 bytes ml ret) (A : OwnPos p l e R s m args below meth c h0 ws T h ck sk) {x : Int32} {o : Int} {pcY pcN : Nat} (hd : decode bytes pc = .ok (.ifCond .gt o, 3)) (ho : 0 ≤ (pc : Int) + o) (hpY : ((pc : Int) + o).toNat = pcY) (hpN : pc + 3 = pcN) (kY : 0 < x → OwnWP p e below s h0 ws Q CK SK T (mkF m pcY Ls S)) (kN : ¬ (0 < x) → OwnWP p e below s h0 ws Q CK SK T (mkF m pcN Ls S)) : OwnWP p e below s h0 ws Q CK SK T (mkF m pc Ls (.int x :: S)) := by
  obtain ⟨locs, X, -⟩ := A; subst hpN
  by_cases q : 0 < x
  · exact ow_st (fun _ k => XS.ifYes X.here C.1 rfl (pc0 := pc) (pc' := pcY) rfl (hb C.2.2.2.1 hd) rfl ((if0 _ _).trans (tlt q).2.2.1) ho hpY k) (kY q)
  · exact ow_st (fun _ k => XS.ifNo X.here C.1 rfl (hb C.2.2.2.1 hd) rfl ((if0 _ _).trans (flt q).2.2.1) k) (kN q)
theorem ow_lcmp_gt (C : OwnCtx p s m meth c Z a0 tw y0 bytes ml ret) (A : OwnPos p l e R s m args below meth c h0 ws T h ck sk) {x y : Int64} {o : Int} {pc1 pcY pcN : Nat} (hd : decode bytes pc = .ok (.lcmp, 1)) (hp1 : pc + 1 = pc1) (hd1 : decode bytes pc1 = .ok (.ifCond .gt o, 3)) (ho : 0 ≤ (pc1 : Int) + o) (hpY : ((pc1 : Int) + o).toNat = pcY) (hpN : pc1 + 3 = pcN) (kY : y < x → OwnWP p e below s h0 ws Q CK SK T (mkF m pcY Ls S)) (kN : ¬ (y < x) → OwnWP p e below s h0 ws Q CK SK T (mkF m pcN Ls S)) : OwnWP p e below s h0 ws Q CK SK T (mkF m pc Ls (.long y :: .long x :: S)) := by
  have A' := A; obtain ⟨locs, X, -⟩ := A'; subst hp1
  refine ow_st (fun _ k => XS.lcmp X.here C.1 rfl (hb C.2.2.2.1 hd) rfl k) ?_
  show OwnWP p e below s h0 ws Q CK SK T (mkF m (pc + 1) Ls (.int (lcmpW x y) :: S))
  exact ow_if_gt C A hd1 ho hpY hpN (fun q => kY ((lw_gt x y).mp q)) (fun q => kN (fun z => q ((lw_gt x y).mpr z)))
theorem ow_icmp_le (C : OwnCtx p s m meth c Z a0 tw y0 bytes ml ret) (A : OwnPos p l e R s m args below meth c h0 ws T h ck sk) {x y : Int32} {o : Int} {pcY pcN : Nat} (hd : decode bytes pc = .ok (.if_icmp .le o, 3)) (ho : 0 ≤ (pc : Int) + o) (hpY : ((pc : Int) + o).toNat = pcY) (hpN : pc + 3 = pcN) (kY : ¬ (y < x) → OwnWP p e below s h0 ws Q CK SK T (mkF m pcY Ls S)) (kN : y < x → OwnWP p e below s h0 ws Q CK SK T (mkF m pcN Ls S)) : OwnWP p e below s h0 ws Q CK SK T (mkF m pc Ls (.int y :: .int x :: S)) := by
  obtain ⟨locs, X, -⟩ := A; subst hpN
  by_cases q : y < x
  · exact ow_st (fun _ k => XS.icmpNo X.here C.1 rfl (hb C.2.2.2.1 hd) rfl (tlt q).2.2.2 k) (kN q)
  · exact ow_st (fun _ k => XS.icmpYes X.here C.1 rfl (pc0 := pc) (pc' := pcY) rfl (hb C.2.2.2.1 hd) rfl (flt q).2.2.2 ho hpY k) (kY q)
theorem ow_if_le (C : OwnCtx p s m meth c Z a0 tw y0 bytes ml ret) (A : OwnPos p l e R s m args below meth c h0 ws T h ck sk) {x : Int32} {o : Int} {pcY pcN : Nat} (hd : decode bytes pc = .ok (.ifCond .le o, 3)) (ho : 0 ≤ (pc : Int) + o) (hpY : ((pc : Int) + o).toNat = pcY) (hpN : pc + 3 = pcN) (kY : ¬ (0 < x) → OwnWP p e below s h0 ws Q CK SK T (mkF m pcY Ls S)) (kN : 0 < x → OwnWP p e below s h0 ws Q CK SK T (mkF m pcN Ls S)) : OwnWP p e below s h0 ws Q CK SK T (mkF m pc Ls (.int x :: S)) := by
  obtain ⟨locs, X, -⟩ := A; subst hpN
  by_cases q : 0 < x
  · exact ow_st (fun _ k => XS.ifNo X.here C.1 rfl (hb C.2.2.2.1 hd) rfl ((if0 _ _).trans (tlt q).2.2.2) k) (kN q)
  · exact ow_st (fun _ k => XS.ifYes X.here C.1 rfl (pc0 := pc) (pc' := pcY) rfl (hb C.2.2.2.1 hd) rfl ((if0 _ _).trans (flt q).2.2.2) ho hpY k) (kY q)
theorem ow_lcmp_le (C : OwnCtx p s m meth c Z a0 tw y0 bytes ml ret) (A : OwnPos p l e R s m args below meth c h0 ws T h ck sk) {x y : Int64} {o : Int} {pc1 pcY pcN : Nat} (hd : decode bytes pc = .ok (.lcmp, 1)) (hp1 : pc + 1 = pc1) (hd1 : decode bytes pc1 = .ok (.ifCond .le o, 3)) (ho : 0 ≤ (pc1 : Int) + o) (hpY : ((pc1 : Int) + o).toNat = pcY) (hpN : pc1 + 3 = pcN) (kY : ¬ (y < x) → OwnWP p e below s h0 ws Q CK SK T (mkF m pcY Ls S)) (kN : y < x → OwnWP p e below s h0 ws Q CK SK T (mkF m pcN Ls S)) : OwnWP p e below s h0 ws Q CK SK T (mkF m pc Ls (.long y :: .long x :: S)) := by
  have A' := A; obtain ⟨locs, X, -⟩ := A'; subst hp1
  refine ow_st (fun _ k => XS.lcmp X.here C.1 rfl (hb C.2.2.2.1 hd) rfl k) ?_
  show OwnWP p e below s h0 ws Q CK SK T (mkF m (pc + 1) Ls (.int (lcmpW x y) :: S))
  exact ow_if_le C A hd1 ho hpY hpN (fun q => kY (fun z => q ((lw_gt x y).mpr z))) (fun q => kN ((lw_gt x y).mp q))
theorem ow_icmp_eq (C : OwnCtx p s m meth c Z a0 tw y0 bytes ml ret) (A : OwnPos p l e R s m args below meth c h0 ws T h ck sk) {x y : Int32} {o : Int} {pcY pcN : Nat} (hd : decode bytes pc = .ok (.if_icmp .eq o, 3)) (ho : 0 ≤ (pc : Int) + o) (hpY : ((pc : Int) + o).toNat = pcY) (hpN : pc + 3 = pcN) (kY : x = y → OwnWP p e below s h0 ws Q CK SK T (mkF m pcY Ls S)) (kN : ¬ (x = y) → OwnWP p e below s h0 ws Q CK SK T (mkF m pcN Ls S)) : OwnWP p e below s h0 ws Q CK SK T (mkF m pc Ls (.int y :: .int x :: S)) := by
  obtain ⟨locs, X, -⟩ := A; subst hpN
  by_cases q : x = y
  · exact ow_st (fun _ k => XS.icmpYes X.here C.1 rfl (pc0 := pc) (pc' := pcY) rfl (hb C.2.2.2.1 hd) rfl (teq q).1 ho hpY k) (kY q)
  · exact ow_st (fun _ k => XS.icmpNo X.here C.1 rfl (hb C.2.2.2.1 hd) rfl (feq q).1 k) (kN q)
theorem ow_if_eq (C : OwnCtx p s m meth c Z a0 tw y0 bytes ml ret) (A : OwnPos p l e R s m args below meth c h0 ws T h ck sk) {x : Int32} {o : Int} {pcY pcN : Nat} (hd : decode bytes pc = .ok (.ifCond .eq o, 3)) (ho : 0 ≤ (pc : Int) + o) (hpY : ((pc : Int) + o).toNat = pcY) (hpN : pc + 3 = pcN) (kY : x = 0 → OwnWP p e below s h0 ws Q CK SK T (mkF m pcY Ls S)) (kN : ¬ (x = 0) → OwnWP p e below s h0 ws Q CK SK T (mkF m pcN Ls S)) : OwnWP p e below s h0 ws Q CK SK T (mkF m pc Ls (.int x :: S)) := by
  obtain ⟨locs, X, -⟩ := A; subst hpN
  by_cases q : x = 0
  · exact ow_st (fun _ k => XS.ifYes X.here C.1 rfl (pc0 := pc) (pc' := pcY) rfl (hb C.2.2.2.1 hd) rfl ((if0 _ _).trans (teq q).1) ho hpY k) (kY q)
  · exact ow_st (fun _ k => XS.ifNo X.here C.1 rfl (hb C.2.2.2.1 hd) rfl ((if0 _ _).trans (feq q).1) k) (kN q)
theorem ow_lcmp_eq (C : OwnCtx p s m meth c Z a0 tw y0 bytes ml ret) (A : OwnPos p l e R s m args below meth c h0 ws T h ck sk) {x y : Int64} {o : Int} {pc1 pcY pcN : Nat} (hd : decode bytes pc = .ok (.lcmp, 1)) (hp1 : pc + 1 = pc1) (hd1 : decode bytes pc1 = .ok (.ifCond .eq o, 3)) (ho : 0 ≤ (pc1 : Int) + o) (hpY : ((pc1 : Int) + o).toNat = pcY) (hpN : pc1 + 3 = pcN) (kY : x = y → OwnWP p e below s h0 ws Q CK SK T (mkF m pcY Ls S)) (kN : ¬ (x = y) → OwnWP p e below s h0 ws Q CK SK T (mkF m pcN Ls S)) : OwnWP p e below s h0 ws Q CK SK T (mkF m pc Ls (.long y :: .long x :: S)) := by
  have A' := A; obtain ⟨locs, X, -⟩ := A'; subst hp1
  refine ow_st (fun _ k => XS.lcmp X.here C.1 rfl (hb C.2.2.2.1 hd) rfl k) ?_
  show OwnWP p e below s h0 ws Q CK SK T (mkF m (pc + 1) Ls (.int (lcmpW x y) :: S))
  exact ow_if_eq C A hd1 ho hpY hpN (fun q => kY ((lw_eq x y).mp q)) (fun q => kN (fun z => q ((lw_eq x y).mpr z)))
theorem ow_icmp_ne (C : OwnCtx p s m meth c Z a0 tw y0 bytes ml ret) (A : OwnPos p l e R s m args below meth c h0 ws T h ck sk) {x y : Int32} {o : Int} {pcY pcN : Nat} (hd : decode bytes pc = .ok (.if_icmp .ne o, 3)) (ho : 0 ≤ (pc : Int) + o) (hpY : ((pc : Int) + o).toNat = pcY) (hpN : pc + 3 = pcN) (kY : ¬ (x = y) → OwnWP p e below s h0 ws Q CK SK T (mkF m pcY Ls S)) (kN : x = y → OwnWP p e below s h0 ws Q CK SK T (mkF m pcN Ls S)) : OwnWP p e below s h0 ws Q CK SK T (mkF m pc Ls (.int y :: .int x :: S)) := by
  obtain ⟨locs, X, -⟩ := A; subst hpN
  by_cases q : x = y
  · exact ow_st (fun _ k => XS.icmpNo X.here C.1 rfl (hb C.2.2.2.1 hd) rfl (teq q).2 k) (kN q)
  · exact ow_st (fun _ k => XS.icmpYes X.here C.1 rfl (pc0 := pc) (pc' := pcY) rfl (hb C.2.2.2.1 hd) rfl (feq q).2 ho hpY k) (kY q)
theorem ow_if_ne (C : OwnCtx p s m meth c Z a0 tw y0 bytes ml ret) (A : OwnPos p l e R s m args below meth c h0 ws T h ck sk) {x : Int32} {o : Int} {pcY pcN : Nat} (hd : decode bytes pc = .ok (.ifCond .ne o, 3)) (ho : 0 ≤ (pc : Int) + o) (hpY : ((pc : Int) + o).toNat = pcY) (hpN : pc + 3 = pcN) (kY : ¬ (x = 0) → OwnWP p e below s h0 ws Q CK SK T (mkF m pcY Ls S)) (kN : x = 0 → OwnWP p e below s h0 ws Q CK SK T (mkF m pcN Ls S)) : OwnWP p e below s h0 ws Q CK SK T (mkF m pc Ls (.int x :: S)) := by
  obtain ⟨locs, X, -⟩ := A; subst hpN
  by_cases q : x = 0
  · exact ow_st (fun _ k => XS.ifNo X.here C.1 rfl (hb C.2.2.2.1 hd) rfl ((if0 _ _).trans (teq q).2) k) (kN q)
  · exact ow_st (fun _ k => XS.ifYes X.here C.1 rfl (pc0 := pc) (pc' := pcY) rfl (hb C.2.2.2.1 hd) rfl ((if0 _ _).trans (feq q).2) ho hpY k) (kY q)
theorem ow_lcmp_ne (C : OwnCtx p s m meth c Z a0 tw y0 bytes ml ret) (A : OwnPos p l e R s m args below meth c h0 ws T h ck sk) {x y : Int64} {o : Int} {pc1 pcY pcN : Nat} (hd : decode bytes pc = .ok (.lcmp, 1)) (hp1 : pc + 1 = pc1) (hd1 : decode bytes pc1 = .ok (.ifCond .ne o, 3)) (ho : 0 ≤ (pc1 : Int) + o) (hpY : ((pc1 : Int) + o).toNat = pcY) (hpN : pc1 + 3 = pcN) (kY : ¬ (x = y) → OwnWP p e below s h0 ws Q CK SK T (mkF m pcY Ls S)) (kN : x = y → OwnWP p e below s h0 ws Q CK SK T (mkF m pcN Ls S)) : OwnWP p e below s h0 ws Q CK SK T (mkF m pc Ls (.long y :: .long x :: S)) := by
  have A' := A; obtain ⟨locs, X, -⟩ := A'; subst hp1
  refine ow_st (fun _ k => XS.lcmp X.here C.1 rfl (hb C.2.2.2.1 hd) rfl k) ?_
  show OwnWP p e below s h0 ws Q CK SK T (mkF m (pc + 1) Ls (.int (lcmpW x y) :: S))
  exact ow_if_ne C A hd1 ho hpY hpN (fun q => kY (fun z => q ((lw_eq x y).mpr z))) (fun q => kN ((lw_eq x y).mp q))
theorem ow_ifnonnullYes (C : OwnCtx p s m meth c Z a0 tw y0 bytes ml ret) (A : OwnPos p l e R s m args below meth c h0 ws T h ck sk) {o : Int} {b : Addr} (hd : decode bytes pc = .ok (.ifnonnull o, 3)) (ho : 0 ≤ (pc : Int) + o) (hp : ((pc : Int) + o).toNat = pc') (k : OwnWP p e below s h0 ws Q CK SK T (mkF m pc' Ls S)) : OwnWP p e below s h0 ws Q CK SK T (mkF m pc Ls (.ref b :: S)) := by
  obtain ⟨locs, X, -⟩ := A
  exact ow_st (fun _ k => XS.ifnonnullYes X.here C.1 rfl (pc0 := pc) (pc' := pc') rfl (hb C.2.2.2.1 hd) rfl ho hp k) k
theorem ow_ifnonnullNo (C : OwnCtx p s m meth c Z a0 tw y0 bytes ml ret) (A : OwnPos p l e R s m args below meth c h0 ws T h ck sk) {o : Int} (hd : decode bytes pc = .ok (.ifnonnull o, 3)) (hp : pc + 3 = pc') (k : OwnWP p e below s h0 ws Q CK SK T (mkF m pc' Ls S)) : OwnWP p e below s h0 ws Q CK SK T (mkF m pc Ls (.null :: S)) := by
  obtain ⟨locs, X, -⟩ := A; subst hp
  exact ow_st (fun _ k => XS.ifnonnullNo X.here C.1 rfl (hb C.2.2.2.1 hd) rfl k) k
theorem ow_ldcInt (C : OwnCtx p s m meth c Z a0 tw y0 bytes ml ret) (A : OwnPos p l e R s m args below meth c h0 ws T h ck sk) {i : Nat} {v : Int32} (w : Jvm.Cond.constant y0.cls i v ∈ tw) (hd : decode bytes pc = .ok (.ldc i, 2)) (hp : pc + 2 = pc') (k : OwnWP p e below s h0 ws Q CK SK T (mkF m pc' Ls (.int v :: S))) : OwnWP p e below s h0 ws Q CK SK T (mkF m pc Ls S) := by
  obtain ⟨locs, X, -⟩ := A; subst hp
  exact ow_st (X.ldcInt C.1 C.2.2.2.2.2.1 (mvT C.2.1 (C.2.2.1 _ w)) (g := mkF m pc Ls S) rfl (hb C.2.2.2.1 hd)) k
theorem ow_ldc2 (C : OwnCtx p s m meth c Z a0 tw y0 bytes ml ret) (A : OwnPos p l e R s m args below meth c h0 ws T h ck sk) {i : Nat} {v : Int64} (w : Jvm.Cond.constantLong y0.cls i v ∈ tw) (hd : decode bytes pc = .ok (.ldc2_w i, 3)) (hp : pc + 3 = pc') (k : OwnWP p e below s h0 ws Q CK SK T (mkF m pc' Ls (.long v :: S))) : OwnWP p e below s h0 ws Q CK SK T (mkF m pc Ls S) := by
  obtain ⟨locs, X, -⟩ := A; subst hp
  exact ow_st (X.ldc2Long C.1 C.2.2.2.2.2.1 (mvT C.2.1 (C.2.2.1 _ w)) (g := mkF m pc Ls S) rfl (hb C.2.2.2.1 hd)) k
theorem ow_getF (C : OwnCtx p s m meth c Z a0 tw y0 bytes ml ret) (A : OwnPos p l e R s m args below meth c h0 ws T h ck sk) {i : Nat} {R0 O n d : String} {a : Addr} {v : Value} (w : Jvm.Cond.fieldLink y0.cls i R0 n d ∈ tw) (via : Via Z R0 O n d) (F : Fld Z h a O n d v) (hd : decode bytes pc = .ok (.getfield i, 3)) (hp : pc + 3 = pc') (k : ∀ T', OwnPos p l e R s m args below meth c h0 ws T' h ck sk → OwnWP p e below s h0 ws Q CK SK T' (mkF m pc' Ls (v :: S))) : OwnWP p e below s h0 ws Q CK SK T (mkF m pc Ls (.ref a :: S)) := by
  obtain ⟨locs, X, e1, N, K⟩ := A; subst hp
  obtain ⟨T', X', e', st⟩ := getF X C.1 C.2.1 C.2.2.2.2.2.1 (host := "") (Or.inl (C.2.2.1 _ w)) via e1 F (g := mkF m pc Ls (.ref a :: S)) rfl rfl (hb C.2.2.2.1 hd)
  exact ow_st st (k T' ⟨locs, X', e', N, K⟩)
theorem ow_putF (C : OwnCtx p s m meth c Z a0 tw y0 bytes ml ret) (A : OwnPos p l e R s m args below meth c h0 ws T h ck sk) {i kk : Nat} {R0 O n d D : String} {a : Addr} {v old : Value} {ty : FieldType} (w : Jvm.Cond.fieldLink y0.cls i R0 n d ∈ tw) (via : Via Z R0 O n d) (F : Fld Z h a O n d old) (E : Exa Z h a D) (wl : Jvm.Cond.lays D O n d ∈ tw) (wi : Jvm.Cond.instantiable D kk ∈ tw) (hty : parseFieldDescriptor d = some ty) (hn : narrow ty v = v) (hf : fits ty v = true) (q : a ∈ ws ∨ h0.size ≤ a) (hd : decode bytes pc = .ok (.putfield i, 3)) (hp : pc + 3 = pc') (k : ∀ T' h', Wr h h' a (slotOf Z O n d) v → OwnPos p l e R s m args below meth c h0 ws T' h' ck sk → OwnWP p e below s h0 ws Q CK SK T' (mkF m pc' Ls S)) : OwnWP p e below s h0 ws Q CK SK T (mkF m pc Ls (v :: .ref a :: S)) := by
  obtain ⟨locs, X, e1, N, K⟩ := A; subst hp
  obtain ⟨T', h', X', e', W', st⟩ := putF X C.1 C.2.1 C.2.2.2.2.2.1 (host := "") (Or.inl (C.2.2.1 _ w)) via e1 F E (Or.inl (C.2.2.1 _ wl)) (C.2.2.1 _ wi) hty hn hf (g := mkF m pc Ls (v :: .ref a :: S)) rfl rfl (hb C.2.2.2.1 hd)
  exact ow_st st (k T' h' W' ⟨_, X', e', fun y hy => (List.mem_append.mp hy).elim (N y) fun z => by cases List.mem_singleton.mp z; exact q, K.wr W' q⟩)
theorem ow_putFin (C : OwnCtx p s m meth c Z a0 tw y0 bytes ml ret) (A : OwnPos p l e R s m args below meth c h0 ws T h ck sk) {i kk : Nat} {R0 O n d D : String} {a : Addr} {v old : Value} {ty : FieldType} (w : Jvm.Cond.fieldLink y0.cls i R0 n d ∈ tw) (via : Via Z R0 O n d) (F : Fld Z h a O n d old) (E : Exa Z h a D) (wl : Jvm.Cond.laysFinal D O n d ∈ tw) (hO : y0.cls = O) (hi : y0.name = "<init>") (wi : Jvm.Cond.instantiable D kk ∈ tw) (hty : parseFieldDescriptor d = some ty) (hn : narrow ty v = v) (hf : fits ty v = true) (q : a ∈ ws ∨ h0.size ≤ a) (hd : decode bytes pc = .ok (.putfield i, 3)) (hp : pc + 3 = pc') (k : ∀ T' h', Wr h h' a (slotOf Z O n d) v → OwnPos p l e R s m args below meth c h0 ws T' h' ck sk → OwnWP p e below s h0 ws Q CK SK T' (mkF m pc' Ls S)) : OwnWP p e below s h0 ws Q CK SK T (mkF m pc Ls (v :: .ref a :: S)) := by
  obtain ⟨locs, X, e1, N, K⟩ := A; subst hp
  obtain ⟨T', h', X', e', W', st⟩ := putF X C.1 C.2.1 C.2.2.2.2.2.1 (host := "") (Or.inl (C.2.2.1 _ w)) via e1 F E (Or.inr ⟨C.2.2.1 _ wl, hO, C.2.2.2.2.2.2.1.trans hi⟩) (C.2.2.1 _ wi) hty hn hf (g := mkF m pc Ls (v :: .ref a :: S)) rfl rfl (hb C.2.2.2.1 hd)
  exact ow_st st (k T' h' W' ⟨_, X', e', fun y hy => (List.mem_append.mp hy).elim (N y) fun z => by cases List.mem_singleton.mp z; exact q, K.wr W' q⟩)
theorem ow_new (C : OwnCtx p s m meth c Z a0 tw y0 bytes ml ret) (A : OwnPos p l e R s m args below meth c h0 ws T h ck sk) {i n ck' sk' : Nat} {D : String} (w : Jvm.Cond.classLink y0.cls i D ∈ tw) (wi : Jvm.Cond.instantiable D n ∈ tw) (wz : Jvm.Cond.initialized D ∈ tw) (hd : decode bytes pc = .ok (.new i, 3)) (hp : pc + 3 = pc') (hck : ck + 1 = ck') (hsk : sk + n = sk') (hc : ck' ≤ R.cells) (hs : sk' ≤ R.slots)
    (k : ∀ T' h' b, b = h.size → Ext h h' → Exa Z h' b D → (∀ {O nm d : String} {ty : FieldType}, Laid Z a0 D O nm d → parseFieldDescriptor d = some ty → Fld Z h' b O nm d (defaultValue ty)) → OwnPos p l e R s m args below meth c h0 ws T' h' ck' sk' → OwnWP p e below s h0 ws Q CK SK T' (mkF m pc' Ls (.ref b :: S))) : OwnWP p e below s h0 ws Q CK SK T (mkF m pc Ls S) := by
  obtain ⟨locs, X, e1, N, K⟩ := A; subst hp hck hsk
  obtain ⟨T', h', X', e', E', A', D', -, st⟩ := newO X C.1 C.2.1 C.2.2.2.2.2.1 (C.2.2.1 _ w) (C.2.2.1 _ wi) (C.2.2.1 _ wz) e1 (g := mkF m pc Ls S) rfl (hb C.2.2.2.1 hd) hc hs
  exact ow_st st (k T' h' h.size rfl E' A' D' ⟨locs, X', e', N, K.ext E'⟩)
theorem ow_newA (C : OwnCtx p s m meth c Z a0 tw y0 bytes ml ret) (A : OwnPos p l e R s m args below meth c h0 ws T h ck sk) {aty : ArrayType} {ty : FieldType} {n : Int32} {cap ck' sk' : Nat} (hty : newarray.typeOf aty = ty) (w : Jvm.Cond.arrayClass ty ∈ tw) (hd : decode bytes pc = .ok (.newarray aty, 2)) (hp : pc + 2 = pc') (hn : ¬ n < 0) (hcap : n.toNatClampNeg ≤ cap) (hb8 : cap * 8 ≤ 536870912) (hck : ck + 1 = ck') (hsk : sk + cap = sk') (hc : ck' ≤ R.cells) (hs : sk' ≤ R.slots)
    (k : ∀ T' h' b kk, b = h.size → Ext h h' → Arv Z h' b kk ty n [] (defaultValue ty) → OwnPos p l e R s m args below meth c h0 ws T' h' ck' sk' → OwnWP p e below s h0 ws Q CK SK T' (mkF m pc' Ls (.ref b :: S))) : OwnWP p e below s h0 ws Q CK SK T (mkF m pc Ls (.int n :: S)) := by
  obtain ⟨locs, X, e1, N, K⟩ := A; subst hp hck hsk hty
  obtain ⟨T', h', kk, X', e', E', A', st⟩ := newP X C.1 C.2.1 (C.2.2.1 _ w) e1 (g := mkF m pc Ls (.int n :: S)) rfl (hb C.2.2.2.1 hd) rfl hn (cap := cap) hcap hb8 hc hs
  exact ow_st st (k T' h' h.size kk rfl E' (Arv.new A' hn) ⟨locs, X', e', N, K.ext E'⟩)
theorem ow_alen (C : OwnCtx p s m meth c Z a0 tw y0 bytes ml ret) (A : OwnPos p l e R s m args below meth c h0 ws T h ck sk) {a : Addr} {kk : ClassId} {ty : FieldType} {n : Int32} {vs : List Value} {dv : Value} (V : Arv Z h a kk ty n vs dv) (hd : decode bytes pc = .ok (.arraylength, 1)) (hp : pc + 1 = pc') (k : OwnWP p e below s h0 ws Q CK SK T (mkF m pc' Ls (.int n :: S))) : OwnWP p e below s h0 ws Q CK SK T (mkF m pc Ls (.ref a :: S)) := by
  obtain ⟨locs, X, rfl, -⟩ := A; subst hp
  obtain ⟨cl, Ar, -, S1, N1, -, -⟩ := V
  refine ow_st (fun t k => X.arraylength C.1 Ar.1 (State.isArrayOf_alike C.2.1.alike Ar.2.1) (g := mkF m pc Ls (.ref a :: S)) rfl rfl (hb C.2.2.2.1 hd) t k) ?_
  rw [len_of S1 N1]; exact k
theorem ow_iaload (C : OwnCtx p s m meth c Z a0 tw y0 bytes ml ret) (A : OwnPos p l e R s m args below meth c h0 ws T h ck sk) {a : Addr} {kk : ClassId} {n j : Int32} {vs : List Value} {dv v : Value} (V : Arv Z h a kk .int n vs dv) (hj : ¬ j < 0 ∧ j < n) (hv : vs.getD j.toNatClampNeg dv = v) (hd : decode bytes pc = .ok (.iaload, 1)) (hp : pc + 1 = pc') (k : OwnWP p e below s h0 ws Q CK SK T (mkF m pc' Ls (v :: S))) : OwnWP p e below s h0 ws Q CK SK T (mkF m pc Ls (.int j :: .ref a :: S)) := by
  obtain ⟨locs, X, rfl, -⟩ := A; subst hp
  obtain ⟨cl, Ar, -, S1, N1, H1, -⟩ := V
  have hin := inb_of S1 hj
  exact ow_st (fun t k => X.iaload C.1 (j := j) (v := v) Ar.1 (State.isArrayOf_alike C.2.1.alike Ar.2.1) Ar.2.2 hin (H1.at hin hv) (g := mkF m pc Ls (.int j :: .ref a :: S)) rfl rfl (hb C.2.2.2.1 hd) t k) k
theorem ow_laload (C : OwnCtx p s m meth c Z a0 tw y0 bytes ml ret) (A : OwnPos p l e R s m args below meth c h0 ws T h ck sk) {a : Addr} {kk : ClassId} {n j : Int32} {vs : List Value} {dv v : Value} (V : Arv Z h a kk .long n vs dv) (hj : ¬ j < 0 ∧ j < n) (hv : vs.getD j.toNatClampNeg dv = v) (hd : decode bytes pc = .ok (.laload, 1)) (hp : pc + 1 = pc') (k : OwnWP p e below s h0 ws Q CK SK T (mkF m pc' Ls (v :: S))) : OwnWP p e below s h0 ws Q CK SK T (mkF m pc Ls (.int j :: .ref a :: S)) := by
  obtain ⟨locs, X, rfl, -⟩ := A; subst hp
  obtain ⟨cl, Ar, -, S1, N1, H1, -⟩ := V
  have hin := inb_of S1 hj
  exact ow_st (fun t k => X.laload C.1 (j := j) (v := v) Ar.1 (State.isArrayOf_alike C.2.1.alike Ar.2.1) Ar.2.2 hin (H1.at hin hv) (g := mkF m pc Ls (.int j :: .ref a :: S)) rfl rfl (hb C.2.2.2.1 hd) t k) k
theorem ow_baload (C : OwnCtx p s m meth c Z a0 tw y0 bytes ml ret) (A : OwnPos p l e R s m args below meth c h0 ws T h ck sk) {a : Addr} {kk : ClassId} {n j : Int32} {vs : List Value} {dv v : Value} (V : Arv Z h a kk .byte n vs dv) (hj : ¬ j < 0 ∧ j < n) (hv : vs.getD j.toNatClampNeg dv = v) (hd : decode bytes pc = .ok (.baload, 1)) (hp : pc + 1 = pc') (k : OwnWP p e below s h0 ws Q CK SK T (mkF m pc' Ls (v :: S))) : OwnWP p e below s h0 ws Q CK SK T (mkF m pc Ls (.int j :: .ref a :: S)) := by
  obtain ⟨locs, X, rfl, -⟩ := A; subst hp
  obtain ⟨cl, Ar, -, S1, N1, H1, -⟩ := V
  have hin := inb_of S1 hj
  exact ow_st (fun t k => X.baloadBytes C.1 (j := j) (v := v) Ar.1 (State.isArrayOf_alike C.2.1.alike Ar.2.1) Ar.2.2 hin (H1.at hin hv) (g := mkF m pc Ls (.int j :: .ref a :: S)) rfl rfl (hb C.2.2.2.1 hd) t k) k
theorem ow_iastore (C : OwnCtx p s m meth c Z a0 tw y0 bytes ml ret) (A : OwnPos p l e R s m args below meth c h0 ws T h ck sk) {a : Addr} {kk : ClassId} {n j : Int32} {x : Int32} {vs : List Value} {dv : Value} {i : Nat} (V : Arv Z h a kk .int n vs dv) (hj : ¬ j < 0 ∧ j < n) (hi : j.toNatClampNeg = i) (hl : i < vs.length) (q : a ∈ ws ∨ h0.size ≤ a) (hd : decode bytes pc = .ok (.iastore, 1)) (hp : pc + 1 = pc')
    (k : ∀ T' h', Wr h h' a j.toNatClampNeg (.int x) → Arv Z h' a kk .int n (vs.set i (.int x)) dv → OwnPos p l e R s m args below meth c h0 ws T' h' ck sk → OwnWP p e below s h0 ws Q CK SK T' (mkF m pc' Ls S)) : OwnWP p e below s h0 ws Q CK SK T (mkF m pc Ls (.int x :: .int j :: .ref a :: S)) := by
  obtain ⟨locs, X, e1, N, K⟩ := A; subst hp
  obtain ⟨cl, Ar, q1, S1, N1, H1, G1⟩ := V
  have hin := inb_of S1 hj
  obtain ⟨T', h', X', e', W', st⟩ := stI X C.1 C.2.1 e1 Ar (j := j) hin (g := mkF m pc Ls (.int x :: .int j :: .ref a :: S)) rfl rfl (hb C.2.2.2.1 hd)
  exact ow_st st (k T' h' W' (Arv.set Ar q1 S1 N1 H1 G1 rfl W' i hi hl) ⟨_, X', e', fun y hy => (List.mem_append.mp hy).elim (N y) fun z => by cases List.mem_singleton.mp z; exact q, K.wr W' q⟩)
theorem ow_lastore (C : OwnCtx p s m meth c Z a0 tw y0 bytes ml ret) (A : OwnPos p l e R s m args below meth c h0 ws T h ck sk) {a : Addr} {kk : ClassId} {n j : Int32} {x : Int64} {vs : List Value} {dv : Value} {i : Nat} (V : Arv Z h a kk .long n vs dv) (hj : ¬ j < 0 ∧ j < n) (hi : j.toNatClampNeg = i) (hl : i < vs.length) (q : a ∈ ws ∨ h0.size ≤ a) (hd : decode bytes pc = .ok (.lastore, 1)) (hp : pc + 1 = pc')
    (k : ∀ T' h', Wr h h' a j.toNatClampNeg (.long x) → Arv Z h' a kk .long n (vs.set i (.long x)) dv → OwnPos p l e R s m args below meth c h0 ws T' h' ck sk → OwnWP p e below s h0 ws Q CK SK T' (mkF m pc' Ls S)) : OwnWP p e below s h0 ws Q CK SK T (mkF m pc Ls (.long x :: .int j :: .ref a :: S)) := by
  obtain ⟨locs, X, e1, N, K⟩ := A; subst hp
  obtain ⟨cl, Ar, q1, S1, N1, H1, G1⟩ := V
  have hin := inb_of S1 hj
  obtain ⟨T', h', X', e', W', st⟩ := stJ X C.1 C.2.1 e1 Ar (j := j) hin (g := mkF m pc Ls (.long x :: .int j :: .ref a :: S)) rfl rfl (hb C.2.2.2.1 hd)
  exact ow_st st (k T' h' W' (Arv.set Ar q1 S1 N1 H1 G1 rfl W' i hi hl) ⟨_, X', e', fun y hy => (List.mem_append.mp hy).elim (N y) fun z => by cases List.mem_singleton.mp z; exact q, K.wr W' q⟩)
theorem ow_bastore (C : OwnCtx p s m meth c Z a0 tw y0 bytes ml ret) (A : OwnPos p l e R s m args below meth c h0 ws T h ck sk) {a : Addr} {kk : ClassId} {n j : Int32} {x : Int32} {vs : List Value} {dv : Value} {i : Nat} (V : Arv Z h a kk .byte n vs dv) (hj : ¬ j < 0 ∧ j < n) (hi : j.toNatClampNeg = i) (hl : i < vs.length) (q : a ∈ ws ∨ h0.size ≤ a) (hd : decode bytes pc = .ok (.bastore, 1)) (hp : pc + 1 = pc')
    (k : ∀ T' h', Wr h h' a j.toNatClampNeg (.int x.toInt8.toInt32) → Arv Z h' a kk .byte n (vs.set i (.int x.toInt8.toInt32)) dv → OwnPos p l e R s m args below meth c h0 ws T' h' ck sk → OwnWP p e below s h0 ws Q CK SK T' (mkF m pc' Ls S)) : OwnWP p e below s h0 ws Q CK SK T (mkF m pc Ls (.int x :: .int j :: .ref a :: S)) := by
  obtain ⟨locs, X, e1, N, K⟩ := A; subst hp
  obtain ⟨cl, Ar, q1, S1, N1, H1, G1⟩ := V
  have hin := inb_of S1 hj
  obtain ⟨T', h', X', e', W', st⟩ := stB X C.1 C.2.1 e1 Ar (j := j) hin (g := mkF m pc Ls (.int x :: .int j :: .ref a :: S)) rfl rfl (hb C.2.2.2.1 hd)
  exact ow_st st (k T' h' W' (Arv.set Ar q1 S1 N1 H1 G1 (fits_nar_byte _) W' i hi hl) ⟨_, X', e', fun y hy => (List.mem_append.mp hy).elim (N y) fun z => by cases List.mem_singleton.mp z; exact q, K.wr W' q⟩)
theorem ow_initO (C : OwnCtx p s m meth c Z a0 tw y0 bytes ml ret) (A : OwnPos p l e R s m args below meth c h0 ws T h ck sk) {i W : Nat} {a : Addr} (w1 : Jvm.Cond.methodLink y0.cls i Lib.objectInit ∈ tw) (w2 : Jvm.Cond.instanceMethod Lib.objectInit ∈ tw) (w3 : Jvm.Cond.code Lib.objectInit ⟨#[0xb1]⟩ 1 none ∈ tw) (hsz : Ls.size = ml) (hd : decode bytes pc = .ok (.invokespecial i, 3)) (hp : pc + 3 = pc') (hf : 1 ≤ R.frames) (hW : 2 * 0 + (S.map fun v => v.category).sum ≤ W) (hl : W + 12 ≤ R.locals) (k : ∀ T', OwnPos p l e R s m args below meth c h0 ws T' h ck sk → OwnWP p e below s h0 ws Q CK SK T' (mkF m pc' Ls S)) : OwnWP p e below s h0 ws Q CK SK T (mkF m pc Ls (.ref a :: S)) := by
  obtain ⟨locs, X, e1, N, K⟩ := A; subst hp
  obtain ⟨T', X', e', st⟩ := initO X C.1 C.2.1 C.2.2.2.2.2.1 (C.2.2.1 _ w1) (C.2.2.1 _ w2) (C.2.2.1 _ w3) e1 (g := mkF m pc Ls (.ref a :: S)) rfl (hsz.trans C.2.2.2.2.1.symm) rfl (hb C.2.2.2.1 hd) hf (W := W) hW hl
  exact ow_st st (k T' ⟨locs, X', e', N, K⟩)
theorem ow_callS (C : OwnCtx p s m meth c Z a0 tw y0 bytes ml ret) (A : OwnPos p l e R s m args below meth c h0 ws T h ck sk) {rm : Room} {cb : ByteArray} {cm : Nat} {cr : Option FieldType} {ws' : List Addr} {Q' : Option Value → Heap → Prop} {y : MethodName} {i W ck' sk' : Nat} {argsL : List Value} (hM : OwnCtr l Z y cb cm cr rm argsL.toArray h ws' Q' []) (w1 : Jvm.Cond.methodLink y0.cls i y ∈ tw) (w2 : Jvm.Cond.static y ∈ tw) (w3 : Jvm.Cond.initialized y.cls ∈ tw) (w4 : Jvm.Cond.code y cb cm cr ∈ tw) (hy : y.cls ≠ "java/lang/invoke/MethodHandle" ∧ y.cls ≠ "java/lang/invoke/VarHandle") (hq : ∀ x ∈ ws', x ∈ ws ∨ h0.size ≤ x) (hfr : rm.frames + 1 ≤ R.frames) (hlo : W + (cm + 11) + rm.locals ≤ R.locals) (hck : ck + rm.cells = ck') (hsk : sk + rm.slots = sk') (hc : ck' ≤ R.cells) (hs : sk' ≤ R.slots) (hsz : Ls.size = ml) (hlen : ∀ sig, parseMethodDescriptor y.desc = some sig → argsL.length = sig.parameters.length) {st0 : List Value} (hst : st0 = argsL.reverse ++ S) (hW : 2 * 0 + (S.map fun v => v.category).sum ≤ W) (hd : decode bytes pc = .ok (.invokestatic i, 3)) (hp : pc + 3 = pc') (k : ∀ T' v, Keep h T'.heap ws' → Q' v T'.heap → OwnPos p l e R s m args below meth c h0 ws T' T'.heap ck' sk' → OwnWP p e below s h0 ws Q CK SK T' (mkF m pc' Ls (v.toList ++ S))) : OwnWP p e below s h0 ws Q CK SK T (mkF m pc Ls st0) := by
  obtain ⟨locs, X, e1, N, K⟩ := A; subst hp hck hsk hst
  obtain ⟨v, _, ⟨T', L', k', n'⟩, -, X', ⟨Lc, ⟨hN, hKe, hQ⟩, hl, hc', hs'⟩, st⟩ := Jvm.LawKit.callS X C.1 (y := y) C.2.2.2.2.2.1 (mvT C.2.1 (C.2.2.1 _ w1)) (mvT C.2.1 (C.2.2.1 _ w2)) (mvT C.2.1 (C.2.2.1 _ w3)) (mvT C.2.1 (C.2.2.1 _ w4)) hy (backOf (W := W) (Q := fun v hh L => ((∀ y ∈ L, y.base ∈ ws' ∨ h.size ≤ y.base) ∧ Keep h hh ws' ∧ Q' v hh)) hM C.2.1 (C.2.2.1 _ w4) (C.2.2.1 _ w3) hfr hlo) (g := mkF m pc Ls (argsL.reverse ++ S)) rfl (hsz.trans C.2.2.2.2.1.symm) (argsL := argsL) (rest := S) hlen rfl hW (hb C.2.2.2.1 hd) (fun _ _ => ⟨rfl, e1, hc, hs⟩)
  dsimp only [Pt.U, Pt.locs, Pt.cells, Pt.slots] at X' hl hc' hs' st hN hKe hQ
  subst hl hc' hs'
  exact ow_st st (k T' v hKe hQ ⟨_, X', rfl, fun y hy => (List.mem_append.mp hy).elim (N y) fun z => (hN y z).elim (fun u => hq _ u) fun u => Or.inr (Nat.le_trans K.1 u), K.trans hKe hq⟩)
theorem ow_callI (C : OwnCtx p s m meth c Z a0 tw y0 bytes ml ret) (A : OwnPos p l e R s m args below meth c h0 ws T h ck sk) {rm : Room} {cb : ByteArray} {cm : Nat} {ws' : List Addr} {Q' : Option Value → Heap → Prop} {y : MethodName} {i W ck' sk' : Nat} {argsL : List Value} {a : Addr} (hM : OwnCtr l Z y cb cm none rm (.ref a :: argsL).toArray h ws' Q' []) (hy1 : y.name = "<init>") (w1 : Jvm.Cond.methodLink y0.cls i y ∈ tw) (w2 : Jvm.Cond.instanceMethod y ∈ tw) (w3 : Jvm.Cond.initialized y.cls ∈ tw) (w4 : Jvm.Cond.code y cb cm none ∈ tw) (hy : y.cls ≠ "java/lang/invoke/MethodHandle" ∧ y.cls ≠ "java/lang/invoke/VarHandle") (hq : ∀ x ∈ ws', x ∈ ws ∨ h0.size ≤ x) (hfr : rm.frames + 1 ≤ R.frames) (hlo : W + (cm + 11) + rm.locals ≤ R.locals) (hck : ck + rm.cells = ck') (hsk : sk + rm.slots = sk') (hc : ck' ≤ R.cells) (hs : sk' ≤ R.slots) (hsz : Ls.size = ml) (hlen : ∀ sig, parseMethodDescriptor y.desc = some sig → argsL.length = sig.parameters.length) {st0 : List Value} (hst : st0 = argsL.reverse ++ .ref a :: S) (hW : 2 * 0 + (S.map fun v => v.category).sum ≤ W) (hd : decode bytes pc = .ok (.invokespecial i, 3)) (hp : pc + 3 = pc') (k : ∀ T' v, Keep h T'.heap ws' → Q' v T'.heap → OwnPos p l e R s m args below meth c h0 ws T' T'.heap ck' sk' → OwnWP p e below s h0 ws Q CK SK T' (mkF m pc' Ls (v.toList ++ S))) : OwnWP p e below s h0 ws Q CK SK T (mkF m pc Ls st0) := by
  obtain ⟨locs, X, e1, N, K⟩ := A; subst hp hck hsk hst
  obtain ⟨v, _, ⟨T', L', k', n'⟩, -, X', ⟨Lc, ⟨hN, hKe, hQ⟩, hl, hc', hs'⟩, st⟩ := X.specialBack C.1 (y := y) hy1 C.2.2.2.2.2.1 (mvT C.2.1 (C.2.2.1 _ w1)) (mvT C.2.1 (C.2.2.1 _ w2)) (mvT C.2.1 (C.2.2.1 _ w4)) hy (backOf (W := W) (Q := fun v hh L => ((∀ y ∈ L, y.base ∈ ws' ∨ h.size ≤ y.base) ∧ Keep h hh ws' ∧ Q' v hh)) hM C.2.1 (C.2.2.1 _ w4) (C.2.2.1 _ w3) hfr hlo) (g := mkF m pc Ls (argsL.reverse ++ .ref a :: S)) rfl (hsz.trans C.2.2.2.2.1.symm) (Steps.refl _) (a := a) (argsL := argsL) (rest := S) hlen rfl hW (hb C.2.2.2.1 hd) (fun _ _ => ⟨rfl, e1, hc, hs⟩)
  dsimp only [Pt.U, Pt.locs, Pt.cells, Pt.slots] at X' hl hc' hs' st hN hKe hQ
  subst hl hc' hs'
  exact ow_stT st (k T' v hKe hQ ⟨_, X', rfl, fun y hy => (List.mem_append.mp hy).elim (N y) fun z => (hN y z).elim (fun u => hq _ u) fun u => Or.inr (Nat.le_trans K.1 u), K.trans hKe hq⟩)
theorem ow_callV (C : OwnCtx p s m meth c Z a0 tw y0 bytes ml ret) (A : OwnPos p l e R s m args below meth c h0 ws T h ck sk) {rm : Room} {cb : ByteArray} {cm : Nat} {cr : Option FieldType} {ws' : List Addr} {Q' : Option Value → Heap → Prop} {y : MethodName} {i W ck' sk' : Nat} {argsL : List Value} {z : MethodName} {D : String} {a : Addr} (E : Exa Z h a D) (hM : OwnCtr l Z z cb cm cr rm (.ref a :: argsL).toArray h ws' Q' []) (w1 : Jvm.Cond.methodLink y0.cls i y ∈ tw) (w5 : Jvm.Cond.declares y ∈ tw) (hnf : ∀ s : State, ∀ args : Array Value, Z.Warmed39 s.vm → NotFace s y) (w6 : Jvm.Cond.selects D y z ∈ tw) (w2 : Jvm.Cond.instanceMethod z ∈ tw) (w3 : Jvm.Cond.initialized z.cls ∈ tw) (w4 : Jvm.Cond.code z cb cm cr ∈ tw) (hy : y.cls ≠ "java/lang/invoke/MethodHandle" ∧ y.cls ≠ "java/lang/invoke/VarHandle") (hq : ∀ x ∈ ws', x ∈ ws ∨ h0.size ≤ x) (hfr : rm.frames + 1 ≤ R.frames) (hlo : W + (cm + 11) + rm.locals ≤ R.locals) (hck : ck + rm.cells = ck') (hsk : sk + rm.slots = sk') (hc : ck' ≤ R.cells) (hs : sk' ≤ R.slots) (hsz : Ls.size = ml) (hlen : ∀ sig, parseMethodDescriptor y.desc = some sig → argsL.length = sig.parameters.length) {st0 : List Value} (hst : st0 = argsL.reverse ++ .ref a :: S) (hW : 2 * 0 + (S.map fun v => v.category).sum ≤ W) (hd : decode bytes pc = .ok (.invokevirtual i, 3)) (hp : pc + 3 = pc') (k : ∀ T' v, Keep h T'.heap ws' → Q' v T'.heap → OwnPos p l e R s m args below meth c h0 ws T' T'.heap ck' sk' → OwnWP p e below s h0 ws Q CK SK T' (mkF m pc' Ls (v.toList ++ S))) : OwnWP p e below s h0 ws Q CK SK T (mkF m pc Ls st0) := by
  obtain ⟨locs, X, e1, N, K⟩ := A; subst hp hck hsk hst
  obtain ⟨cq, kq, qa, qb, qc⟩ := isOf C.2.1 e1 E
  obtain ⟨v, _, ⟨T', L', k', n'⟩, -, X', ⟨Lc, ⟨hN, hKe, hQ⟩, hl, hc', hs'⟩, st⟩ := X.virtualBack C.1 (y := y) (z := z) C.2.2.2.2.2.1 (mvT C.2.1 (C.2.2.1 _ w1)) (mvT C.2.1 (C.2.2.1 _ w5)) (hnf s #[] C.2.1) (mvT C.2.1 (C.2.2.1 _ w6)) (mvT C.2.1 (C.2.2.1 _ w2)) hy (backOf (W := W) (Q := fun v hh L => ((∀ y ∈ L, y.base ∈ ws' ∨ h.size ≤ y.base) ∧ Keep h hh ws' ∧ Q' v hh)) hM C.2.1 (C.2.2.1 _ w4) (C.2.2.1 _ w3) hfr hlo) qa qc (g := mkF m pc Ls (argsL.reverse ++ .ref a :: S)) rfl (hsz.trans C.2.2.2.2.1.symm) (Steps.refl _) (argsL := argsL) (rest := S) hlen rfl hW (hb C.2.2.2.1 hd) (fun _ _ => ⟨rfl, e1, hc, hs⟩)
  dsimp only [Pt.U, Pt.locs, Pt.cells, Pt.slots] at X' hl hc' hs' st hN hKe hQ
  subst hl hc' hs'
  exact ow_stT st (k T' v hKe hQ ⟨_, X', rfl, fun y hy => (List.mem_append.mp hy).elim (N y) fun z => (hN y z).elim (fun u => hq _ u) fun u => Or.inr (Nat.le_trans K.1 u), K.trans hKe hq⟩)
theorem ow_selP {y : MethodName} {n : Nat} (hy : y.cls ≠ "java/lang/invoke/MethodHandle" ∧ y.cls ≠ "java/lang/invoke/VarHandle") (hins : (Jvm.Cond.instantiable y.cls n).before args s = true) (hpriv : (Jvm.Cond.privateMethod y).before args s = true) (hinst : (Jvm.Cond.instanceMethod y).before args s = true) :
    (Jvm.Cond.selects y.cls y y).before args s = true := by
  obtain ⟨c, k, hc, hk, -, hniab, -, -⟩ := Cond.instantiable_spec hins
  have hni : k.isInterface = false := (Bool.or_eq_false_iff.mp hniab).1
  obtain ⟨mk, methM, hnamed, hmethM, -, -⟩ := Cond.instanceMethod_spec hinst
  have hfound : s.methodFound? y.cls y.name y.desc = some mk := State.methodFound?_of_named hnamed hy
  have hcls : mk.cls = c := Option.some.inj ((findClass_of_methodNamed hnamed).symm.trans hc)
  have hsel : selectMethod {} s.vm c mk = .method mk := selectMethod_private hmethM (Cond.privateMethod_at hpriv mk methM hnamed hmethM)
  simp only [Cond.before, Cond.holds, Cond.value, hc, hfound, hnamed, hsel, hcls, hk]
  simp; exact hni
theorem ow_callP (C : OwnCtx p s m meth c Z a0 tw y0 bytes ml ret) (A : OwnPos p l e R s m args below meth c h0 ws T h ck sk) {rm : Room} {cb : ByteArray} {cm : Nat} {cr : Option FieldType} {ws' : List Addr} {Q' : Option Value → Heap → Prop} {y : MethodName} {i W ck' sk' : Nat} {argsL : List Value} {D : String} {a : Addr} (E : Exa Z h a D) (hM : OwnCtr l Z y cb cm cr rm (.ref a :: argsL).toArray h ws' Q' []) (w1 : Jvm.Cond.methodLink y0.cls i y ∈ tw) (w5 : Jvm.Cond.privateMethod y ∈ tw) {ni : Nat} (w6 : Jvm.Cond.instantiable y.cls ni ∈ tw) (w2 : Jvm.Cond.instanceMethod y ∈ tw) (w3 : Jvm.Cond.initialized y.cls ∈ tw) (w4 : Jvm.Cond.code y cb cm cr ∈ tw) (hy : y.cls ≠ "java/lang/invoke/MethodHandle" ∧ y.cls ≠ "java/lang/invoke/VarHandle") (hq : ∀ x ∈ ws', x ∈ ws ∨ h0.size ≤ x) (hfr : rm.frames + 1 ≤ R.frames) (hlo : W + (cm + 11) + rm.locals ≤ R.locals) (hck : ck + rm.cells = ck') (hsk : sk + rm.slots = sk') (hc : ck' ≤ R.cells) (hs : sk' ≤ R.slots) (hsz : Ls.size = ml) (hlen : ∀ sig, parseMethodDescriptor y.desc = some sig → argsL.length = sig.parameters.length) {st0 : List Value} (hst : st0 = argsL.reverse ++ .ref a :: S) (hW : 2 * 0 + (S.map fun v => v.category).sum ≤ W) (hd : decode bytes pc = .ok (.invokevirtual i, 3)) (hp : pc + 3 = pc') (k : ∀ T' v, Keep h T'.heap ws' → Q' v T'.heap → OwnPos p l e R s m args below meth c h0 ws T' T'.heap ck' sk' → OwnWP p e below s h0 ws Q CK SK T' (mkF m pc' Ls (v.toList ++ S))) : OwnWP p e below s h0 ws Q CK SK T (mkF m pc Ls st0) := by
  obtain ⟨locs, X, e1, N, K⟩ := A; subst hp hck hsk hst
  obtain ⟨cq, qa, qb⟩ := E.cell
  obtain ⟨v, _, ⟨T', L', k', n'⟩, -, X', ⟨Lc, ⟨hN, hKe, hQ⟩, hl, hc', hs'⟩, st⟩ := X.privateBack C.1 (y := y) C.2.2.2.2.2.1 (mvT C.2.1 (C.2.2.1 _ w1)) (mvT C.2.1 (C.2.2.1 _ w2)) (ow_selP hy (mvT C.2.1 (C.2.2.1 _ w6)) (mvP C.2.1 (C.2.2.1 _ w5)) (mvT C.2.1 (C.2.2.1 _ w2))) (Cond.privateMethod_at (mvP C.2.1 (C.2.2.1 _ w5) (args := #[]))) (mvT C.2.1 (C.2.2.1 _ w4)) hy (backOf (W := W) (Q := fun v hh L => ((∀ y ∈ L, y.base ∈ ws' ∨ h.size ≤ y.base) ∧ Keep h hh ws' ∧ Q' v hh)) hM C.2.1 (C.2.2.1 _ w4) (C.2.2.1 _ w3) hfr hlo) (g := mkF m pc Ls (argsL.reverse ++ .ref a :: S)) rfl (hsz.trans C.2.2.2.2.1.symm) (Steps.refl _) (a := a) (by rw [e1]; exact qa) qb (argsL := argsL) (rest := S) hlen rfl hW (hb C.2.2.2.1 hd) (fun _ _ => ⟨rfl, e1, hc, hs⟩)
  dsimp only [Pt.U, Pt.locs, Pt.cells, Pt.slots] at X' hl hc' hs' st hN hKe hQ
  subst hl hc' hs'
  exact ow_stT st (k T' v hKe hQ ⟨_, X', rfl, fun y hy => (List.mem_append.mp hy).elim (N y) fun z => (hN y z).elim (fun u => hq _ u) fun u => Or.inr (Nat.le_trans K.1 u), K.trans hKe hq⟩)
theorem ow_nf {y : MethodName} {D : String} (hw : ∀ d ∈ tw, d.before a0 Z = true) (w6 : Jvm.Cond.selects D y y ∈ tw) : ∀ s : State, ∀ args : Array Value, Z.Warmed39 s.vm → NotFace s y := fun s args hZ => notFace_of_selects (args := args) (mvT hZ (hw _ w6))
theorem ow_acopy (C : OwnCtx p s m meth c Z a0 tw y0 bytes ml ret) (A : OwnPos p l e R s m args below meth c h0 [] T h ck sk) {i W : Nat} {a b : Addr} {kk kk' : ClassId} {ty : FieldType} {z z' sp dp nn : Int32} {vs vd us : List Value} {dv dd : Value} (w1 : Jvm.Cond.methodLink y0.cls i Jvm.Stand.acN ∈ tw) (w2 : Jvm.Cond.native Jvm.Stand.acN ∈ tw) (w3 : Jvm.Cond.static Jvm.Stand.acN ∈ tw) (w4 : Jvm.Cond.initialized "java/lang/System" ∈ tw) (VA : Arv Z h a kk ty z vs dv) (VB : Arv Z h b kk' ty z' vd dd) (hty : refKind ty = false) (h1 : ¬ sp < 0) (h2 : ¬ dp < 0) (h3 : ¬ nn < 0) (h4 : sp.toNatClampNeg + nn.toNatClampNeg ≤ z.toNatClampNeg) (h5 : dp.toNatClampNeg + nn.toNatClampNeg ≤ z'.toNatClampNeg) (hus : us = (List.range nn.toNatClampNeg).map fun i => vs.getD (sp.toNatClampNeg + i) dv) (hl : dp.toNatClampNeg + nn.toNatClampNeg ≤ vd.length) (q : h0.size ≤ b) (hsz : Ls.size = ml) (hd : decode bytes pc = .ok (.invokestatic i, 3)) (hp : pc + 3 = pc') (hf : 1 ≤ R.frames) (hW : 2 * 0 + (S.map fun v => v.category).sum ≤ W) (hlo : W + (nativeFrameWords "java/lang/System" "arraycopy" 5 + 11) ≤ R.locals)
    (k : ∀ T' h', Keep h h' [b] → Arv Z h' b kk' ty z' (vd.take dp.toNatClampNeg ++ us ++ vd.drop (dp.toNatClampNeg + nn.toNatClampNeg)) dd → OwnPos p l e R s m args below meth c h0 [] T' h' ck sk → OwnWP p e below s h0 [] Q CK SK T' (mkF m pc' Ls S)) : OwnWP p e below s h0 [] Q CK SK T (mkF m pc Ls (.int nn :: .int dp :: .ref b :: .int sp :: .ref a :: S)) := by
  obtain ⟨locs, X, e1, N, K⟩ := A; subst hp
  have N' : Fr h0.size locs := fun y hy => (N y hy).elim (fun u => nomatch u) id
  obtain ⟨T', h', L, X', e', N2, K2, V2, st⟩ := cpA X C.1 C.2.1 C.2.2.2.2.2.1 (C.2.2.1 _ w1) (C.2.2.1 _ w2) (C.2.2.1 _ w3) (C.2.2.1 _ w4) e1 VA VB (Or.inl ⟨rfl, hty⟩) h1 h2 h3 h4 h5 hus hl N' q (g := mkF m pc Ls (.int nn :: .int dp :: .ref b :: .int sp :: .ref a :: S)) rfl (hsz.trans C.2.2.2.2.1.symm) rfl (hb C.2.2.2.1 hd) hf (W := W) hW hlo
  exact ow_st st (k T' h' K2 V2 ⟨L, X', e', fun y hy => Or.inr (N2 y hy), K.trans K2 (allS (Or.inr q) all0)⟩)
end Own
end Jvm.RoadKit
namespace Jvm.Pilot.@@N@@
open Jvm Jvm.ClassFile Sem Op Lib Jvm.Free Jvm.Stand Jvm.LawKit Jvm.RoadKit Bundle Jvm.Pilot.@@N@@.Jvm.D
theorem tw_0 : (Jvm.Cond.constant "com/example/phasorwire/phasorwire/RangeDecoderIsCanonicalPinLaw" (7 : Nat) (2147483647 : Int32)) ∈ tables_1 := List.mem_of_getElem? (i := 0) rfl
theorem tw_1 : (Jvm.Cond.arrayClass Jvm.ClassFile.FieldType.byte) ∈ tables_1 := List.mem_of_getElem? (i := 1) rfl
theorem tw_2 : (Jvm.Cond.classLink "com/example/phasorwire/phasorwire/RangeDecoderIsCanonicalPinLaw" (8 : Nat) "com/example/phasorwire/phasorwire/RangeEncoder") ∈ tables_1 := List.mem_of_getElem? (i := 2) rfl
theorem tw_3 : (Jvm.Cond.instantiable "com/example/phasorwire/phasorwire/RangeEncoder" (6 : Nat)) ∈ tables_1 := List.mem_of_getElem? (i := 3) rfl
theorem tw_4 : (Jvm.Cond.initialized "com/example/phasorwire/phasorwire/RangeEncoder") ∈ tables_1 := List.mem_of_getElem? (i := 4) rfl
theorem tw_5 : (Jvm.Cond.methodLink "com/example/phasorwire/phasorwire/RangeDecoderIsCanonicalPinLaw" (10 : Nat) ({ cls := "com/example/phasorwire/phasorwire/RangeEncoder", name := "<init>", desc := "()V" } : Jvm.MethodName)) ∈ tables_1 := List.mem_of_getElem? (i := 5) rfl
theorem tw_6 : (Jvm.Cond.instanceMethod ({ cls := "com/example/phasorwire/phasorwire/RangeEncoder", name := "<init>", desc := "()V" } : Jvm.MethodName)) ∈ tables_1 := List.mem_of_getElem? (i := 6) rfl
theorem tw_7 : (Jvm.Cond.code ({ cls := "com/example/phasorwire/phasorwire/RangeEncoder", name := "<init>", desc := "()V" } : Jvm.MethodName) prog_64_method_1_code (1 : Nat) (Option.none : Option Jvm.ClassFile.FieldType)) ∈ tables_1 := List.mem_of_getElem? (i := 7) rfl
theorem tw_8 : (Jvm.Cond.methodLink "com/example/phasorwire/phasorwire/RangeEncoder" (3 : Nat) ({ cls := "java/lang/Object", name := "<init>", desc := "()V" } : Jvm.MethodName)) ∈ tables_1 := List.mem_of_getElem? (i := 8) rfl
theorem tw_9 : (Jvm.Cond.instanceMethod ({ cls := "java/lang/Object", name := "<init>", desc := "()V" } : Jvm.MethodName)) ∈ tables_1 := List.mem_of_getElem? (i := 9) rfl
theorem tw_10 : (Jvm.Cond.code ({ cls := "java/lang/Object", name := "<init>", desc := "()V" } : Jvm.MethodName) object_method_1_code (1 : Nat) (Option.none : Option Jvm.ClassFile.FieldType)) ∈ tables_1 := List.mem_of_getElem? (i := 10) rfl
theorem tw_11 : (Jvm.Cond.constantLong "com/example/phasorwire/phasorwire/RangeEncoder" (9 : Nat) (4294967295 : Int64)) ∈ tables_1 := List.mem_of_getElem? (i := 11) rfl
theorem tw_12 : (Jvm.Cond.fieldLink "com/example/phasorwire/phasorwire/RangeEncoder" (11 : Nat) "com/example/phasorwire/phasorwire/RangeEncoder" "range" "J") ∈ tables_1 := List.mem_of_getElem? (i := 12) rfl
theorem tw_13 : (Jvm.Cond.lays "com/example/phasorwire/phasorwire/RangeEncoder" "com/example/phasorwire/phasorwire/RangeEncoder" "range" "J") ∈ tables_1 := List.mem_of_getElem? (i := 13) rfl
theorem tw_14 : (Jvm.Cond.fieldLink "com/example/phasorwire/phasorwire/RangeEncoder" (15 : Nat) "com/example/phasorwire/phasorwire/RangeEncoder" "held" "I") ∈ tables_1 := List.mem_of_getElem? (i := 14) rfl
theorem tw_15 : (Jvm.Cond.lays "com/example/phasorwire/phasorwire/RangeEncoder" "com/example/phasorwire/phasorwire/RangeEncoder" "held" "I") ∈ tables_1 := List.mem_of_getElem? (i := 15) rfl
theorem tw_16 : (Jvm.Cond.fieldLink "com/example/phasorwire/phasorwire/RangeEncoder" (19 : Nat) "com/example/phasorwire/phasorwire/RangeEncoder" "bytes" "[B") ∈ tables_1 := List.mem_of_getElem? (i := 16) rfl
theorem tw_17 : (Jvm.Cond.lays "com/example/phasorwire/phasorwire/RangeEncoder" "com/example/phasorwire/phasorwire/RangeEncoder" "bytes" "[B") ∈ tables_1 := List.mem_of_getElem? (i := 17) rfl
theorem tw_18 : (Jvm.Cond.methodLink "com/example/phasorwire/phasorwire/RangeDecoderIsCanonicalPinLaw" (15 : Nat) ({ cls := "com/example/phasorwire/phasorwire/RangeEncoder", name := "finish", desc := "()[B" } : Jvm.MethodName)) ∈ tables_1 := List.mem_of_getElem? (i := 18) rfl
theorem tw_19 : (Jvm.Cond.declares ({ cls := "com/example/phasorwire/phasorwire/RangeEncoder", name := "finish", desc := "()[B" } : Jvm.MethodName)) ∈ tables_1 := List.mem_of_getElem? (i := 19) rfl
theorem tw_20 : (Jvm.Cond.instanceMethod ({ cls := "com/example/phasorwire/phasorwire/RangeEncoder", name := "finish", desc := "()[B" } : Jvm.MethodName)) ∈ tables_1 := List.mem_of_getElem? (i := 20) rfl
theorem tw_21 : (Jvm.Cond.selects "com/example/phasorwire/phasorwire/RangeEncoder" ({ cls := "com/example/phasorwire/phasorwire/RangeEncoder", name := "finish", desc := "()[B" } : Jvm.MethodName) ({ cls := "com/example/phasorwire/phasorwire/RangeEncoder", name := "finish", desc := "()[B" } : Jvm.MethodName)) ∈ tables_1 := List.mem_of_getElem? (i := 21) rfl
theorem tw_22 : (Jvm.Cond.code ({ cls := "com/example/phasorwire/phasorwire/RangeEncoder", name := "finish", desc := "()[B" } : Jvm.MethodName) prog_64_method_4_code (7 : Nat) (Option.some (Jvm.ClassFile.FieldType.array Jvm.ClassFile.FieldType.byte))) ∈ tables_1 := List.mem_of_getElem? (i := 22) rfl
theorem tw_23 : (Jvm.Cond.fieldLink "com/example/phasorwire/phasorwire/RangeEncoder" (25 : Nat) "com/example/phasorwire/phasorwire/RangeEncoder" "low" "J") ∈ tables_1 := List.mem_of_getElem? (i := 23) rfl
theorem tw_24 : (Jvm.Cond.lays "com/example/phasorwire/phasorwire/RangeEncoder" "com/example/phasorwire/phasorwire/RangeEncoder" "low" "J") ∈ tables_1 := List.mem_of_getElem? (i := 24) rfl
theorem tw_25 : (Jvm.Cond.methodLink "com/example/phasorwire/phasorwire/RangeEncoder" (32 : Nat) ({ cls := "com/example/phasorwire/phasorwire/RangeEncoder", name := "shift", desc := "()V" } : Jvm.MethodName)) ∈ tables_1 := List.mem_of_getElem? (i := 25) rfl
theorem tw_26 : (Jvm.Cond.instanceMethod ({ cls := "com/example/phasorwire/phasorwire/RangeEncoder", name := "shift", desc := "()V" } : Jvm.MethodName)) ∈ tables_1 := List.mem_of_getElem? (i := 26) rfl
theorem tw_27 : (Jvm.Cond.privateMethod ({ cls := "com/example/phasorwire/phasorwire/RangeEncoder", name := "shift", desc := "()V" } : Jvm.MethodName)) ∈ tables_1 := List.mem_of_getElem? (i := 27) rfl
theorem tw_28 : (Jvm.Cond.code ({ cls := "com/example/phasorwire/phasorwire/RangeEncoder", name := "shift", desc := "()V" } : Jvm.MethodName) prog_64_method_5_code (2 : Nat) (Option.none : Option Jvm.ClassFile.FieldType)) ∈ tables_1 := List.mem_of_getElem? (i := 28) rfl
theorem tw_29 : (Jvm.Cond.constantLong "com/example/phasorwire/phasorwire/RangeEncoder" (49 : Nat) (4278190080 : Int64)) ∈ tables_1 := List.mem_of_getElem? (i := 29) rfl
theorem tw_30 : (Jvm.Cond.fieldLink "com/example/phasorwire/phasorwire/RangeEncoder" (38 : Nat) "com/example/phasorwire/phasorwire/RangeEncoder" "heldOnes" "J") ∈ tables_1 := List.mem_of_getElem? (i := 30) rfl
theorem tw_31 : (Jvm.Cond.lays "com/example/phasorwire/phasorwire/RangeEncoder" "com/example/phasorwire/phasorwire/RangeEncoder" "heldOnes" "J") ∈ tables_1 := List.mem_of_getElem? (i := 31) rfl
theorem tw_32 : (Jvm.Cond.constantLong "com/example/phasorwire/phasorwire/RangeEncoder" (57 : Nat) (16777215 : Int64)) ∈ tables_1 := List.mem_of_getElem? (i := 32) rfl
theorem tw_33 : (Jvm.Cond.fieldLink "com/example/phasorwire/phasorwire/RangeEncoder" (35 : Nat) "com/example/phasorwire/phasorwire/RangeEncoder" "length" "I") ∈ tables_1 := List.mem_of_getElem? (i := 33) rfl
theorem tw_34 : (Jvm.Cond.lays "com/example/phasorwire/phasorwire/RangeEncoder" "com/example/phasorwire/phasorwire/RangeEncoder" "length" "I") ∈ tables_1 := List.mem_of_getElem? (i := 34) rfl
theorem tw_35 : (Jvm.Cond.methodLink "com/example/phasorwire/phasorwire/RangeEncoder" (43 : Nat) ({ cls := "java/util/Arrays", name := "copyOf", desc := "([BI)[B" } : Jvm.MethodName)) ∈ tables_1 := List.mem_of_getElem? (i := 35) rfl
theorem tw_36 : (Jvm.Cond.static ({ cls := "java/util/Arrays", name := "copyOf", desc := "([BI)[B" } : Jvm.MethodName)) ∈ tables_1 := List.mem_of_getElem? (i := 36) rfl
theorem tw_37 : (Jvm.Cond.initialized "java/util/Arrays") ∈ tables_1 := List.mem_of_getElem? (i := 37) rfl
theorem tw_38 : (Jvm.Cond.code ({ cls := "java/util/Arrays", name := "copyOf", desc := "([BI)[B" } : Jvm.MethodName) jdk_65_method_121_code (3 : Nat) (Option.some (Jvm.ClassFile.FieldType.array Jvm.ClassFile.FieldType.byte))) ∈ tables_1 := List.mem_of_getElem? (i := 38) rfl
theorem tw_39 : (Jvm.Cond.methodLink "java/util/Arrays" (304 : Nat) ({ cls := "java/lang/Math", name := "min", desc := "(II)I" } : Jvm.MethodName)) ∈ tables_1 := List.mem_of_getElem? (i := 39) rfl
theorem tw_40 : (Jvm.Cond.static ({ cls := "java/lang/Math", name := "min", desc := "(II)I" } : Jvm.MethodName)) ∈ tables_1 := List.mem_of_getElem? (i := 40) rfl
theorem tw_41 : (Jvm.Cond.initialized "java/lang/Math") ∈ tables_1 := List.mem_of_getElem? (i := 41) rfl
theorem tw_42 : (Jvm.Cond.code ({ cls := "java/lang/Math", name := "min", desc := "(II)I" } : Jvm.MethodName) jdk_29_method_69_code (2 : Nat) (Option.some Jvm.ClassFile.FieldType.int)) ∈ tables_1 := List.mem_of_getElem? (i := 42) rfl
theorem tw_43 : (Jvm.Cond.methodLink "java/util/Arrays" (150 : Nat) ({ cls := "java/lang/System", name := "arraycopy", desc := "(Ljava/lang/Object;ILjava/lang/Object;II)V" } : Jvm.MethodName)) ∈ tables_1 := List.mem_of_getElem? (i := 43) rfl
theorem tw_44 : (Jvm.Cond.static ({ cls := "java/lang/System", name := "arraycopy", desc := "(Ljava/lang/Object;ILjava/lang/Object;II)V" } : Jvm.MethodName)) ∈ tables_1 := List.mem_of_getElem? (i := 44) rfl
theorem tw_45 : (Jvm.Cond.initialized "java/lang/System") ∈ tables_1 := List.mem_of_getElem? (i := 45) rfl
theorem tw_46 : (Jvm.Cond.native ({ cls := "java/lang/System", name := "arraycopy", desc := "(Ljava/lang/Object;ILjava/lang/Object;II)V" } : Jvm.MethodName)) ∈ tables_1 := List.mem_of_getElem? (i := 46) rfl
theorem tw_47 : (Jvm.Cond.classLink "com/example/phasorwire/phasorwire/RangeDecoderIsCanonicalPinLaw" (19 : Nat) "com/example/phasorwire/phasorwire/RangeDecoder") ∈ tables_1 := List.mem_of_getElem? (i := 47) rfl
theorem tw_48 : (Jvm.Cond.instantiable "com/example/phasorwire/phasorwire/RangeDecoder" (6 : Nat)) ∈ tables_1 := List.mem_of_getElem? (i := 48) rfl
theorem tw_49 : (Jvm.Cond.initialized "com/example/phasorwire/phasorwire/RangeDecoder") ∈ tables_1 := List.mem_of_getElem? (i := 49) rfl
theorem tw_50 : (Jvm.Cond.methodLink "com/example/phasorwire/phasorwire/RangeDecoderIsCanonicalPinLaw" (21 : Nat) ({ cls := "com/example/phasorwire/phasorwire/RangeDecoder", name := "<init>", desc := "([B)V" } : Jvm.MethodName)) ∈ tables_1 := List.mem_of_getElem? (i := 50) rfl
theorem tw_51 : (Jvm.Cond.instanceMethod ({ cls := "com/example/phasorwire/phasorwire/RangeDecoder", name := "<init>", desc := "([B)V" } : Jvm.MethodName)) ∈ tables_1 := List.mem_of_getElem? (i := 51) rfl
theorem tw_52 : (Jvm.Cond.code ({ cls := "com/example/phasorwire/phasorwire/RangeDecoder", name := "<init>", desc := "([B)V" } : Jvm.MethodName) prog_62_method_1_code (3 : Nat) (Option.none : Option Jvm.ClassFile.FieldType)) ∈ tables_1 := List.mem_of_getElem? (i := 52) rfl
theorem tw_53 : (Jvm.Cond.methodLink "com/example/phasorwire/phasorwire/RangeDecoder" (1 : Nat) ({ cls := "java/lang/Object", name := "<init>", desc := "()V" } : Jvm.MethodName)) ∈ tables_1 := List.mem_of_getElem? (i := 53) rfl
theorem tw_54 : (Jvm.Cond.constantLong "com/example/phasorwire/phasorwire/RangeDecoder" (9 : Nat) (4294967295 : Int64)) ∈ tables_1 := List.mem_of_getElem? (i := 54) rfl
theorem tw_55 : (Jvm.Cond.fieldLink "com/example/phasorwire/phasorwire/RangeDecoder" (11 : Nat) "com/example/phasorwire/phasorwire/RangeDecoder" "range" "J") ∈ tables_1 := List.mem_of_getElem? (i := 55) rfl
theorem tw_56 : (Jvm.Cond.lays "com/example/phasorwire/phasorwire/RangeDecoder" "com/example/phasorwire/phasorwire/RangeDecoder" "range" "J") ∈ tables_1 := List.mem_of_getElem? (i := 56) rfl
theorem tw_57 : (Jvm.Cond.methodLink "com/example/phasorwire/phasorwire/RangeDecoder" (17 : Nat) ({ cls := "java/util/Arrays", name := "copyOf", desc := "([BI)[B" } : Jvm.MethodName)) ∈ tables_1 := List.mem_of_getElem? (i := 57) rfl
theorem tw_58 : (Jvm.Cond.fieldLink "com/example/phasorwire/phasorwire/RangeDecoder" (23 : Nat) "com/example/phasorwire/phasorwire/RangeDecoder" "data" "[B") ∈ tables_1 := List.mem_of_getElem? (i := 58) rfl
theorem tw_59 : (Jvm.Cond.laysFinal "com/example/phasorwire/phasorwire/RangeDecoder" "com/example/phasorwire/phasorwire/RangeDecoder" "data" "[B") ∈ tables_1 := List.mem_of_getElem? (i := 59) rfl
theorem tw_60 : (Jvm.Cond.fieldLink "com/example/phasorwire/phasorwire/RangeDecoder" (27 : Nat) "com/example/phasorwire/phasorwire/RangeDecoder" "length" "I") ∈ tables_1 := List.mem_of_getElem? (i := 60) rfl
theorem tw_61 : (Jvm.Cond.laysFinal "com/example/phasorwire/phasorwire/RangeDecoder" "com/example/phasorwire/phasorwire/RangeDecoder" "length" "I") ∈ tables_1 := List.mem_of_getElem? (i := 61) rfl
theorem tw_62 : (Jvm.Cond.methodLink "com/example/phasorwire/phasorwire/RangeDecoder" (31 : Nat) ({ cls := "com/example/phasorwire/phasorwire/RangeDecoder", name := "shiftIn", desc := "()V" } : Jvm.MethodName)) ∈ tables_1 := List.mem_of_getElem? (i := 62) rfl
theorem tw_63 : (Jvm.Cond.instanceMethod ({ cls := "com/example/phasorwire/phasorwire/RangeDecoder", name := "shiftIn", desc := "()V" } : Jvm.MethodName)) ∈ tables_1 := List.mem_of_getElem? (i := 63) rfl
theorem tw_64 : (Jvm.Cond.privateMethod ({ cls := "com/example/phasorwire/phasorwire/RangeDecoder", name := "shiftIn", desc := "()V" } : Jvm.MethodName)) ∈ tables_1 := List.mem_of_getElem? (i := 64) rfl
theorem tw_65 : (Jvm.Cond.code ({ cls := "com/example/phasorwire/phasorwire/RangeDecoder", name := "shiftIn", desc := "()V" } : Jvm.MethodName) prog_62_method_4_code (2 : Nat) (Option.none : Option Jvm.ClassFile.FieldType)) ∈ tables_1 := List.mem_of_getElem? (i := 65) rfl
theorem tw_66 : (Jvm.Cond.fieldLink "com/example/phasorwire/phasorwire/RangeDecoder" (46 : Nat) "com/example/phasorwire/phasorwire/RangeDecoder" "position" "I") ∈ tables_1 := List.mem_of_getElem? (i := 66) rfl
theorem tw_67 : (Jvm.Cond.lays "com/example/phasorwire/phasorwire/RangeDecoder" "com/example/phasorwire/phasorwire/RangeDecoder" "position" "I") ∈ tables_1 := List.mem_of_getElem? (i := 67) rfl
theorem tw_68 : (Jvm.Cond.methodLink "com/example/phasorwire/phasorwire/RangeDecoder" (49 : Nat) ({ cls := "java/lang/Math", name := "min", desc := "(II)I" } : Jvm.MethodName)) ∈ tables_1 := List.mem_of_getElem? (i := 68) rfl
theorem tw_69 : (Jvm.Cond.fieldLink "com/example/phasorwire/phasorwire/RangeDecoder" (34 : Nat) "com/example/phasorwire/phasorwire/RangeDecoder" "code" "J") ∈ tables_1 := List.mem_of_getElem? (i := 69) rfl
theorem tw_70 : (Jvm.Cond.lays "com/example/phasorwire/phasorwire/RangeDecoder" "com/example/phasorwire/phasorwire/RangeDecoder" "code" "J") ∈ tables_1 := List.mem_of_getElem? (i := 70) rfl
theorem tw_71 : (Jvm.Cond.fieldLink "com/example/phasorwire/phasorwire/RangeDecoder" (43 : Nat) "com/example/phasorwire/phasorwire/RangeDecoder" "window" "J") ∈ tables_1 := List.mem_of_getElem? (i := 71) rfl
theorem tw_72 : (Jvm.Cond.lays "com/example/phasorwire/phasorwire/RangeDecoder" "com/example/phasorwire/phasorwire/RangeDecoder" "window" "J") ∈ tables_1 := List.mem_of_getElem? (i := 72) rfl
theorem tw_73 : (Jvm.Cond.methodLink "com/example/phasorwire/phasorwire/RangeDecoderIsCanonicalPinLaw" (28 : Nat) ({ cls := "com/example/phasorwire/phasorwire/RangeDecoder", name := "isCanonical", desc := "()Z" } : Jvm.MethodName)) ∈ tables_1 := List.mem_of_getElem? (i := 73) rfl
theorem tw_74 : (Jvm.Cond.declares ({ cls := "com/example/phasorwire/phasorwire/RangeDecoder", name := "isCanonical", desc := "()Z" } : Jvm.MethodName)) ∈ tables_1 := List.mem_of_getElem? (i := 74) rfl
theorem tw_75 : (Jvm.Cond.instanceMethod ({ cls := "com/example/phasorwire/phasorwire/RangeDecoder", name := "isCanonical", desc := "()Z" } : Jvm.MethodName)) ∈ tables_1 := List.mem_of_getElem? (i := 75) rfl
theorem tw_76 : (Jvm.Cond.selects "com/example/phasorwire/phasorwire/RangeDecoder" ({ cls := "com/example/phasorwire/phasorwire/RangeDecoder", name := "isCanonical", desc := "()Z" } : Jvm.MethodName) ({ cls := "com/example/phasorwire/phasorwire/RangeDecoder", name := "isCanonical", desc := "()Z" } : Jvm.MethodName)) ∈ tables_1 := List.mem_of_getElem? (i := 76) rfl
theorem tw_77 : (Jvm.Cond.code ({ cls := "com/example/phasorwire/phasorwire/RangeDecoder", name := "isCanonical", desc := "()Z" } : Jvm.MethodName) prog_62_method_3_code (10 : Nat) (Option.some Jvm.ClassFile.FieldType.boolean)) ∈ tables_1 := List.mem_of_getElem? (i := 77) rfl
theorem tw_78 : (Jvm.Cond.methodLink "com/example/phasorwire/phasorwire/RangeDecoderIsCanonicalPinLaw" (32 : Nat) ({ cls := "com/example/phasorwire/phasorwire/RangeDecoderIsCanonicalPinLaw", name := "equal", desc := "([B[B)Z" } : Jvm.MethodName)) ∈ tables_1 := List.mem_of_getElem? (i := 78) rfl
theorem tw_79 : (Jvm.Cond.static ({ cls := "com/example/phasorwire/phasorwire/RangeDecoderIsCanonicalPinLaw", name := "equal", desc := "([B[B)Z" } : Jvm.MethodName)) ∈ tables_1 := List.mem_of_getElem? (i := 79) rfl
theorem tw_80 : (Jvm.Cond.initialized "com/example/phasorwire/phasorwire/RangeDecoderIsCanonicalPinLaw") ∈ tables_1 := List.mem_of_getElem? (i := 80) rfl
theorem tw_81 : (Jvm.Cond.code ({ cls := "com/example/phasorwire/phasorwire/RangeDecoderIsCanonicalPinLaw", name := "equal", desc := "([B[B)Z" } : Jvm.MethodName) method_3_code (2 : Nat) (Option.some Jvm.ClassFile.FieldType.boolean)) ∈ tables_1 := List.mem_of_getElem? (i := 81) rfl
theorem tw_82 : (Jvm.Cond.methodLink "com/example/phasorwire/phasorwire/RangeDecoderIsCanonicalPinLaw" (38 : Nat) ({ cls := "com/example/phasorwire/phasorwire/RangeDecoderIsCanonicalPinLaw", name := "at", desc := "([B[BI)Z" } : Jvm.MethodName)) ∈ tables_1 := List.mem_of_getElem? (i := 82) rfl
theorem tw_83 : (Jvm.Cond.static ({ cls := "com/example/phasorwire/phasorwire/RangeDecoderIsCanonicalPinLaw", name := "at", desc := "([B[BI)Z" } : Jvm.MethodName)) ∈ tables_1 := List.mem_of_getElem? (i := 83) rfl
theorem tw_84 : (Jvm.Cond.code ({ cls := "com/example/phasorwire/phasorwire/RangeDecoderIsCanonicalPinLaw", name := "at", desc := "([B[BI)Z" } : Jvm.MethodName) method_4_code (3 : Nat) (Option.some Jvm.ClassFile.FieldType.boolean)) ∈ tables_1 := List.mem_of_getElem? (i := 84) rfl
theorem tw_85 : (Jvm.Cond.methodLink "com/example/phasorwire/phasorwire/RangeDecoderIsCanonicalPinLaw" (11 : Nat) ({ cls := "com/example/phasorwire/phasorwire/RangeEncoder", name := "encode", desc := "(IZ)V" } : Jvm.MethodName)) ∈ tables_1 := List.mem_of_getElem? (i := 85) rfl
theorem tw_86 : (Jvm.Cond.declares ({ cls := "com/example/phasorwire/phasorwire/RangeEncoder", name := "encode", desc := "(IZ)V" } : Jvm.MethodName)) ∈ tables_1 := List.mem_of_getElem? (i := 86) rfl
theorem tw_87 : (Jvm.Cond.instanceMethod ({ cls := "com/example/phasorwire/phasorwire/RangeEncoder", name := "encode", desc := "(IZ)V" } : Jvm.MethodName)) ∈ tables_1 := List.mem_of_getElem? (i := 87) rfl
theorem tw_88 : (Jvm.Cond.selects "com/example/phasorwire/phasorwire/RangeEncoder" ({ cls := "com/example/phasorwire/phasorwire/RangeEncoder", name := "encode", desc := "(IZ)V" } : Jvm.MethodName) ({ cls := "com/example/phasorwire/phasorwire/RangeEncoder", name := "encode", desc := "(IZ)V" } : Jvm.MethodName)) ∈ tables_1 := List.mem_of_getElem? (i := 88) rfl
theorem tw_89 : (Jvm.Cond.code ({ cls := "com/example/phasorwire/phasorwire/RangeEncoder", name := "encode", desc := "(IZ)V" } : Jvm.MethodName) prog_64_method_2_code (7 : Nat) (Option.none : Option Jvm.ClassFile.FieldType)) ∈ tables_1 := List.mem_of_getElem? (i := 89) rfl
theorem tw_90 : (Jvm.Cond.constantLong "com/example/phasorwire/phasorwire/RangeEncoder" (23 : Nat) (-1 : Int64)) ∈ tables_1 := List.mem_of_getElem? (i := 90) rfl
theorem tw_91 : (Jvm.Cond.constantLong "com/example/phasorwire/phasorwire/RangeEncoder" (28 : Nat) (2 : Int64)) ∈ tables_1 := List.mem_of_getElem? (i := 91) rfl
theorem tw_92 : (Jvm.Cond.constantLong "com/example/phasorwire/phasorwire/RangeEncoder" (30 : Nat) (16777216 : Int64)) ∈ tables_1 := List.mem_of_getElem? (i := 92) rfl
theorem tw_93 : (Jvm.Cond.methodLink "com/example/phasorwire/phasorwire/RangeEncoder" (53 : Nat) ({ cls := "com/example/phasorwire/phasorwire/RangeEncoder", name := "write", desc := "(I)V" } : Jvm.MethodName)) ∈ tables_1 := List.mem_of_getElem? (i := 93) rfl
theorem tw_94 : (Jvm.Cond.instanceMethod ({ cls := "com/example/phasorwire/phasorwire/RangeEncoder", name := "write", desc := "(I)V" } : Jvm.MethodName)) ∈ tables_1 := List.mem_of_getElem? (i := 94) rfl
theorem tw_95 : (Jvm.Cond.privateMethod ({ cls := "com/example/phasorwire/phasorwire/RangeEncoder", name := "write", desc := "(I)V" } : Jvm.MethodName)) ∈ tables_1 := List.mem_of_getElem? (i := 95) rfl
theorem tw_96 : (Jvm.Cond.code ({ cls := "com/example/phasorwire/phasorwire/RangeEncoder", name := "write", desc := "(I)V" } : Jvm.MethodName) prog_64_method_6_code (2 : Nat) (Option.none : Option Jvm.ClassFile.FieldType)) ∈ tables_1 := List.mem_of_getElem? (i := 96) rfl
theorem tw_97 : (Jvm.Cond.methodLink "com/example/phasorwire/phasorwire/RangeDecoderIsCanonicalPinLaw" (24 : Nat) ({ cls := "com/example/phasorwire/phasorwire/RangeDecoder", name := "decode", desc := "(I)Z" } : Jvm.MethodName)) ∈ tables_1 := List.mem_of_getElem? (i := 97) rfl
theorem tw_98 : (Jvm.Cond.declares ({ cls := "com/example/phasorwire/phasorwire/RangeDecoder", name := "decode", desc := "(I)Z" } : Jvm.MethodName)) ∈ tables_1 := List.mem_of_getElem? (i := 98) rfl
theorem tw_99 : (Jvm.Cond.instanceMethod ({ cls := "com/example/phasorwire/phasorwire/RangeDecoder", name := "decode", desc := "(I)Z" } : Jvm.MethodName)) ∈ tables_1 := List.mem_of_getElem? (i := 99) rfl
theorem tw_100 : (Jvm.Cond.selects "com/example/phasorwire/phasorwire/RangeDecoder" ({ cls := "com/example/phasorwire/phasorwire/RangeDecoder", name := "decode", desc := "(I)Z" } : Jvm.MethodName) ({ cls := "com/example/phasorwire/phasorwire/RangeDecoder", name := "decode", desc := "(I)Z" } : Jvm.MethodName)) ∈ tables_1 := List.mem_of_getElem? (i := 100) rfl
theorem tw_101 : (Jvm.Cond.code ({ cls := "com/example/phasorwire/phasorwire/RangeDecoder", name := "decode", desc := "(I)Z" } : Jvm.MethodName) prog_62_method_2_code (6 : Nat) (Option.some Jvm.ClassFile.FieldType.boolean)) ∈ tables_1 := List.mem_of_getElem? (i := 101) rfl
theorem tw_102 : (Jvm.Cond.constantLong "com/example/phasorwire/phasorwire/RangeDecoder" (37 : Nat) (-1 : Int64)) ∈ tables_1 := List.mem_of_getElem? (i := 102) rfl
theorem tw_103 : (Jvm.Cond.constantLong "com/example/phasorwire/phasorwire/RangeDecoder" (39 : Nat) (2 : Int64)) ∈ tables_1 := List.mem_of_getElem? (i := 103) rfl
theorem tw_104 : (Jvm.Cond.constantLong "com/example/phasorwire/phasorwire/RangeDecoder" (41 : Nat) (16777216 : Int64)) ∈ tables_1 := List.mem_of_getElem? (i := 104) rfl
theorem tw_105 : (Jvm.Cond.constantLong "com/example/phasorwire/phasorwire/RangeEncoder" (51 : Nat) (4294967296 : Int64)) ∈ tables_1 := List.mem_of_getElem? (i := 105) rfl
theorem sn_0 {Z : State} {a0 : Array Value} (hw : ∀ d ∈ tables_1, d.before a0 Z = true) : Jvm.RoadKit.slotOf Z "com/example/phasorwire/phasorwire/RangeEncoder" "held" "I" ≠ Jvm.RoadKit.slotOf Z "com/example/phasorwire/phasorwire/RangeEncoder" "range" "J" := Jvm.RoadKit.slot_ne (Or.inl (hw _ tw_15)) (Or.inl (hw _ tw_13)) (by decide) (t := .int) (t' := .long) (by decide) (by decide)
theorem sn_1 {Z : State} {a0 : Array Value} (hw : ∀ d ∈ tables_1, d.before a0 Z = true) : Jvm.RoadKit.slotOf Z "com/example/phasorwire/phasorwire/RangeEncoder" "bytes" "[B" ≠ Jvm.RoadKit.slotOf Z "com/example/phasorwire/phasorwire/RangeEncoder" "range" "J" := Jvm.RoadKit.slot_ne (Or.inl (hw _ tw_17)) (Or.inl (hw _ tw_13)) (by decide) (t := (.array .byte)) (t' := .long) (by decide) (by decide)
theorem sn_2 {Z : State} {a0 : Array Value} (hw : ∀ d ∈ tables_1, d.before a0 Z = true) : Jvm.RoadKit.slotOf Z "com/example/phasorwire/phasorwire/RangeEncoder" "bytes" "[B" ≠ Jvm.RoadKit.slotOf Z "com/example/phasorwire/phasorwire/RangeEncoder" "held" "I" := Jvm.RoadKit.slot_ne (Or.inl (hw _ tw_17)) (Or.inl (hw _ tw_15)) (by decide) (t := (.array .byte)) (t' := .int) (by decide) (by decide)
theorem sn_3 {Z : State} {a0 : Array Value} (hw : ∀ d ∈ tables_1, d.before a0 Z = true) : Jvm.RoadKit.slotOf Z "com/example/phasorwire/phasorwire/RangeEncoder" "low" "J" ≠ Jvm.RoadKit.slotOf Z "com/example/phasorwire/phasorwire/RangeEncoder" "range" "J" := Jvm.RoadKit.slot_ne (Or.inl (hw _ tw_24)) (Or.inl (hw _ tw_13)) (by decide) (t := .long) (t' := .long) (by decide) (by decide)
theorem sn_4 {Z : State} {a0 : Array Value} (hw : ∀ d ∈ tables_1, d.before a0 Z = true) : Jvm.RoadKit.slotOf Z "com/example/phasorwire/phasorwire/RangeEncoder" "low" "J" ≠ Jvm.RoadKit.slotOf Z "com/example/phasorwire/phasorwire/RangeEncoder" "held" "I" := Jvm.RoadKit.slot_ne (Or.inl (hw _ tw_24)) (Or.inl (hw _ tw_15)) (by decide) (t := .long) (t' := .int) (by decide) (by decide)
theorem sn_5 {Z : State} {a0 : Array Value} (hw : ∀ d ∈ tables_1, d.before a0 Z = true) : Jvm.RoadKit.slotOf Z "com/example/phasorwire/phasorwire/RangeEncoder" "low" "J" ≠ Jvm.RoadKit.slotOf Z "com/example/phasorwire/phasorwire/RangeEncoder" "bytes" "[B" := Jvm.RoadKit.slot_ne (Or.inl (hw _ tw_24)) (Or.inl (hw _ tw_17)) (by decide) (t := .long) (t' := (.array .byte)) (by decide) (by decide)
theorem sn_6 {Z : State} {a0 : Array Value} (hw : ∀ d ∈ tables_1, d.before a0 Z = true) : Jvm.RoadKit.slotOf Z "com/example/phasorwire/phasorwire/RangeEncoder" "range" "J" ≠ Jvm.RoadKit.slotOf Z "com/example/phasorwire/phasorwire/RangeEncoder" "held" "I" := Jvm.RoadKit.slot_ne (Or.inl (hw _ tw_13)) (Or.inl (hw _ tw_15)) (by decide) (t := .long) (t' := .int) (by decide) (by decide)
theorem sn_7 {Z : State} {a0 : Array Value} (hw : ∀ d ∈ tables_1, d.before a0 Z = true) : Jvm.RoadKit.slotOf Z "com/example/phasorwire/phasorwire/RangeEncoder" "range" "J" ≠ Jvm.RoadKit.slotOf Z "com/example/phasorwire/phasorwire/RangeEncoder" "bytes" "[B" := Jvm.RoadKit.slot_ne (Or.inl (hw _ tw_13)) (Or.inl (hw _ tw_17)) (by decide) (t := .long) (t' := (.array .byte)) (by decide) (by decide)
theorem sn_8 {Z : State} {a0 : Array Value} (hw : ∀ d ∈ tables_1, d.before a0 Z = true) : Jvm.RoadKit.slotOf Z "com/example/phasorwire/phasorwire/RangeEncoder" "held" "I" ≠ Jvm.RoadKit.slotOf Z "com/example/phasorwire/phasorwire/RangeEncoder" "bytes" "[B" := Jvm.RoadKit.slot_ne (Or.inl (hw _ tw_15)) (Or.inl (hw _ tw_17)) (by decide) (t := .int) (t' := (.array .byte)) (by decide) (by decide)
theorem sn_9 {Z : State} {a0 : Array Value} (hw : ∀ d ∈ tables_1, d.before a0 Z = true) : Jvm.RoadKit.slotOf Z "com/example/phasorwire/phasorwire/RangeEncoder" "heldOnes" "J" ≠ Jvm.RoadKit.slotOf Z "com/example/phasorwire/phasorwire/RangeEncoder" "range" "J" := Jvm.RoadKit.slot_ne (Or.inl (hw _ tw_31)) (Or.inl (hw _ tw_13)) (by decide) (t := .long) (t' := .long) (by decide) (by decide)
theorem sn_10 {Z : State} {a0 : Array Value} (hw : ∀ d ∈ tables_1, d.before a0 Z = true) : Jvm.RoadKit.slotOf Z "com/example/phasorwire/phasorwire/RangeEncoder" "heldOnes" "J" ≠ Jvm.RoadKit.slotOf Z "com/example/phasorwire/phasorwire/RangeEncoder" "held" "I" := Jvm.RoadKit.slot_ne (Or.inl (hw _ tw_31)) (Or.inl (hw _ tw_15)) (by decide) (t := .long) (t' := .int) (by decide) (by decide)
theorem sn_11 {Z : State} {a0 : Array Value} (hw : ∀ d ∈ tables_1, d.before a0 Z = true) : Jvm.RoadKit.slotOf Z "com/example/phasorwire/phasorwire/RangeEncoder" "heldOnes" "J" ≠ Jvm.RoadKit.slotOf Z "com/example/phasorwire/phasorwire/RangeEncoder" "bytes" "[B" := Jvm.RoadKit.slot_ne (Or.inl (hw _ tw_31)) (Or.inl (hw _ tw_17)) (by decide) (t := .long) (t' := (.array .byte)) (by decide) (by decide)
theorem sn_12 {Z : State} {a0 : Array Value} (hw : ∀ d ∈ tables_1, d.before a0 Z = true) : Jvm.RoadKit.slotOf Z "com/example/phasorwire/phasorwire/RangeEncoder" "length" "I" ≠ Jvm.RoadKit.slotOf Z "com/example/phasorwire/phasorwire/RangeEncoder" "range" "J" := Jvm.RoadKit.slot_ne (Or.inl (hw _ tw_34)) (Or.inl (hw _ tw_13)) (by decide) (t := .int) (t' := .long) (by decide) (by decide)
theorem sn_13 {Z : State} {a0 : Array Value} (hw : ∀ d ∈ tables_1, d.before a0 Z = true) : Jvm.RoadKit.slotOf Z "com/example/phasorwire/phasorwire/RangeEncoder" "length" "I" ≠ Jvm.RoadKit.slotOf Z "com/example/phasorwire/phasorwire/RangeEncoder" "held" "I" := Jvm.RoadKit.slot_ne (Or.inl (hw _ tw_34)) (Or.inl (hw _ tw_15)) (by decide) (t := .int) (t' := .int) (by decide) (by decide)
theorem sn_14 {Z : State} {a0 : Array Value} (hw : ∀ d ∈ tables_1, d.before a0 Z = true) : Jvm.RoadKit.slotOf Z "com/example/phasorwire/phasorwire/RangeEncoder" "length" "I" ≠ Jvm.RoadKit.slotOf Z "com/example/phasorwire/phasorwire/RangeEncoder" "bytes" "[B" := Jvm.RoadKit.slot_ne (Or.inl (hw _ tw_34)) (Or.inl (hw _ tw_17)) (by decide) (t := .int) (t' := (.array .byte)) (by decide) (by decide)
theorem sn_15 {Z : State} {a0 : Array Value} (hw : ∀ d ∈ tables_1, d.before a0 Z = true) : Jvm.RoadKit.slotOf Z "com/example/phasorwire/phasorwire/RangeEncoder" "low" "J" ≠ Jvm.RoadKit.slotOf Z "com/example/phasorwire/phasorwire/RangeEncoder" "length" "I" := Jvm.RoadKit.slot_ne (Or.inl (hw _ tw_24)) (Or.inl (hw _ tw_34)) (by decide) (t := .long) (t' := .int) (by decide) (by decide)
theorem sn_16 {Z : State} {a0 : Array Value} (hw : ∀ d ∈ tables_1, d.before a0 Z = true) : Jvm.RoadKit.slotOf Z "com/example/phasorwire/phasorwire/RangeEncoder" "range" "J" ≠ Jvm.RoadKit.slotOf Z "com/example/phasorwire/phasorwire/RangeEncoder" "length" "I" := Jvm.RoadKit.slot_ne (Or.inl (hw _ tw_13)) (Or.inl (hw _ tw_34)) (by decide) (t := .long) (t' := .int) (by decide) (by decide)
theorem sn_17 {Z : State} {a0 : Array Value} (hw : ∀ d ∈ tables_1, d.before a0 Z = true) : Jvm.RoadKit.slotOf Z "com/example/phasorwire/phasorwire/RangeEncoder" "held" "I" ≠ Jvm.RoadKit.slotOf Z "com/example/phasorwire/phasorwire/RangeEncoder" "length" "I" := Jvm.RoadKit.slot_ne (Or.inl (hw _ tw_15)) (Or.inl (hw _ tw_34)) (by decide) (t := .int) (t' := .int) (by decide) (by decide)
theorem sn_18 {Z : State} {a0 : Array Value} (hw : ∀ d ∈ tables_1, d.before a0 Z = true) : Jvm.RoadKit.slotOf Z "com/example/phasorwire/phasorwire/RangeEncoder" "heldOnes" "J" ≠ Jvm.RoadKit.slotOf Z "com/example/phasorwire/phasorwire/RangeEncoder" "length" "I" := Jvm.RoadKit.slot_ne (Or.inl (hw _ tw_31)) (Or.inl (hw _ tw_34)) (by decide) (t := .long) (t' := .int) (by decide) (by decide)
theorem sn_19 {Z : State} {a0 : Array Value} (hw : ∀ d ∈ tables_1, d.before a0 Z = true) : Jvm.RoadKit.slotOf Z "com/example/phasorwire/phasorwire/RangeEncoder" "bytes" "[B" ≠ Jvm.RoadKit.slotOf Z "com/example/phasorwire/phasorwire/RangeEncoder" "length" "I" := Jvm.RoadKit.slot_ne (Or.inl (hw _ tw_17)) (Or.inl (hw _ tw_34)) (by decide) (t := (.array .byte)) (t' := .int) (by decide) (by decide)
theorem sn_20 {Z : State} {a0 : Array Value} (hw : ∀ d ∈ tables_1, d.before a0 Z = true) : Jvm.RoadKit.slotOf Z "com/example/phasorwire/phasorwire/RangeEncoder" "low" "J" ≠ Jvm.RoadKit.slotOf Z "com/example/phasorwire/phasorwire/RangeEncoder" "heldOnes" "J" := Jvm.RoadKit.slot_ne (Or.inl (hw _ tw_24)) (Or.inl (hw _ tw_31)) (by decide) (t := .long) (t' := .long) (by decide) (by decide)
theorem sn_21 {Z : State} {a0 : Array Value} (hw : ∀ d ∈ tables_1, d.before a0 Z = true) : Jvm.RoadKit.slotOf Z "com/example/phasorwire/phasorwire/RangeEncoder" "range" "J" ≠ Jvm.RoadKit.slotOf Z "com/example/phasorwire/phasorwire/RangeEncoder" "heldOnes" "J" := Jvm.RoadKit.slot_ne (Or.inl (hw _ tw_13)) (Or.inl (hw _ tw_31)) (by decide) (t := .long) (t' := .long) (by decide) (by decide)
theorem sn_22 {Z : State} {a0 : Array Value} (hw : ∀ d ∈ tables_1, d.before a0 Z = true) : Jvm.RoadKit.slotOf Z "com/example/phasorwire/phasorwire/RangeEncoder" "held" "I" ≠ Jvm.RoadKit.slotOf Z "com/example/phasorwire/phasorwire/RangeEncoder" "heldOnes" "J" := Jvm.RoadKit.slot_ne (Or.inl (hw _ tw_15)) (Or.inl (hw _ tw_31)) (by decide) (t := .int) (t' := .long) (by decide) (by decide)
theorem sn_23 {Z : State} {a0 : Array Value} (hw : ∀ d ∈ tables_1, d.before a0 Z = true) : Jvm.RoadKit.slotOf Z "com/example/phasorwire/phasorwire/RangeEncoder" "bytes" "[B" ≠ Jvm.RoadKit.slotOf Z "com/example/phasorwire/phasorwire/RangeEncoder" "heldOnes" "J" := Jvm.RoadKit.slot_ne (Or.inl (hw _ tw_17)) (Or.inl (hw _ tw_31)) (by decide) (t := (.array .byte)) (t' := .long) (by decide) (by decide)
theorem sn_24 {Z : State} {a0 : Array Value} (hw : ∀ d ∈ tables_1, d.before a0 Z = true) : Jvm.RoadKit.slotOf Z "com/example/phasorwire/phasorwire/RangeEncoder" "length" "I" ≠ Jvm.RoadKit.slotOf Z "com/example/phasorwire/phasorwire/RangeEncoder" "heldOnes" "J" := Jvm.RoadKit.slot_ne (Or.inl (hw _ tw_34)) (Or.inl (hw _ tw_31)) (by decide) (t := .int) (t' := .long) (by decide) (by decide)
theorem sn_25 {Z : State} {a0 : Array Value} (hw : ∀ d ∈ tables_1, d.before a0 Z = true) : Jvm.RoadKit.slotOf Z "com/example/phasorwire/phasorwire/RangeEncoder" "range" "J" ≠ Jvm.RoadKit.slotOf Z "com/example/phasorwire/phasorwire/RangeEncoder" "low" "J" := Jvm.RoadKit.slot_ne (Or.inl (hw _ tw_13)) (Or.inl (hw _ tw_24)) (by decide) (t := .long) (t' := .long) (by decide) (by decide)
theorem sn_26 {Z : State} {a0 : Array Value} (hw : ∀ d ∈ tables_1, d.before a0 Z = true) : Jvm.RoadKit.slotOf Z "com/example/phasorwire/phasorwire/RangeEncoder" "held" "I" ≠ Jvm.RoadKit.slotOf Z "com/example/phasorwire/phasorwire/RangeEncoder" "low" "J" := Jvm.RoadKit.slot_ne (Or.inl (hw _ tw_15)) (Or.inl (hw _ tw_24)) (by decide) (t := .int) (t' := .long) (by decide) (by decide)
theorem sn_27 {Z : State} {a0 : Array Value} (hw : ∀ d ∈ tables_1, d.before a0 Z = true) : Jvm.RoadKit.slotOf Z "com/example/phasorwire/phasorwire/RangeEncoder" "heldOnes" "J" ≠ Jvm.RoadKit.slotOf Z "com/example/phasorwire/phasorwire/RangeEncoder" "low" "J" := Jvm.RoadKit.slot_ne (Or.inl (hw _ tw_31)) (Or.inl (hw _ tw_24)) (by decide) (t := .long) (t' := .long) (by decide) (by decide)
theorem sn_28 {Z : State} {a0 : Array Value} (hw : ∀ d ∈ tables_1, d.before a0 Z = true) : Jvm.RoadKit.slotOf Z "com/example/phasorwire/phasorwire/RangeEncoder" "bytes" "[B" ≠ Jvm.RoadKit.slotOf Z "com/example/phasorwire/phasorwire/RangeEncoder" "low" "J" := Jvm.RoadKit.slot_ne (Or.inl (hw _ tw_17)) (Or.inl (hw _ tw_24)) (by decide) (t := (.array .byte)) (t' := .long) (by decide) (by decide)
theorem sn_29 {Z : State} {a0 : Array Value} (hw : ∀ d ∈ tables_1, d.before a0 Z = true) : Jvm.RoadKit.slotOf Z "com/example/phasorwire/phasorwire/RangeEncoder" "length" "I" ≠ Jvm.RoadKit.slotOf Z "com/example/phasorwire/phasorwire/RangeEncoder" "low" "J" := Jvm.RoadKit.slot_ne (Or.inl (hw _ tw_34)) (Or.inl (hw _ tw_24)) (by decide) (t := .int) (t' := .long) (by decide) (by decide)
theorem sn_30 {Z : State} {a0 : Array Value} (hw : ∀ d ∈ tables_1, d.before a0 Z = true) : Jvm.RoadKit.slotOf Z "com/example/phasorwire/phasorwire/RangeDecoder" "code" "J" ≠ Jvm.RoadKit.slotOf Z "com/example/phasorwire/phasorwire/RangeDecoder" "position" "I" := Jvm.RoadKit.slot_ne (Or.inl (hw _ tw_70)) (Or.inl (hw _ tw_67)) (by decide) (t := .long) (t' := .int) (by decide) (by decide)
theorem sn_31 {Z : State} {a0 : Array Value} (hw : ∀ d ∈ tables_1, d.before a0 Z = true) : Jvm.RoadKit.slotOf Z "com/example/phasorwire/phasorwire/RangeDecoder" "window" "J" ≠ Jvm.RoadKit.slotOf Z "com/example/phasorwire/phasorwire/RangeDecoder" "position" "I" := Jvm.RoadKit.slot_ne (Or.inl (hw _ tw_72)) (Or.inl (hw _ tw_67)) (by decide) (t := .long) (t' := .int) (by decide) (by decide)
theorem sn_32 {Z : State} {a0 : Array Value} (hw : ∀ d ∈ tables_1, d.before a0 Z = true) : Jvm.RoadKit.slotOf Z "com/example/phasorwire/phasorwire/RangeDecoder" "window" "J" ≠ Jvm.RoadKit.slotOf Z "com/example/phasorwire/phasorwire/RangeDecoder" "code" "J" := Jvm.RoadKit.slot_ne (Or.inl (hw _ tw_72)) (Or.inl (hw _ tw_70)) (by decide) (t := .long) (t' := .long) (by decide) (by decide)
theorem sn_33 {Z : State} {a0 : Array Value} (hw : ∀ d ∈ tables_1, d.before a0 Z = true) : Jvm.RoadKit.slotOf Z "com/example/phasorwire/phasorwire/RangeDecoder" "data" "[B" ≠ Jvm.RoadKit.slotOf Z "com/example/phasorwire/phasorwire/RangeDecoder" "position" "I" := Jvm.RoadKit.slot_ne (Or.inr (hw _ tw_59)) (Or.inl (hw _ tw_67)) (by decide) (t := (.array .byte)) (t' := .int) (by decide) (by decide)
theorem sn_34 {Z : State} {a0 : Array Value} (hw : ∀ d ∈ tables_1, d.before a0 Z = true) : Jvm.RoadKit.slotOf Z "com/example/phasorwire/phasorwire/RangeDecoder" "data" "[B" ≠ Jvm.RoadKit.slotOf Z "com/example/phasorwire/phasorwire/RangeDecoder" "code" "J" := Jvm.RoadKit.slot_ne (Or.inr (hw _ tw_59)) (Or.inl (hw _ tw_70)) (by decide) (t := (.array .byte)) (t' := .long) (by decide) (by decide)
theorem sn_35 {Z : State} {a0 : Array Value} (hw : ∀ d ∈ tables_1, d.before a0 Z = true) : Jvm.RoadKit.slotOf Z "com/example/phasorwire/phasorwire/RangeDecoder" "data" "[B" ≠ Jvm.RoadKit.slotOf Z "com/example/phasorwire/phasorwire/RangeDecoder" "window" "J" := Jvm.RoadKit.slot_ne (Or.inr (hw _ tw_59)) (Or.inl (hw _ tw_72)) (by decide) (t := (.array .byte)) (t' := .long) (by decide) (by decide)
theorem sn_36 {Z : State} {a0 : Array Value} (hw : ∀ d ∈ tables_1, d.before a0 Z = true) : Jvm.RoadKit.slotOf Z "com/example/phasorwire/phasorwire/RangeDecoder" "length" "I" ≠ Jvm.RoadKit.slotOf Z "com/example/phasorwire/phasorwire/RangeDecoder" "position" "I" := Jvm.RoadKit.slot_ne (Or.inr (hw _ tw_61)) (Or.inl (hw _ tw_67)) (by decide) (t := .int) (t' := .int) (by decide) (by decide)
theorem sn_37 {Z : State} {a0 : Array Value} (hw : ∀ d ∈ tables_1, d.before a0 Z = true) : Jvm.RoadKit.slotOf Z "com/example/phasorwire/phasorwire/RangeDecoder" "length" "I" ≠ Jvm.RoadKit.slotOf Z "com/example/phasorwire/phasorwire/RangeDecoder" "code" "J" := Jvm.RoadKit.slot_ne (Or.inr (hw _ tw_61)) (Or.inl (hw _ tw_70)) (by decide) (t := .int) (t' := .long) (by decide) (by decide)
theorem sn_38 {Z : State} {a0 : Array Value} (hw : ∀ d ∈ tables_1, d.before a0 Z = true) : Jvm.RoadKit.slotOf Z "com/example/phasorwire/phasorwire/RangeDecoder" "length" "I" ≠ Jvm.RoadKit.slotOf Z "com/example/phasorwire/phasorwire/RangeDecoder" "window" "J" := Jvm.RoadKit.slot_ne (Or.inr (hw _ tw_61)) (Or.inl (hw _ tw_72)) (by decide) (t := .int) (t' := .long) (by decide) (by decide)
theorem sn_39 {Z : State} {a0 : Array Value} (hw : ∀ d ∈ tables_1, d.before a0 Z = true) : Jvm.RoadKit.slotOf Z "com/example/phasorwire/phasorwire/RangeDecoder" "position" "I" ≠ Jvm.RoadKit.slotOf Z "com/example/phasorwire/phasorwire/RangeDecoder" "code" "J" := Jvm.RoadKit.slot_ne (Or.inl (hw _ tw_67)) (Or.inl (hw _ tw_70)) (by decide) (t := .int) (t' := .long) (by decide) (by decide)
theorem sn_40 {Z : State} {a0 : Array Value} (hw : ∀ d ∈ tables_1, d.before a0 Z = true) : Jvm.RoadKit.slotOf Z "com/example/phasorwire/phasorwire/RangeDecoder" "position" "I" ≠ Jvm.RoadKit.slotOf Z "com/example/phasorwire/phasorwire/RangeDecoder" "window" "J" := Jvm.RoadKit.slot_ne (Or.inl (hw _ tw_67)) (Or.inl (hw _ tw_72)) (by decide) (t := .int) (t' := .long) (by decide) (by decide)
theorem sn_41 {Z : State} {a0 : Array Value} (hw : ∀ d ∈ tables_1, d.before a0 Z = true) : Jvm.RoadKit.slotOf Z "com/example/phasorwire/phasorwire/RangeDecoder" "range" "J" ≠ Jvm.RoadKit.slotOf Z "com/example/phasorwire/phasorwire/RangeDecoder" "position" "I" := Jvm.RoadKit.slot_ne (Or.inl (hw _ tw_56)) (Or.inl (hw _ tw_67)) (by decide) (t := .long) (t' := .int) (by decide) (by decide)
theorem sn_42 {Z : State} {a0 : Array Value} (hw : ∀ d ∈ tables_1, d.before a0 Z = true) : Jvm.RoadKit.slotOf Z "com/example/phasorwire/phasorwire/RangeDecoder" "range" "J" ≠ Jvm.RoadKit.slotOf Z "com/example/phasorwire/phasorwire/RangeDecoder" "code" "J" := Jvm.RoadKit.slot_ne (Or.inl (hw _ tw_56)) (Or.inl (hw _ tw_70)) (by decide) (t := .long) (t' := .long) (by decide) (by decide)
theorem sn_43 {Z : State} {a0 : Array Value} (hw : ∀ d ∈ tables_1, d.before a0 Z = true) : Jvm.RoadKit.slotOf Z "com/example/phasorwire/phasorwire/RangeDecoder" "range" "J" ≠ Jvm.RoadKit.slotOf Z "com/example/phasorwire/phasorwire/RangeDecoder" "window" "J" := Jvm.RoadKit.slot_ne (Or.inl (hw _ tw_56)) (Or.inl (hw _ tw_72)) (by decide) (t := .long) (t' := .long) (by decide) (by decide)
theorem sn_44 {Z : State} {a0 : Array Value} (hw : ∀ d ∈ tables_1, d.before a0 Z = true) : Jvm.RoadKit.slotOf Z "com/example/phasorwire/phasorwire/RangeDecoder" "code" "J" ≠ Jvm.RoadKit.slotOf Z "com/example/phasorwire/phasorwire/RangeDecoder" "window" "J" := Jvm.RoadKit.slot_ne (Or.inl (hw _ tw_70)) (Or.inl (hw _ tw_72)) (by decide) (t := .long) (t' := .long) (by decide) (by decide)
theorem sn_45 {Z : State} {a0 : Array Value} (hw : ∀ d ∈ tables_1, d.before a0 Z = true) : Jvm.RoadKit.slotOf Z "com/example/phasorwire/phasorwire/RangeDecoder" "data" "[B" ≠ Jvm.RoadKit.slotOf Z "com/example/phasorwire/phasorwire/RangeDecoder" "range" "J" := Jvm.RoadKit.slot_ne (Or.inr (hw _ tw_59)) (Or.inl (hw _ tw_56)) (by decide) (t := (.array .byte)) (t' := .long) (by decide) (by decide)
theorem sn_46 {Z : State} {a0 : Array Value} (hw : ∀ d ∈ tables_1, d.before a0 Z = true) : Jvm.RoadKit.slotOf Z "com/example/phasorwire/phasorwire/RangeDecoder" "length" "I" ≠ Jvm.RoadKit.slotOf Z "com/example/phasorwire/phasorwire/RangeDecoder" "range" "J" := Jvm.RoadKit.slot_ne (Or.inr (hw _ tw_61)) (Or.inl (hw _ tw_56)) (by decide) (t := .int) (t' := .long) (by decide) (by decide)
theorem sn_47 {Z : State} {a0 : Array Value} (hw : ∀ d ∈ tables_1, d.before a0 Z = true) : Jvm.RoadKit.slotOf Z "com/example/phasorwire/phasorwire/RangeDecoder" "length" "I" ≠ Jvm.RoadKit.slotOf Z "com/example/phasorwire/phasorwire/RangeDecoder" "data" "[B" := Jvm.RoadKit.slot_ne (Or.inr (hw _ tw_61)) (Or.inr (hw _ tw_59)) (by decide) (t := .int) (t' := (.array .byte)) (by decide) (by decide)
theorem sn_48 {Z : State} {a0 : Array Value} (hw : ∀ d ∈ tables_1, d.before a0 Z = true) : Jvm.RoadKit.slotOf Z "com/example/phasorwire/phasorwire/RangeDecoder" "position" "I" ≠ Jvm.RoadKit.slotOf Z "com/example/phasorwire/phasorwire/RangeDecoder" "range" "J" := Jvm.RoadKit.slot_ne (Or.inl (hw _ tw_67)) (Or.inl (hw _ tw_56)) (by decide) (t := .int) (t' := .long) (by decide) (by decide)
theorem sn_49 {Z : State} {a0 : Array Value} (hw : ∀ d ∈ tables_1, d.before a0 Z = true) : Jvm.RoadKit.slotOf Z "com/example/phasorwire/phasorwire/RangeDecoder" "position" "I" ≠ Jvm.RoadKit.slotOf Z "com/example/phasorwire/phasorwire/RangeDecoder" "data" "[B" := Jvm.RoadKit.slot_ne (Or.inl (hw _ tw_67)) (Or.inr (hw _ tw_59)) (by decide) (t := .int) (t' := (.array .byte)) (by decide) (by decide)
theorem sn_50 {Z : State} {a0 : Array Value} (hw : ∀ d ∈ tables_1, d.before a0 Z = true) : Jvm.RoadKit.slotOf Z "com/example/phasorwire/phasorwire/RangeDecoder" "position" "I" ≠ Jvm.RoadKit.slotOf Z "com/example/phasorwire/phasorwire/RangeDecoder" "length" "I" := Jvm.RoadKit.slot_ne (Or.inl (hw _ tw_67)) (Or.inr (hw _ tw_61)) (by decide) (t := .int) (t' := .int) (by decide) (by decide)
theorem sn_51 {Z : State} {a0 : Array Value} (hw : ∀ d ∈ tables_1, d.before a0 Z = true) : Jvm.RoadKit.slotOf Z "com/example/phasorwire/phasorwire/RangeDecoder" "data" "[B" ≠ Jvm.RoadKit.slotOf Z "com/example/phasorwire/phasorwire/RangeDecoder" "length" "I" := Jvm.RoadKit.slot_ne (Or.inr (hw _ tw_59)) (Or.inr (hw _ tw_61)) (by decide) (t := (.array .byte)) (t' := .int) (by decide) (by decide)
theorem sn_52 {Z : State} {a0 : Array Value} (hw : ∀ d ∈ tables_1, d.before a0 Z = true) : Jvm.RoadKit.slotOf Z "com/example/phasorwire/phasorwire/RangeDecoder" "range" "J" ≠ Jvm.RoadKit.slotOf Z "com/example/phasorwire/phasorwire/RangeDecoder" "data" "[B" := Jvm.RoadKit.slot_ne (Or.inl (hw _ tw_56)) (Or.inr (hw _ tw_59)) (by decide) (t := .long) (t' := (.array .byte)) (by decide) (by decide)
theorem sn_53 {Z : State} {a0 : Array Value} (hw : ∀ d ∈ tables_1, d.before a0 Z = true) : Jvm.RoadKit.slotOf Z "com/example/phasorwire/phasorwire/RangeDecoder" "range" "J" ≠ Jvm.RoadKit.slotOf Z "com/example/phasorwire/phasorwire/RangeDecoder" "length" "I" := Jvm.RoadKit.slot_ne (Or.inl (hw _ tw_56)) (Or.inr (hw _ tw_61)) (by decide) (t := .long) (t' := .int) (by decide) (by decide)
theorem sn_54 {Z : State} {a0 : Array Value} (hw : ∀ d ∈ tables_1, d.before a0 Z = true) : Jvm.RoadKit.slotOf Z "com/example/phasorwire/phasorwire/RangeDecoder" "code" "J" ≠ Jvm.RoadKit.slotOf Z "com/example/phasorwire/phasorwire/RangeDecoder" "range" "J" := Jvm.RoadKit.slot_ne (Or.inl (hw _ tw_70)) (Or.inl (hw _ tw_56)) (by decide) (t := .long) (t' := .long) (by decide) (by decide)
theorem sn_55 {Z : State} {a0 : Array Value} (hw : ∀ d ∈ tables_1, d.before a0 Z = true) : Jvm.RoadKit.slotOf Z "com/example/phasorwire/phasorwire/RangeDecoder" "code" "J" ≠ Jvm.RoadKit.slotOf Z "com/example/phasorwire/phasorwire/RangeDecoder" "data" "[B" := Jvm.RoadKit.slot_ne (Or.inl (hw _ tw_70)) (Or.inr (hw _ tw_59)) (by decide) (t := .long) (t' := (.array .byte)) (by decide) (by decide)
theorem sn_56 {Z : State} {a0 : Array Value} (hw : ∀ d ∈ tables_1, d.before a0 Z = true) : Jvm.RoadKit.slotOf Z "com/example/phasorwire/phasorwire/RangeDecoder" "code" "J" ≠ Jvm.RoadKit.slotOf Z "com/example/phasorwire/phasorwire/RangeDecoder" "length" "I" := Jvm.RoadKit.slot_ne (Or.inl (hw _ tw_70)) (Or.inr (hw _ tw_61)) (by decide) (t := .long) (t' := .int) (by decide) (by decide)
theorem sn_57 {Z : State} {a0 : Array Value} (hw : ∀ d ∈ tables_1, d.before a0 Z = true) : Jvm.RoadKit.slotOf Z "com/example/phasorwire/phasorwire/RangeDecoder" "window" "J" ≠ Jvm.RoadKit.slotOf Z "com/example/phasorwire/phasorwire/RangeDecoder" "range" "J" := Jvm.RoadKit.slot_ne (Or.inl (hw _ tw_72)) (Or.inl (hw _ tw_56)) (by decide) (t := .long) (t' := .long) (by decide) (by decide)
theorem sn_58 {Z : State} {a0 : Array Value} (hw : ∀ d ∈ tables_1, d.before a0 Z = true) : Jvm.RoadKit.slotOf Z "com/example/phasorwire/phasorwire/RangeDecoder" "window" "J" ≠ Jvm.RoadKit.slotOf Z "com/example/phasorwire/phasorwire/RangeDecoder" "data" "[B" := Jvm.RoadKit.slot_ne (Or.inl (hw _ tw_72)) (Or.inr (hw _ tw_59)) (by decide) (t := .long) (t' := (.array .byte)) (by decide) (by decide)
theorem sn_59 {Z : State} {a0 : Array Value} (hw : ∀ d ∈ tables_1, d.before a0 Z = true) : Jvm.RoadKit.slotOf Z "com/example/phasorwire/phasorwire/RangeDecoder" "window" "J" ≠ Jvm.RoadKit.slotOf Z "com/example/phasorwire/phasorwire/RangeDecoder" "length" "I" := Jvm.RoadKit.slot_ne (Or.inl (hw _ tw_72)) (Or.inr (hw _ tw_61)) (by decide) (t := .long) (t' := .int) (by decide) (by decide)
theorem pd_0 : parseMethodDescriptor "(I)V" = some ⟨[.int], none⟩ := by decide +kernel
theorem pd_1 : parseMethodDescriptor "(II)I" = some ⟨[.int, .int], some .int⟩ := by decide +kernel
theorem pd_2 : parseMethodDescriptor "()V" = some ⟨[], none⟩ := by decide +kernel
theorem pd_3 : parseMethodDescriptor "([BI)[B" = some ⟨[(.array .byte), .int], some (.array .byte)⟩ := by decide +kernel
theorem pd_4 : parseMethodDescriptor "([B[BI)Z" = some ⟨[(.array .byte), (.array .byte), .int], some .boolean⟩ := by decide +kernel
theorem pd_5 : parseMethodDescriptor "()Z" = some ⟨[], some .boolean⟩ := by decide +kernel
theorem pd_6 : parseMethodDescriptor "([B[B)Z" = some ⟨[(.array .byte), (.array .byte)], some .boolean⟩ := by decide +kernel
theorem pd_7 : parseMethodDescriptor "([B)V" = some ⟨[(.array .byte)], none⟩ := by decide +kernel
theorem pd_8 : parseMethodDescriptor "(I)Z" = some ⟨[.int], some .boolean⟩ := by decide +kernel
theorem pd_9 : parseMethodDescriptor "()[B" = some ⟨[], some (.array .byte)⟩ := by decide +kernel
theorem pd_10 : parseMethodDescriptor "(IZ)V" = some ⟨[.int, .boolean], none⟩ := by decide +kernel
theorem d1_0 : decode prog_64_method_1_code 0 = .ok (.aload_n 0, 1) := by decide +kernel
theorem d1_1 : decode prog_64_method_1_code 1 = .ok (.invokespecial 3, 3) := by decide +kernel
theorem d1_4 : decode prog_64_method_1_code 4 = .ok (.aload_n 0, 1) := by decide +kernel
theorem d1_5 : decode prog_64_method_1_code 5 = .ok (.ldc2_w 9, 3) := by decide +kernel
theorem d1_8 : decode prog_64_method_1_code 8 = .ok (.putfield 11, 3) := by decide +kernel
theorem d1_11 : decode prog_64_method_1_code 11 = .ok (.aload_n 0, 1) := by decide +kernel
theorem d1_12 : decode prog_64_method_1_code 12 = .ok (.iconst (-1), 1) := by decide +kernel
theorem d1_13 : decode prog_64_method_1_code 13 = .ok (.putfield 15, 3) := by decide +kernel
theorem d1_16 : decode prog_64_method_1_code 16 = .ok (.aload_n 0, 1) := by decide +kernel
theorem d1_17 : decode prog_64_method_1_code 17 = .ok (.bipush 32, 2) := by decide +kernel
theorem d1_19 : decode prog_64_method_1_code 19 = .ok (.newarray .byte, 2) := by decide +kernel
theorem d1_21 : decode prog_64_method_1_code 21 = .ok (.putfield 19, 3) := by decide +kernel
theorem d1_24 : decode prog_64_method_1_code 24 = .ok (.return_, 1) := by decide +kernel
theorem d3_0 : decode prog_64_method_4_code 0 = .ok (.iconst 4, 1) := by decide +kernel
theorem d3_1 : decode prog_64_method_4_code 1 = .ok (.istore_n 1, 1) := by decide +kernel
theorem d3_2 : decode prog_64_method_4_code 2 = .ok (.iconst 0, 1) := by decide +kernel
theorem d3_3 : decode prog_64_method_4_code 3 = .ok (.istore_n 2, 1) := by decide +kernel
theorem d3_4 : decode prog_64_method_4_code 4 = .ok (.iload_n 2, 1) := by decide +kernel
theorem d3_5 : decode prog_64_method_4_code 5 = .ok (.iconst 4, 1) := by decide +kernel
theorem d3_6 : decode prog_64_method_4_code 6 = .ok (.if_icmp .ge 58, 3) := by decide +kernel
theorem d3_9 : decode prog_64_method_4_code 9 = .ok (.lconst 1, 1) := by decide +kernel
theorem d3_10 : decode prog_64_method_4_code 10 = .ok (.bipush 8, 2) := by decide +kernel
theorem d3_12 : decode prog_64_method_4_code 12 = .ok (.iconst 4, 1) := by decide +kernel
theorem d3_13 : decode prog_64_method_4_code 13 = .ok (.iload_n 2, 1) := by decide +kernel
theorem d3_14 : decode prog_64_method_4_code 14 = .ok (.isub, 1) := by decide +kernel
theorem d3_15 : decode prog_64_method_4_code 15 = .ok (.imul, 1) := by decide +kernel
theorem d3_16 : decode prog_64_method_4_code 16 = .ok (.lshl, 1) := by decide +kernel
theorem d3_17 : decode prog_64_method_4_code 17 = .ok (.lstore_n 3, 1) := by decide +kernel
theorem d3_18 : decode prog_64_method_4_code 18 = .ok (.aload_n 0, 1) := by decide +kernel
theorem d3_19 : decode prog_64_method_4_code 19 = .ok (.getfield 25, 3) := by decide +kernel
theorem d3_22 : decode prog_64_method_4_code 22 = .ok (.lload_n 3, 1) := by decide +kernel
theorem d3_23 : decode prog_64_method_4_code 23 = .ok (.ladd, 1) := by decide +kernel
theorem d3_24 : decode prog_64_method_4_code 24 = .ok (.lconst 1, 1) := by decide +kernel
theorem d3_25 : decode prog_64_method_4_code 25 = .ok (.lsub, 1) := by decide +kernel
theorem d3_26 : decode prog_64_method_4_code 26 = .ok (.lload_n 3, 1) := by decide +kernel
theorem d3_27 : decode prog_64_method_4_code 27 = .ok (.ldiv, 1) := by decide +kernel
theorem d3_28 : decode prog_64_method_4_code 28 = .ok (.lload_n 3, 1) := by decide +kernel
theorem d3_29 : decode prog_64_method_4_code 29 = .ok (.lmul, 1) := by decide +kernel
theorem d3_30 : decode prog_64_method_4_code 30 = .ok (.lstore 5, 2) := by decide +kernel
theorem d3_32 : decode prog_64_method_4_code 32 = .ok (.lload 5, 2) := by decide +kernel
theorem d3_34 : decode prog_64_method_4_code 34 = .ok (.aload_n 0, 1) := by decide +kernel
theorem d3_35 : decode prog_64_method_4_code 35 = .ok (.getfield 25, 3) := by decide +kernel
theorem d3_38 : decode prog_64_method_4_code 38 = .ok (.aload_n 0, 1) := by decide +kernel
theorem d3_39 : decode prog_64_method_4_code 39 = .ok (.getfield 11, 3) := by decide +kernel
theorem d3_42 : decode prog_64_method_4_code 42 = .ok (.ladd, 1) := by decide +kernel
theorem d3_43 : decode prog_64_method_4_code 43 = .ok (.lcmp, 1) := by decide +kernel
theorem d3_44 : decode prog_64_method_4_code 44 = .ok (.ifCond .ge 14, 3) := by decide +kernel
theorem d3_47 : decode prog_64_method_4_code 47 = .ok (.aload_n 0, 1) := by decide +kernel
theorem d3_48 : decode prog_64_method_4_code 48 = .ok (.lload 5, 2) := by decide +kernel
theorem d3_50 : decode prog_64_method_4_code 50 = .ok (.putfield 25, 3) := by decide +kernel
theorem d3_53 : decode prog_64_method_4_code 53 = .ok (.iload_n 2, 1) := by decide +kernel
theorem d3_54 : decode prog_64_method_4_code 54 = .ok (.istore_n 1, 1) := by decide +kernel
theorem d3_55 : decode prog_64_method_4_code 55 = .ok (.goto 9, 3) := by decide +kernel
theorem d3_58 : decode prog_64_method_4_code 58 = .ok (.iinc 2 1, 3) := by decide +kernel
theorem d3_61 : decode prog_64_method_4_code 61 = .ok (.goto (-57), 3) := by decide +kernel
theorem d3_64 : decode prog_64_method_4_code 64 = .ok (.iconst 0, 1) := by decide +kernel
theorem d3_65 : decode prog_64_method_4_code 65 = .ok (.istore_n 2, 1) := by decide +kernel
theorem d3_66 : decode prog_64_method_4_code 66 = .ok (.iload_n 2, 1) := by decide +kernel
theorem d3_67 : decode prog_64_method_4_code 67 = .ok (.iload_n 1, 1) := by decide +kernel
theorem d3_68 : decode prog_64_method_4_code 68 = .ok (.if_icmp .gt 13, 3) := by decide +kernel
theorem d3_71 : decode prog_64_method_4_code 71 = .ok (.aload_n 0, 1) := by decide +kernel
theorem d3_72 : decode prog_64_method_4_code 72 = .ok (.invokevirtual 32, 3) := by decide +kernel
theorem d3_75 : decode prog_64_method_4_code 75 = .ok (.iinc 2 1, 3) := by decide +kernel
theorem d3_78 : decode prog_64_method_4_code 78 = .ok (.goto (-12), 3) := by decide +kernel
theorem d3_81 : decode prog_64_method_4_code 81 = .ok (.aload_n 0, 1) := by decide +kernel
theorem d3_82 : decode prog_64_method_4_code 82 = .ok (.getfield 35, 3) := by decide +kernel
theorem d3_85 : decode prog_64_method_4_code 85 = .ok (.istore_n 2, 1) := by decide +kernel
theorem d3_86 : decode prog_64_method_4_code 86 = .ok (.iload_n 2, 1) := by decide +kernel
theorem d3_87 : decode prog_64_method_4_code 87 = .ok (.ifCond .le 20, 3) := by decide +kernel
theorem d3_90 : decode prog_64_method_4_code 90 = .ok (.aload_n 0, 1) := by decide +kernel
theorem d3_91 : decode prog_64_method_4_code 91 = .ok (.getfield 19, 3) := by decide +kernel
theorem d3_94 : decode prog_64_method_4_code 94 = .ok (.iload_n 2, 1) := by decide +kernel
theorem d3_95 : decode prog_64_method_4_code 95 = .ok (.iconst 1, 1) := by decide +kernel
theorem d3_96 : decode prog_64_method_4_code 96 = .ok (.isub, 1) := by decide +kernel
theorem d3_97 : decode prog_64_method_4_code 97 = .ok (.baload, 1) := by decide +kernel
theorem d3_98 : decode prog_64_method_4_code 98 = .ok (.ifCond .ne 9, 3) := by decide +kernel
theorem d3_101 : decode prog_64_method_4_code 101 = .ok (.iinc 2 (-1), 3) := by decide +kernel
theorem d3_104 : decode prog_64_method_4_code 104 = .ok (.goto (-18), 3) := by decide +kernel
theorem d3_107 : decode prog_64_method_4_code 107 = .ok (.aload_n 0, 1) := by decide +kernel
theorem d3_108 : decode prog_64_method_4_code 108 = .ok (.getfield 19, 3) := by decide +kernel
theorem d3_111 : decode prog_64_method_4_code 111 = .ok (.iload_n 2, 1) := by decide +kernel
theorem d3_112 : decode prog_64_method_4_code 112 = .ok (.invokestatic 43, 3) := by decide +kernel
theorem d3_115 : decode prog_64_method_4_code 115 = .ok (.areturn, 1) := by decide +kernel
theorem d4_0 : decode prog_64_method_5_code 0 = .ok (.aload_n 0, 1) := by decide +kernel
theorem d4_1 : decode prog_64_method_5_code 1 = .ok (.getfield 25, 3) := by decide +kernel
theorem d4_4 : decode prog_64_method_5_code 4 = .ok (.ldc2_w 49, 3) := by decide +kernel
theorem d4_7 : decode prog_64_method_5_code 7 = .ok (.lcmp, 1) := by decide +kernel
theorem d4_8 : decode prog_64_method_5_code 8 = .ok (.ifCond .lt 14, 3) := by decide +kernel
theorem d4_11 : decode prog_64_method_5_code 11 = .ok (.aload_n 0, 1) := by decide +kernel
theorem d4_12 : decode prog_64_method_5_code 12 = .ok (.getfield 25, 3) := by decide +kernel
theorem d4_15 : decode prog_64_method_5_code 15 = .ok (.ldc2_w 51, 3) := by decide +kernel
theorem d4_18 : decode prog_64_method_5_code 18 = .ok (.lcmp, 1) := by decide +kernel
theorem d4_19 : decode prog_64_method_5_code 19 = .ok (.ifCond .lt 79, 3) := by decide +kernel
theorem d4_22 : decode prog_64_method_5_code 22 = .ok (.aload_n 0, 1) := by decide +kernel
theorem d4_23 : decode prog_64_method_5_code 23 = .ok (.getfield 25, 3) := by decide +kernel
theorem d4_26 : decode prog_64_method_5_code 26 = .ok (.bipush 32, 2) := by decide +kernel
theorem d4_28 : decode prog_64_method_5_code 28 = .ok (.lushr, 1) := by decide +kernel
theorem d4_29 : decode prog_64_method_5_code 29 = .ok (.l2i, 1) := by decide +kernel
theorem d4_30 : decode prog_64_method_5_code 30 = .ok (.istore_n 1, 1) := by decide +kernel
theorem d4_31 : decode prog_64_method_5_code 31 = .ok (.aload_n 0, 1) := by decide +kernel
theorem d4_32 : decode prog_64_method_5_code 32 = .ok (.getfield 15, 3) := by decide +kernel
theorem d4_35 : decode prog_64_method_5_code 35 = .ok (.ifCond .lt 13, 3) := by decide +kernel
theorem d4_38 : decode prog_64_method_5_code 38 = .ok (.aload_n 0, 1) := by decide +kernel
theorem d4_39 : decode prog_64_method_5_code 39 = .ok (.aload_n 0, 1) := by decide +kernel
theorem d4_40 : decode prog_64_method_5_code 40 = .ok (.getfield 15, 3) := by decide +kernel
theorem d4_43 : decode prog_64_method_5_code 43 = .ok (.iload_n 1, 1) := by decide +kernel
theorem d4_44 : decode prog_64_method_5_code 44 = .ok (.iadd, 1) := by decide +kernel
theorem d4_45 : decode prog_64_method_5_code 45 = .ok (.invokevirtual 53, 3) := by decide +kernel
theorem d4_48 : decode prog_64_method_5_code 48 = .ok (.aload_n 0, 1) := by decide +kernel
theorem d4_49 : decode prog_64_method_5_code 49 = .ok (.getfield 38, 3) := by decide +kernel
theorem d4_52 : decode prog_64_method_5_code 52 = .ok (.lconst 0, 1) := by decide +kernel
theorem d4_53 : decode prog_64_method_5_code 53 = .ok (.lcmp, 1) := by decide +kernel
theorem d4_54 : decode prog_64_method_5_code 54 = .ok (.ifCond .le 25, 3) := by decide +kernel
theorem d4_57 : decode prog_64_method_5_code 57 = .ok (.aload_n 0, 1) := by decide +kernel
theorem d4_58 : decode prog_64_method_5_code 58 = .ok (.sipush 255, 3) := by decide +kernel
theorem d4_61 : decode prog_64_method_5_code 61 = .ok (.iload_n 1, 1) := by decide +kernel
theorem d4_62 : decode prog_64_method_5_code 62 = .ok (.iadd, 1) := by decide +kernel
theorem d4_63 : decode prog_64_method_5_code 63 = .ok (.invokevirtual 53, 3) := by decide +kernel
theorem d4_66 : decode prog_64_method_5_code 66 = .ok (.aload_n 0, 1) := by decide +kernel
theorem d4_67 : decode prog_64_method_5_code 67 = .ok (.dup, 1) := by decide +kernel
theorem d4_68 : decode prog_64_method_5_code 68 = .ok (.getfield 38, 3) := by decide +kernel
theorem d4_71 : decode prog_64_method_5_code 71 = .ok (.lconst 1, 1) := by decide +kernel
theorem d4_72 : decode prog_64_method_5_code 72 = .ok (.lsub, 1) := by decide +kernel
theorem d4_73 : decode prog_64_method_5_code 73 = .ok (.putfield 38, 3) := by decide +kernel
theorem d4_76 : decode prog_64_method_5_code 76 = .ok (.goto (-28), 3) := by decide +kernel
theorem d4_79 : decode prog_64_method_5_code 79 = .ok (.aload_n 0, 1) := by decide +kernel
theorem d4_80 : decode prog_64_method_5_code 80 = .ok (.aload_n 0, 1) := by decide +kernel
theorem d4_81 : decode prog_64_method_5_code 81 = .ok (.getfield 25, 3) := by decide +kernel
theorem d4_84 : decode prog_64_method_5_code 84 = .ok (.bipush 24, 2) := by decide +kernel
theorem d4_86 : decode prog_64_method_5_code 86 = .ok (.lushr, 1) := by decide +kernel
theorem d4_87 : decode prog_64_method_5_code 87 = .ok (.l2i, 1) := by decide +kernel
theorem d4_88 : decode prog_64_method_5_code 88 = .ok (.sipush 255, 3) := by decide +kernel
theorem d4_91 : decode prog_64_method_5_code 91 = .ok (.iand, 1) := by decide +kernel
theorem d4_92 : decode prog_64_method_5_code 92 = .ok (.putfield 15, 3) := by decide +kernel
theorem d4_95 : decode prog_64_method_5_code 95 = .ok (.goto 13, 3) := by decide +kernel
theorem d4_98 : decode prog_64_method_5_code 98 = .ok (.aload_n 0, 1) := by decide +kernel
theorem d4_99 : decode prog_64_method_5_code 99 = .ok (.dup, 1) := by decide +kernel
theorem d4_100 : decode prog_64_method_5_code 100 = .ok (.getfield 38, 3) := by decide +kernel
theorem d4_103 : decode prog_64_method_5_code 103 = .ok (.lconst 1, 1) := by decide +kernel
theorem d4_104 : decode prog_64_method_5_code 104 = .ok (.ladd, 1) := by decide +kernel
theorem d4_105 : decode prog_64_method_5_code 105 = .ok (.putfield 38, 3) := by decide +kernel
theorem d4_108 : decode prog_64_method_5_code 108 = .ok (.aload_n 0, 1) := by decide +kernel
theorem d4_109 : decode prog_64_method_5_code 109 = .ok (.aload_n 0, 1) := by decide +kernel
theorem d4_110 : decode prog_64_method_5_code 110 = .ok (.getfield 25, 3) := by decide +kernel
theorem d4_113 : decode prog_64_method_5_code 113 = .ok (.ldc2_w 57, 3) := by decide +kernel
theorem d4_116 : decode prog_64_method_5_code 116 = .ok (.land, 1) := by decide +kernel
theorem d4_117 : decode prog_64_method_5_code 117 = .ok (.bipush 8, 2) := by decide +kernel
theorem d4_119 : decode prog_64_method_5_code 119 = .ok (.lshl, 1) := by decide +kernel
theorem d4_120 : decode prog_64_method_5_code 120 = .ok (.putfield 25, 3) := by decide +kernel
theorem d4_123 : decode prog_64_method_5_code 123 = .ok (.return_, 1) := by decide +kernel
theorem d5_0 : decode jdk_65_method_121_code 0 = .ok (.iload_n 1, 1) := by decide +kernel
theorem d5_1 : decode jdk_65_method_121_code 1 = .ok (.aload_n 0, 1) := by decide +kernel
theorem d5_2 : decode jdk_65_method_121_code 2 = .ok (.arraylength, 1) := by decide +kernel
theorem d5_3 : decode jdk_65_method_121_code 3 = .ok (.if_icmp .ne 11, 3) := by decide +kernel
theorem d5_14 : decode jdk_65_method_121_code 14 = .ok (.iload_n 1, 1) := by decide +kernel
theorem d5_15 : decode jdk_65_method_121_code 15 = .ok (.newarray .byte, 2) := by decide +kernel
theorem d5_17 : decode jdk_65_method_121_code 17 = .ok (.astore_n 2, 1) := by decide +kernel
theorem d5_18 : decode jdk_65_method_121_code 18 = .ok (.aload_n 0, 1) := by decide +kernel
theorem d5_19 : decode jdk_65_method_121_code 19 = .ok (.iconst 0, 1) := by decide +kernel
theorem d5_20 : decode jdk_65_method_121_code 20 = .ok (.aload_n 2, 1) := by decide +kernel
theorem d5_21 : decode jdk_65_method_121_code 21 = .ok (.iconst 0, 1) := by decide +kernel
theorem d5_22 : decode jdk_65_method_121_code 22 = .ok (.aload_n 0, 1) := by decide +kernel
theorem d5_23 : decode jdk_65_method_121_code 23 = .ok (.arraylength, 1) := by decide +kernel
theorem d5_24 : decode jdk_65_method_121_code 24 = .ok (.iload_n 1, 1) := by decide +kernel
theorem d5_25 : decode jdk_65_method_121_code 25 = .ok (.invokestatic 304, 3) := by decide +kernel
theorem d5_28 : decode jdk_65_method_121_code 28 = .ok (.invokestatic 150, 3) := by decide +kernel
theorem d5_31 : decode jdk_65_method_121_code 31 = .ok (.aload_n 2, 1) := by decide +kernel
theorem d5_32 : decode jdk_65_method_121_code 32 = .ok (.areturn, 1) := by decide +kernel
theorem d6_0 : decode jdk_29_method_69_code 0 = .ok (.iload_n 0, 1) := by decide +kernel
theorem d6_1 : decode jdk_29_method_69_code 1 = .ok (.iload_n 1, 1) := by decide +kernel
theorem d6_2 : decode jdk_29_method_69_code 2 = .ok (.if_icmp .gt 7, 3) := by decide +kernel
theorem d6_5 : decode jdk_29_method_69_code 5 = .ok (.iload_n 0, 1) := by decide +kernel
theorem d6_6 : decode jdk_29_method_69_code 6 = .ok (.goto 4, 3) := by decide +kernel
theorem d6_9 : decode jdk_29_method_69_code 9 = .ok (.iload_n 1, 1) := by decide +kernel
theorem d6_10 : decode jdk_29_method_69_code 10 = .ok (.ireturn, 1) := by decide +kernel
theorem d7_0 : decode prog_62_method_1_code 0 = .ok (.aload_n 0, 1) := by decide +kernel
theorem d7_1 : decode prog_62_method_1_code 1 = .ok (.invokespecial 1, 3) := by decide +kernel
theorem d7_4 : decode prog_62_method_1_code 4 = .ok (.aload_n 0, 1) := by decide +kernel
theorem d7_5 : decode prog_62_method_1_code 5 = .ok (.ldc2_w 9, 3) := by decide +kernel
theorem d7_8 : decode prog_62_method_1_code 8 = .ok (.putfield 11, 3) := by decide +kernel
theorem d7_11 : decode prog_62_method_1_code 11 = .ok (.aload_n 0, 1) := by decide +kernel
theorem d7_12 : decode prog_62_method_1_code 12 = .ok (.aload_n 1, 1) := by decide +kernel
theorem d7_13 : decode prog_62_method_1_code 13 = .ok (.aload_n 1, 1) := by decide +kernel
theorem d7_14 : decode prog_62_method_1_code 14 = .ok (.arraylength, 1) := by decide +kernel
theorem d7_15 : decode prog_62_method_1_code 15 = .ok (.iconst 1, 1) := by decide +kernel
theorem d7_16 : decode prog_62_method_1_code 16 = .ok (.iadd, 1) := by decide +kernel
theorem d7_17 : decode prog_62_method_1_code 17 = .ok (.invokestatic 17, 3) := by decide +kernel
theorem d7_20 : decode prog_62_method_1_code 20 = .ok (.putfield 23, 3) := by decide +kernel
theorem d7_23 : decode prog_62_method_1_code 23 = .ok (.aload_n 0, 1) := by decide +kernel
theorem d7_24 : decode prog_62_method_1_code 24 = .ok (.aload_n 1, 1) := by decide +kernel
theorem d7_25 : decode prog_62_method_1_code 25 = .ok (.arraylength, 1) := by decide +kernel
theorem d7_26 : decode prog_62_method_1_code 26 = .ok (.putfield 27, 3) := by decide +kernel
theorem d7_29 : decode prog_62_method_1_code 29 = .ok (.iconst 0, 1) := by decide +kernel
theorem d7_30 : decode prog_62_method_1_code 30 = .ok (.istore_n 2, 1) := by decide +kernel
theorem d7_31 : decode prog_62_method_1_code 31 = .ok (.iload_n 2, 1) := by decide +kernel
theorem d7_32 : decode prog_62_method_1_code 32 = .ok (.iconst 4, 1) := by decide +kernel
theorem d7_33 : decode prog_62_method_1_code 33 = .ok (.if_icmp .ge 13, 3) := by decide +kernel
theorem d7_36 : decode prog_62_method_1_code 36 = .ok (.aload_n 0, 1) := by decide +kernel
theorem d7_37 : decode prog_62_method_1_code 37 = .ok (.invokevirtual 31, 3) := by decide +kernel
theorem d7_40 : decode prog_62_method_1_code 40 = .ok (.iinc 2 1, 3) := by decide +kernel
theorem d7_43 : decode prog_62_method_1_code 43 = .ok (.goto (-12), 3) := by decide +kernel
theorem d7_46 : decode prog_62_method_1_code 46 = .ok (.return_, 1) := by decide +kernel
theorem d8_0 : decode prog_62_method_4_code 0 = .ok (.aload_n 0, 1) := by decide +kernel
theorem d8_1 : decode prog_62_method_4_code 1 = .ok (.getfield 23, 3) := by decide +kernel
theorem d8_4 : decode prog_62_method_4_code 4 = .ok (.aload_n 0, 1) := by decide +kernel
theorem d8_5 : decode prog_62_method_4_code 5 = .ok (.getfield 46, 3) := by decide +kernel
theorem d8_8 : decode prog_62_method_4_code 8 = .ok (.baload, 1) := by decide +kernel
theorem d8_9 : decode prog_62_method_4_code 9 = .ok (.sipush 255, 3) := by decide +kernel
theorem d8_12 : decode prog_62_method_4_code 12 = .ok (.iand, 1) := by decide +kernel
theorem d8_13 : decode prog_62_method_4_code 13 = .ok (.istore_n 1, 1) := by decide +kernel
theorem d8_14 : decode prog_62_method_4_code 14 = .ok (.aload_n 0, 1) := by decide +kernel
theorem d8_15 : decode prog_62_method_4_code 15 = .ok (.aload_n 0, 1) := by decide +kernel
theorem d8_16 : decode prog_62_method_4_code 16 = .ok (.getfield 46, 3) := by decide +kernel
theorem d8_19 : decode prog_62_method_4_code 19 = .ok (.iconst 1, 1) := by decide +kernel
theorem d8_20 : decode prog_62_method_4_code 20 = .ok (.iadd, 1) := by decide +kernel
theorem d8_21 : decode prog_62_method_4_code 21 = .ok (.aload_n 0, 1) := by decide +kernel
theorem d8_22 : decode prog_62_method_4_code 22 = .ok (.getfield 27, 3) := by decide +kernel
theorem d8_25 : decode prog_62_method_4_code 25 = .ok (.invokestatic 49, 3) := by decide +kernel
theorem d8_28 : decode prog_62_method_4_code 28 = .ok (.putfield 46, 3) := by decide +kernel
theorem d8_31 : decode prog_62_method_4_code 31 = .ok (.aload_n 0, 1) := by decide +kernel
theorem d8_32 : decode prog_62_method_4_code 32 = .ok (.aload_n 0, 1) := by decide +kernel
theorem d8_33 : decode prog_62_method_4_code 33 = .ok (.getfield 34, 3) := by decide +kernel
theorem d8_36 : decode prog_62_method_4_code 36 = .ok (.bipush 8, 2) := by decide +kernel
theorem d8_38 : decode prog_62_method_4_code 38 = .ok (.lshl, 1) := by decide +kernel
theorem d8_39 : decode prog_62_method_4_code 39 = .ok (.iload_n 1, 1) := by decide +kernel
theorem d8_40 : decode prog_62_method_4_code 40 = .ok (.i2l, 1) := by decide +kernel
theorem d8_41 : decode prog_62_method_4_code 41 = .ok (.lor, 1) := by decide +kernel
theorem d8_42 : decode prog_62_method_4_code 42 = .ok (.ldc2_w 9, 3) := by decide +kernel
theorem d8_45 : decode prog_62_method_4_code 45 = .ok (.land, 1) := by decide +kernel
theorem d8_46 : decode prog_62_method_4_code 46 = .ok (.putfield 34, 3) := by decide +kernel
theorem d8_49 : decode prog_62_method_4_code 49 = .ok (.aload_n 0, 1) := by decide +kernel
theorem d8_50 : decode prog_62_method_4_code 50 = .ok (.aload_n 0, 1) := by decide +kernel
theorem d8_51 : decode prog_62_method_4_code 51 = .ok (.getfield 43, 3) := by decide +kernel
theorem d8_54 : decode prog_62_method_4_code 54 = .ok (.bipush 8, 2) := by decide +kernel
theorem d8_56 : decode prog_62_method_4_code 56 = .ok (.lshl, 1) := by decide +kernel
theorem d8_57 : decode prog_62_method_4_code 57 = .ok (.iload_n 1, 1) := by decide +kernel
theorem d8_58 : decode prog_62_method_4_code 58 = .ok (.i2l, 1) := by decide +kernel
theorem d8_59 : decode prog_62_method_4_code 59 = .ok (.lor, 1) := by decide +kernel
theorem d8_60 : decode prog_62_method_4_code 60 = .ok (.ldc2_w 9, 3) := by decide +kernel
theorem d8_63 : decode prog_62_method_4_code 63 = .ok (.land, 1) := by decide +kernel
theorem d8_64 : decode prog_62_method_4_code 64 = .ok (.putfield 43, 3) := by decide +kernel
theorem d8_67 : decode prog_62_method_4_code 67 = .ok (.return_, 1) := by decide +kernel
theorem d9_0 : decode prog_62_method_3_code 0 = .ok (.aload_n 0, 1) := by decide +kernel
theorem d9_1 : decode prog_62_method_3_code 1 = .ok (.getfield 43, 3) := by decide +kernel
theorem d9_4 : decode prog_62_method_3_code 4 = .ok (.aload_n 0, 1) := by decide +kernel
theorem d9_5 : decode prog_62_method_3_code 5 = .ok (.getfield 34, 3) := by decide +kernel
theorem d9_8 : decode prog_62_method_3_code 8 = .ok (.lsub, 1) := by decide +kernel
theorem d9_9 : decode prog_62_method_3_code 9 = .ok (.ldc2_w 9, 3) := by decide +kernel
theorem d9_12 : decode prog_62_method_3_code 12 = .ok (.land, 1) := by decide +kernel
theorem d9_13 : decode prog_62_method_3_code 13 = .ok (.lstore_n 1, 1) := by decide +kernel
theorem d9_14 : decode prog_62_method_3_code 14 = .ok (.lconst 0, 1) := by decide +kernel
theorem d9_15 : decode prog_62_method_3_code 15 = .ok (.lstore_n 3, 1) := by decide +kernel
theorem d9_16 : decode prog_62_method_3_code 16 = .ok (.iconst 0, 1) := by decide +kernel
theorem d9_17 : decode prog_62_method_3_code 17 = .ok (.istore 5, 2) := by decide +kernel
theorem d9_19 : decode prog_62_method_3_code 19 = .ok (.iload 5, 2) := by decide +kernel
theorem d9_21 : decode prog_62_method_3_code 21 = .ok (.iconst 4, 1) := by decide +kernel
theorem d9_22 : decode prog_62_method_3_code 22 = .ok (.if_icmp .ge 45, 3) := by decide +kernel
theorem d9_25 : decode prog_62_method_3_code 25 = .ok (.lconst 1, 1) := by decide +kernel
theorem d9_26 : decode prog_62_method_3_code 26 = .ok (.bipush 8, 2) := by decide +kernel
theorem d9_28 : decode prog_62_method_3_code 28 = .ok (.iconst 4, 1) := by decide +kernel
theorem d9_29 : decode prog_62_method_3_code 29 = .ok (.iload 5, 2) := by decide +kernel
theorem d9_31 : decode prog_62_method_3_code 31 = .ok (.isub, 1) := by decide +kernel
theorem d9_32 : decode prog_62_method_3_code 32 = .ok (.imul, 1) := by decide +kernel
theorem d9_33 : decode prog_62_method_3_code 33 = .ok (.lshl, 1) := by decide +kernel
theorem d9_34 : decode prog_62_method_3_code 34 = .ok (.lstore 6, 2) := by decide +kernel
theorem d9_36 : decode prog_62_method_3_code 36 = .ok (.lload_n 1, 1) := by decide +kernel
theorem d9_37 : decode prog_62_method_3_code 37 = .ok (.lneg, 1) := by decide +kernel
theorem d9_38 : decode prog_62_method_3_code 38 = .ok (.lload 6, 2) := by decide +kernel
theorem d9_40 : decode prog_62_method_3_code 40 = .ok (.lconst 1, 1) := by decide +kernel
theorem d9_41 : decode prog_62_method_3_code 41 = .ok (.lsub, 1) := by decide +kernel
theorem d9_42 : decode prog_62_method_3_code 42 = .ok (.land, 1) := by decide +kernel
theorem d9_43 : decode prog_62_method_3_code 43 = .ok (.lstore 8, 2) := by decide +kernel
theorem d9_45 : decode prog_62_method_3_code 45 = .ok (.lload 8, 2) := by decide +kernel
theorem d9_47 : decode prog_62_method_3_code 47 = .ok (.aload_n 0, 1) := by decide +kernel
theorem d9_48 : decode prog_62_method_3_code 48 = .ok (.getfield 11, 3) := by decide +kernel
theorem d9_51 : decode prog_62_method_3_code 51 = .ok (.lcmp, 1) := by decide +kernel
theorem d9_52 : decode prog_62_method_3_code 52 = .ok (.ifCond .ge 9, 3) := by decide +kernel
theorem d9_55 : decode prog_62_method_3_code 55 = .ok (.lload 8, 2) := by decide +kernel
theorem d9_57 : decode prog_62_method_3_code 57 = .ok (.lstore_n 3, 1) := by decide +kernel
theorem d9_58 : decode prog_62_method_3_code 58 = .ok (.goto 9, 3) := by decide +kernel
theorem d9_61 : decode prog_62_method_3_code 61 = .ok (.iinc 5 1, 3) := by decide +kernel
theorem d9_64 : decode prog_62_method_3_code 64 = .ok (.goto (-45), 3) := by decide +kernel
theorem d9_67 : decode prog_62_method_3_code 67 = .ok (.aload_n 0, 1) := by decide +kernel
theorem d9_68 : decode prog_62_method_3_code 68 = .ok (.getfield 27, 3) := by decide +kernel
theorem d9_71 : decode prog_62_method_3_code 71 = .ok (.ifCond .le 21, 3) := by decide +kernel
theorem d9_74 : decode prog_62_method_3_code 74 = .ok (.aload_n 0, 1) := by decide +kernel
theorem d9_75 : decode prog_62_method_3_code 75 = .ok (.getfield 23, 3) := by decide +kernel
theorem d9_78 : decode prog_62_method_3_code 78 = .ok (.aload_n 0, 1) := by decide +kernel
theorem d9_79 : decode prog_62_method_3_code 79 = .ok (.getfield 27, 3) := by decide +kernel
theorem d9_82 : decode prog_62_method_3_code 82 = .ok (.iconst 1, 1) := by decide +kernel
theorem d9_83 : decode prog_62_method_3_code 83 = .ok (.isub, 1) := by decide +kernel
theorem d9_84 : decode prog_62_method_3_code 84 = .ok (.baload, 1) := by decide +kernel
theorem d9_85 : decode prog_62_method_3_code 85 = .ok (.ifCond .ne 7, 3) := by decide +kernel
theorem d9_88 : decode prog_62_method_3_code 88 = .ok (.iconst 1, 1) := by decide +kernel
theorem d9_89 : decode prog_62_method_3_code 89 = .ok (.goto 4, 3) := by decide +kernel
theorem d9_92 : decode prog_62_method_3_code 92 = .ok (.iconst 0, 1) := by decide +kernel
theorem d9_93 : decode prog_62_method_3_code 93 = .ok (.istore 5, 2) := by decide +kernel
theorem d9_95 : decode prog_62_method_3_code 95 = .ok (.aload_n 0, 1) := by decide +kernel
theorem d9_96 : decode prog_62_method_3_code 96 = .ok (.getfield 34, 3) := by decide +kernel
theorem d9_99 : decode prog_62_method_3_code 99 = .ok (.lload_n 3, 1) := by decide +kernel
theorem d9_100 : decode prog_62_method_3_code 100 = .ok (.lcmp, 1) := by decide +kernel
theorem d9_101 : decode prog_62_method_3_code 101 = .ok (.ifCond .ne 23, 3) := by decide +kernel
theorem d9_104 : decode prog_62_method_3_code 104 = .ok (.aload_n 0, 1) := by decide +kernel
theorem d9_105 : decode prog_62_method_3_code 105 = .ok (.getfield 46, 3) := by decide +kernel
theorem d9_108 : decode prog_62_method_3_code 108 = .ok (.aload_n 0, 1) := by decide +kernel
theorem d9_109 : decode prog_62_method_3_code 109 = .ok (.getfield 27, 3) := by decide +kernel
theorem d9_112 : decode prog_62_method_3_code 112 = .ok (.if_icmp .ne 12, 3) := by decide +kernel
theorem d9_115 : decode prog_62_method_3_code 115 = .ok (.iload 5, 2) := by decide +kernel
theorem d9_117 : decode prog_62_method_3_code 117 = .ok (.ifCond .ne 7, 3) := by decide +kernel
theorem d9_120 : decode prog_62_method_3_code 120 = .ok (.iconst 1, 1) := by decide +kernel
theorem d9_121 : decode prog_62_method_3_code 121 = .ok (.goto 4, 3) := by decide +kernel
theorem d9_124 : decode prog_62_method_3_code 124 = .ok (.iconst 0, 1) := by decide +kernel
theorem d9_125 : decode prog_62_method_3_code 125 = .ok (.ireturn, 1) := by decide +kernel
theorem d10_0 : decode method_3_code 0 = .ok (.aload_n 0, 1) := by decide +kernel
theorem d10_1 : decode method_3_code 1 = .ok (.arraylength, 1) := by decide +kernel
theorem d10_2 : decode method_3_code 2 = .ok (.aload_n 1, 1) := by decide +kernel
theorem d10_3 : decode method_3_code 3 = .ok (.arraylength, 1) := by decide +kernel
theorem d10_4 : decode method_3_code 4 = .ok (.if_icmp .eq 5, 3) := by decide +kernel
theorem d10_7 : decode method_3_code 7 = .ok (.iconst 0, 1) := by decide +kernel
theorem d10_8 : decode method_3_code 8 = .ok (.ireturn, 1) := by decide +kernel
theorem d10_9 : decode method_3_code 9 = .ok (.aload_n 0, 1) := by decide +kernel
theorem d10_10 : decode method_3_code 10 = .ok (.aload_n 1, 1) := by decide +kernel
theorem d10_11 : decode method_3_code 11 = .ok (.iconst 0, 1) := by decide +kernel
theorem d10_12 : decode method_3_code 12 = .ok (.invokestatic 38, 3) := by decide +kernel
theorem d10_15 : decode method_3_code 15 = .ok (.ifCond .eq 72, 3) := by decide +kernel
theorem d10_18 : decode method_3_code 18 = .ok (.aload_n 0, 1) := by decide +kernel
theorem d10_19 : decode method_3_code 19 = .ok (.aload_n 1, 1) := by decide +kernel
theorem d10_20 : decode method_3_code 20 = .ok (.iconst 1, 1) := by decide +kernel
theorem d10_21 : decode method_3_code 21 = .ok (.invokestatic 38, 3) := by decide +kernel
theorem d10_24 : decode method_3_code 24 = .ok (.ifCond .eq 63, 3) := by decide +kernel
theorem d10_27 : decode method_3_code 27 = .ok (.aload_n 0, 1) := by decide +kernel
theorem d10_28 : decode method_3_code 28 = .ok (.aload_n 1, 1) := by decide +kernel
theorem d10_29 : decode method_3_code 29 = .ok (.iconst 2, 1) := by decide +kernel
theorem d10_30 : decode method_3_code 30 = .ok (.invokestatic 38, 3) := by decide +kernel
theorem d10_33 : decode method_3_code 33 = .ok (.ifCond .eq 54, 3) := by decide +kernel
theorem d10_36 : decode method_3_code 36 = .ok (.aload_n 0, 1) := by decide +kernel
theorem d10_37 : decode method_3_code 37 = .ok (.aload_n 1, 1) := by decide +kernel
theorem d10_38 : decode method_3_code 38 = .ok (.iconst 3, 1) := by decide +kernel
theorem d10_39 : decode method_3_code 39 = .ok (.invokestatic 38, 3) := by decide +kernel
theorem d10_42 : decode method_3_code 42 = .ok (.ifCond .eq 45, 3) := by decide +kernel
theorem d10_45 : decode method_3_code 45 = .ok (.aload_n 0, 1) := by decide +kernel
theorem d10_46 : decode method_3_code 46 = .ok (.aload_n 1, 1) := by decide +kernel
theorem d10_47 : decode method_3_code 47 = .ok (.iconst 4, 1) := by decide +kernel
theorem d10_48 : decode method_3_code 48 = .ok (.invokestatic 38, 3) := by decide +kernel
theorem d10_51 : decode method_3_code 51 = .ok (.ifCond .eq 36, 3) := by decide +kernel
theorem d10_54 : decode method_3_code 54 = .ok (.aload_n 0, 1) := by decide +kernel
theorem d10_55 : decode method_3_code 55 = .ok (.aload_n 1, 1) := by decide +kernel
theorem d10_56 : decode method_3_code 56 = .ok (.iconst 5, 1) := by decide +kernel
theorem d10_57 : decode method_3_code 57 = .ok (.invokestatic 38, 3) := by decide +kernel
theorem d10_60 : decode method_3_code 60 = .ok (.ifCond .eq 27, 3) := by decide +kernel
theorem d10_63 : decode method_3_code 63 = .ok (.aload_n 0, 1) := by decide +kernel
theorem d10_64 : decode method_3_code 64 = .ok (.aload_n 1, 1) := by decide +kernel
theorem d10_65 : decode method_3_code 65 = .ok (.bipush 6, 2) := by decide +kernel
theorem d10_67 : decode method_3_code 67 = .ok (.invokestatic 38, 3) := by decide +kernel
theorem d10_70 : decode method_3_code 70 = .ok (.ifCond .eq 17, 3) := by decide +kernel
theorem d10_73 : decode method_3_code 73 = .ok (.aload_n 0, 1) := by decide +kernel
theorem d10_74 : decode method_3_code 74 = .ok (.aload_n 1, 1) := by decide +kernel
theorem d10_75 : decode method_3_code 75 = .ok (.bipush 7, 2) := by decide +kernel
theorem d10_77 : decode method_3_code 77 = .ok (.invokestatic 38, 3) := by decide +kernel
theorem d10_80 : decode method_3_code 80 = .ok (.ifCond .eq 7, 3) := by decide +kernel
theorem d10_83 : decode method_3_code 83 = .ok (.iconst 1, 1) := by decide +kernel
theorem d10_84 : decode method_3_code 84 = .ok (.goto 4, 3) := by decide +kernel
theorem d10_87 : decode method_3_code 87 = .ok (.iconst 0, 1) := by decide +kernel
theorem d10_88 : decode method_3_code 88 = .ok (.ireturn, 1) := by decide +kernel
theorem d11_0 : decode method_4_code 0 = .ok (.iload_n 2, 1) := by decide +kernel
theorem d11_1 : decode method_4_code 1 = .ok (.aload_n 0, 1) := by decide +kernel
theorem d11_2 : decode method_4_code 2 = .ok (.arraylength, 1) := by decide +kernel
theorem d11_3 : decode method_4_code 3 = .ok (.if_icmp .ge 12, 3) := by decide +kernel
theorem d11_6 : decode method_4_code 6 = .ok (.aload_n 0, 1) := by decide +kernel
theorem d11_7 : decode method_4_code 7 = .ok (.iload_n 2, 1) := by decide +kernel
theorem d11_8 : decode method_4_code 8 = .ok (.baload, 1) := by decide +kernel
theorem d11_9 : decode method_4_code 9 = .ok (.aload_n 1, 1) := by decide +kernel
theorem d11_10 : decode method_4_code 10 = .ok (.iload_n 2, 1) := by decide +kernel
theorem d11_11 : decode method_4_code 11 = .ok (.baload, 1) := by decide +kernel
theorem d11_12 : decode method_4_code 12 = .ok (.if_icmp .ne 7, 3) := by decide +kernel
theorem d11_15 : decode method_4_code 15 = .ok (.iconst 1, 1) := by decide +kernel
theorem d11_16 : decode method_4_code 16 = .ok (.goto 4, 3) := by decide +kernel
theorem d11_19 : decode method_4_code 19 = .ok (.iconst 0, 1) := by decide +kernel
theorem d11_20 : decode method_4_code 20 = .ok (.ireturn, 1) := by decide +kernel
theorem d12_0 : decode prog_64_method_2_code 0 = .ok (.aload_n 0, 1) := by decide +kernel
theorem d12_1 : decode prog_64_method_2_code 1 = .ok (.getfield 11, 3) := by decide +kernel
theorem d12_4 : decode prog_64_method_2_code 4 = .ok (.bipush 12, 2) := by decide +kernel
theorem d12_6 : decode prog_64_method_2_code 6 = .ok (.lushr, 1) := by decide +kernel
theorem d12_7 : decode prog_64_method_2_code 7 = .ok (.iload_n 1, 1) := by decide +kernel
theorem d12_8 : decode prog_64_method_2_code 8 = .ok (.i2l, 1) := by decide +kernel
theorem d12_9 : decode prog_64_method_2_code 9 = .ok (.lmul, 1) := by decide +kernel
theorem d12_10 : decode prog_64_method_2_code 10 = .ok (.lstore_n 3, 1) := by decide +kernel
theorem d12_11 : decode prog_64_method_2_code 11 = .ok (.iload_n 2, 1) := by decide +kernel
theorem d12_12 : decode prog_64_method_2_code 12 = .ok (.ifCond .eq 9, 3) := by decide +kernel
theorem d12_15 : decode prog_64_method_2_code 15 = .ok (.ldc2_w 23, 3) := by decide +kernel
theorem d12_18 : decode prog_64_method_2_code 18 = .ok (.goto 4, 3) := by decide +kernel
theorem d12_21 : decode prog_64_method_2_code 21 = .ok (.lconst 0, 1) := by decide +kernel
theorem d12_22 : decode prog_64_method_2_code 22 = .ok (.lstore 5, 2) := by decide +kernel
theorem d12_24 : decode prog_64_method_2_code 24 = .ok (.aload_n 0, 1) := by decide +kernel
theorem d12_25 : decode prog_64_method_2_code 25 = .ok (.dup, 1) := by decide +kernel
theorem d12_26 : decode prog_64_method_2_code 26 = .ok (.getfield 25, 3) := by decide +kernel
theorem d12_29 : decode prog_64_method_2_code 29 = .ok (.lload_n 3, 1) := by decide +kernel
theorem d12_30 : decode prog_64_method_2_code 30 = .ok (.lload 5, 2) := by decide +kernel
theorem d12_32 : decode prog_64_method_2_code 32 = .ok (.land, 1) := by decide +kernel
theorem d12_33 : decode prog_64_method_2_code 33 = .ok (.ladd, 1) := by decide +kernel
theorem d12_34 : decode prog_64_method_2_code 34 = .ok (.putfield 25, 3) := by decide +kernel
theorem d12_37 : decode prog_64_method_2_code 37 = .ok (.aload_n 0, 1) := by decide +kernel
theorem d12_38 : decode prog_64_method_2_code 38 = .ok (.lload_n 3, 1) := by decide +kernel
theorem d12_39 : decode prog_64_method_2_code 39 = .ok (.aload_n 0, 1) := by decide +kernel
theorem d12_40 : decode prog_64_method_2_code 40 = .ok (.getfield 11, 3) := by decide +kernel
theorem d12_43 : decode prog_64_method_2_code 43 = .ok (.ldc2_w 28, 3) := by decide +kernel
theorem d12_46 : decode prog_64_method_2_code 46 = .ok (.lload_n 3, 1) := by decide +kernel
theorem d12_47 : decode prog_64_method_2_code 47 = .ok (.lmul, 1) := by decide +kernel
theorem d12_48 : decode prog_64_method_2_code 48 = .ok (.lsub, 1) := by decide +kernel
theorem d12_49 : decode prog_64_method_2_code 49 = .ok (.lload 5, 2) := by decide +kernel
theorem d12_51 : decode prog_64_method_2_code 51 = .ok (.land, 1) := by decide +kernel
theorem d12_52 : decode prog_64_method_2_code 52 = .ok (.ladd, 1) := by decide +kernel
theorem d12_53 : decode prog_64_method_2_code 53 = .ok (.putfield 11, 3) := by decide +kernel
theorem d12_56 : decode prog_64_method_2_code 56 = .ok (.aload_n 0, 1) := by decide +kernel
theorem d12_57 : decode prog_64_method_2_code 57 = .ok (.getfield 11, 3) := by decide +kernel
theorem d12_60 : decode prog_64_method_2_code 60 = .ok (.ldc2_w 30, 3) := by decide +kernel
theorem d12_63 : decode prog_64_method_2_code 63 = .ok (.lcmp, 1) := by decide +kernel
theorem d12_64 : decode prog_64_method_2_code 64 = .ok (.ifCond .ge 21, 3) := by decide +kernel
theorem d12_67 : decode prog_64_method_2_code 67 = .ok (.aload_n 0, 1) := by decide +kernel
theorem d12_68 : decode prog_64_method_2_code 68 = .ok (.dup, 1) := by decide +kernel
theorem d12_69 : decode prog_64_method_2_code 69 = .ok (.getfield 11, 3) := by decide +kernel
theorem d12_72 : decode prog_64_method_2_code 72 = .ok (.bipush 8, 2) := by decide +kernel
theorem d12_74 : decode prog_64_method_2_code 74 = .ok (.lshl, 1) := by decide +kernel
theorem d12_75 : decode prog_64_method_2_code 75 = .ok (.putfield 11, 3) := by decide +kernel
theorem d12_78 : decode prog_64_method_2_code 78 = .ok (.aload_n 0, 1) := by decide +kernel
theorem d12_79 : decode prog_64_method_2_code 79 = .ok (.invokevirtual 32, 3) := by decide +kernel
theorem d12_82 : decode prog_64_method_2_code 82 = .ok (.goto (-26), 3) := by decide +kernel
theorem d12_85 : decode prog_64_method_2_code 85 = .ok (.return_, 1) := by decide +kernel
theorem d13_0 : decode prog_64_method_6_code 0 = .ok (.aload_n 0, 1) := by decide +kernel
theorem d13_1 : decode prog_64_method_6_code 1 = .ok (.getfield 35, 3) := by decide +kernel
theorem d13_4 : decode prog_64_method_6_code 4 = .ok (.aload_n 0, 1) := by decide +kernel
theorem d13_5 : decode prog_64_method_6_code 5 = .ok (.getfield 19, 3) := by decide +kernel
theorem d13_8 : decode prog_64_method_6_code 8 = .ok (.arraylength, 1) := by decide +kernel
theorem d13_9 : decode prog_64_method_6_code 9 = .ok (.if_icmp .ne 20, 3) := by decide +kernel
theorem d13_29 : decode prog_64_method_6_code 29 = .ok (.aload_n 0, 1) := by decide +kernel
theorem d13_30 : decode prog_64_method_6_code 30 = .ok (.getfield 19, 3) := by decide +kernel
theorem d13_33 : decode prog_64_method_6_code 33 = .ok (.aload_n 0, 1) := by decide +kernel
theorem d13_34 : decode prog_64_method_6_code 34 = .ok (.dup, 1) := by decide +kernel
theorem d13_35 : decode prog_64_method_6_code 35 = .ok (.getfield 35, 3) := by decide +kernel
theorem d13_38 : decode prog_64_method_6_code 38 = .ok (.dup_x1, 1) := by decide +kernel
theorem d13_39 : decode prog_64_method_6_code 39 = .ok (.iconst 1, 1) := by decide +kernel
theorem d13_40 : decode prog_64_method_6_code 40 = .ok (.iadd, 1) := by decide +kernel
theorem d13_41 : decode prog_64_method_6_code 41 = .ok (.putfield 35, 3) := by decide +kernel
theorem d13_44 : decode prog_64_method_6_code 44 = .ok (.iload_n 1, 1) := by decide +kernel
theorem d13_45 : decode prog_64_method_6_code 45 = .ok (.i2b, 1) := by decide +kernel
theorem d13_46 : decode prog_64_method_6_code 46 = .ok (.bastore, 1) := by decide +kernel
theorem d13_47 : decode prog_64_method_6_code 47 = .ok (.return_, 1) := by decide +kernel
theorem d14_0 : decode prog_62_method_2_code 0 = .ok (.aload_n 0, 1) := by decide +kernel
theorem d14_1 : decode prog_62_method_2_code 1 = .ok (.getfield 11, 3) := by decide +kernel
theorem d14_4 : decode prog_62_method_2_code 4 = .ok (.bipush 12, 2) := by decide +kernel
theorem d14_6 : decode prog_62_method_2_code 6 = .ok (.lushr, 1) := by decide +kernel
theorem d14_7 : decode prog_62_method_2_code 7 = .ok (.iload_n 1, 1) := by decide +kernel
theorem d14_8 : decode prog_62_method_2_code 8 = .ok (.i2l, 1) := by decide +kernel
theorem d14_9 : decode prog_62_method_2_code 9 = .ok (.lmul, 1) := by decide +kernel
theorem d14_10 : decode prog_62_method_2_code 10 = .ok (.lstore_n 2, 1) := by decide +kernel
theorem d14_11 : decode prog_62_method_2_code 11 = .ok (.aload_n 0, 1) := by decide +kernel
theorem d14_12 : decode prog_62_method_2_code 12 = .ok (.getfield 34, 3) := by decide +kernel
theorem d14_15 : decode prog_62_method_2_code 15 = .ok (.lload_n 2, 1) := by decide +kernel
theorem d14_16 : decode prog_62_method_2_code 16 = .ok (.lsub, 1) := by decide +kernel
theorem d14_17 : decode prog_62_method_2_code 17 = .ok (.bipush 63, 2) := by decide +kernel
theorem d14_19 : decode prog_62_method_2_code 19 = .ok (.lshr, 1) := by decide +kernel
theorem d14_20 : decode prog_62_method_2_code 20 = .ok (.ldc2_w 37, 3) := by decide +kernel
theorem d14_23 : decode prog_62_method_2_code 23 = .ok (.lxor, 1) := by decide +kernel
theorem d14_24 : decode prog_62_method_2_code 24 = .ok (.lstore 4, 2) := by decide +kernel
theorem d14_26 : decode prog_62_method_2_code 26 = .ok (.aload_n 0, 1) := by decide +kernel
theorem d14_27 : decode prog_62_method_2_code 27 = .ok (.dup, 1) := by decide +kernel
theorem d14_28 : decode prog_62_method_2_code 28 = .ok (.getfield 34, 3) := by decide +kernel
theorem d14_31 : decode prog_62_method_2_code 31 = .ok (.lload_n 2, 1) := by decide +kernel
theorem d14_32 : decode prog_62_method_2_code 32 = .ok (.lload 4, 2) := by decide +kernel
theorem d14_34 : decode prog_62_method_2_code 34 = .ok (.land, 1) := by decide +kernel
theorem d14_35 : decode prog_62_method_2_code 35 = .ok (.lsub, 1) := by decide +kernel
theorem d14_36 : decode prog_62_method_2_code 36 = .ok (.putfield 34, 3) := by decide +kernel
theorem d14_39 : decode prog_62_method_2_code 39 = .ok (.aload_n 0, 1) := by decide +kernel
theorem d14_40 : decode prog_62_method_2_code 40 = .ok (.lload_n 2, 1) := by decide +kernel
theorem d14_41 : decode prog_62_method_2_code 41 = .ok (.aload_n 0, 1) := by decide +kernel
theorem d14_42 : decode prog_62_method_2_code 42 = .ok (.getfield 11, 3) := by decide +kernel
theorem d14_45 : decode prog_62_method_2_code 45 = .ok (.ldc2_w 39, 3) := by decide +kernel
theorem d14_48 : decode prog_62_method_2_code 48 = .ok (.lload_n 2, 1) := by decide +kernel
theorem d14_49 : decode prog_62_method_2_code 49 = .ok (.lmul, 1) := by decide +kernel
theorem d14_50 : decode prog_62_method_2_code 50 = .ok (.lsub, 1) := by decide +kernel
theorem d14_51 : decode prog_62_method_2_code 51 = .ok (.lload 4, 2) := by decide +kernel
theorem d14_53 : decode prog_62_method_2_code 53 = .ok (.land, 1) := by decide +kernel
theorem d14_54 : decode prog_62_method_2_code 54 = .ok (.ladd, 1) := by decide +kernel
theorem d14_55 : decode prog_62_method_2_code 55 = .ok (.putfield 11, 3) := by decide +kernel
theorem d14_58 : decode prog_62_method_2_code 58 = .ok (.aload_n 0, 1) := by decide +kernel
theorem d14_59 : decode prog_62_method_2_code 59 = .ok (.getfield 11, 3) := by decide +kernel
theorem d14_62 : decode prog_62_method_2_code 62 = .ok (.ldc2_w 41, 3) := by decide +kernel
theorem d14_65 : decode prog_62_method_2_code 65 = .ok (.lcmp, 1) := by decide +kernel
theorem d14_66 : decode prog_62_method_2_code 66 = .ok (.ifCond .ge 21, 3) := by decide +kernel
theorem d14_69 : decode prog_62_method_2_code 69 = .ok (.aload_n 0, 1) := by decide +kernel
theorem d14_70 : decode prog_62_method_2_code 70 = .ok (.dup, 1) := by decide +kernel
theorem d14_71 : decode prog_62_method_2_code 71 = .ok (.getfield 11, 3) := by decide +kernel
theorem d14_74 : decode prog_62_method_2_code 74 = .ok (.bipush 8, 2) := by decide +kernel
theorem d14_76 : decode prog_62_method_2_code 76 = .ok (.lshl, 1) := by decide +kernel
theorem d14_77 : decode prog_62_method_2_code 77 = .ok (.putfield 11, 3) := by decide +kernel
theorem d14_80 : decode prog_62_method_2_code 80 = .ok (.aload_n 0, 1) := by decide +kernel
theorem d14_81 : decode prog_62_method_2_code 81 = .ok (.invokevirtual 31, 3) := by decide +kernel
theorem d14_84 : decode prog_62_method_2_code 84 = .ok (.goto (-26), 3) := by decide +kernel
theorem d14_87 : decode prog_62_method_2_code 87 = .ok (.lload 4, 2) := by decide +kernel
theorem d14_89 : decode prog_62_method_2_code 89 = .ok (.lconst 0, 1) := by decide +kernel
theorem d14_90 : decode prog_62_method_2_code 90 = .ok (.lcmp, 1) := by decide +kernel
theorem d14_91 : decode prog_62_method_2_code 91 = .ok (.ifCond .eq 7, 3) := by decide +kernel
theorem d14_94 : decode prog_62_method_2_code 94 = .ok (.iconst 1, 1) := by decide +kernel
theorem d14_95 : decode prog_62_method_2_code 95 = .ok (.goto 4, 3) := by decide +kernel
theorem d14_98 : decode prog_62_method_2_code 98 = .ok (.iconst 0, 1) := by decide +kernel
theorem d14_99 : decode prog_62_method_2_code 99 = .ok (.ireturn, 1) := by decide +kernel
theorem pn_0 : plainFor x = true := plainFor_of_name (by first | (simp [plainName, overriddenIn]; done) | decide +kernel)
theorem pn_1 : plainFor (⟨"com/example/phasorwire/phasorwire/RangeEncoder", "<init>", "()V"⟩ : MethodName) = true := plainFor_of_name (by first | (simp [plainName, overriddenIn]; done) | decide +kernel)
theorem pn_3 : plainFor (⟨"com/example/phasorwire/phasorwire/RangeEncoder", "finish", "()[B"⟩ : MethodName) = true := plainFor_of_name (by first | (simp [plainName, overriddenIn]; done) | decide +kernel)
theorem pn_4 : plainFor (⟨"com/example/phasorwire/phasorwire/RangeEncoder", "shift", "()V"⟩ : MethodName) = true := plainFor_of_name (by first | (simp [plainName, overriddenIn]; done) | decide +kernel)
theorem pn_5 : plainFor (⟨"java/util/Arrays", "copyOf", "([BI)[B"⟩ : MethodName) = true := plainFor_of_name (by first | (simp [plainName, overriddenIn]; done) | decide +kernel)
theorem pn_6 : plainFor (⟨"java/lang/Math", "min", "(II)I"⟩ : MethodName) = true := Jvm.Free.JP.mathPlain rfl (by decide +kernel)
theorem pn_7 : plainFor (⟨"com/example/phasorwire/phasorwire/RangeDecoder", "<init>", "([B)V"⟩ : MethodName) = true := plainFor_of_name (by first | (simp [plainName, overriddenIn]; done) | decide +kernel)
theorem pn_8 : plainFor (⟨"com/example/phasorwire/phasorwire/RangeDecoder", "shiftIn", "()V"⟩ : MethodName) = true := plainFor_of_name (by first | (simp [plainName, overriddenIn]; done) | decide +kernel)
theorem pn_9 : plainFor (⟨"com/example/phasorwire/phasorwire/RangeDecoder", "isCanonical", "()Z"⟩ : MethodName) = true := plainFor_of_name (by first | (simp [plainName, overriddenIn]; done) | decide +kernel)
theorem pn_10 : plainFor (⟨"com/example/phasorwire/phasorwire/RangeDecoderIsCanonicalPinLaw", "equal", "([B[B)Z"⟩ : MethodName) = true := plainFor_of_name (by first | (simp [plainName, overriddenIn]; done) | decide +kernel)
theorem pn_11 : plainFor (⟨"com/example/phasorwire/phasorwire/RangeDecoderIsCanonicalPinLaw", "at", "([B[BI)Z"⟩ : MethodName) = true := plainFor_of_name (by first | (simp [plainName, overriddenIn]; done) | decide +kernel)
theorem pn_12 : plainFor (⟨"com/example/phasorwire/phasorwire/RangeEncoder", "encode", "(IZ)V"⟩ : MethodName) = true := plainFor_of_name (by first | (simp [plainName, overriddenIn]; done) | decide +kernel)
theorem pn_13 : plainFor (⟨"com/example/phasorwire/phasorwire/RangeEncoder", "write", "(I)V"⟩ : MethodName) = true := plainFor_of_name (by first | (simp [plainName, overriddenIn]; done) | decide +kernel)
theorem pn_14 : plainFor (⟨"com/example/phasorwire/phasorwire/RangeDecoder", "decode", "(I)Z"⟩ : MethodName) = true := plainFor_of_name (by first | (simp [plainName, overriddenIn]; done) | decide +kernel)
theorem own_lt32 {a b : Int32} (h : a.toInt < b.toInt) : a < b := Int32.lt_iff_toInt_lt.mpr h
theorem own_nlt32 {a b : Int32} (h : ¬ a.toInt < b.toInt) : ¬ a < b := fun z => h (Int32.lt_iff_toInt_lt.mp z)
theorem own_eq32 {a b : Int32} (h : a.toInt = b.toInt) : a = b := Int32.toInt_inj.mp h
theorem own_ne32 {a b : Int32} (h : ¬ a.toInt = b.toInt) : ¬ a = b := fun z => h (congrArg Int32.toInt z)
theorem own_lt32' {a b : Int32} (h : a < b) : a.toInt < b.toInt := Int32.lt_iff_toInt_lt.mp h
theorem own_nlt32' {a b : Int32} (h : ¬ a < b) : ¬ a.toInt < b.toInt := fun z => h (Int32.lt_iff_toInt_lt.mpr z)
theorem own_eq32' {a b : Int32} (h : a = b) : a.toInt = b.toInt := congrArg Int32.toInt h
theorem own_ne32' {a b : Int32} (h : ¬ a = b) : ¬ a.toInt = b.toInt := fun z => h (Int32.toInt_inj.mp z)
theorem own_lt64 {a b : Int64} (h : a.toInt < b.toInt) : a < b := Int64.lt_iff_toInt_lt.mpr h
theorem own_nlt64 {a b : Int64} (h : ¬ a.toInt < b.toInt) : ¬ a < b := fun z => h (Int64.lt_iff_toInt_lt.mp z)
theorem own_eq64 {a b : Int64} (h : a.toInt = b.toInt) : a = b := Int64.toInt_inj.mp h
theorem own_ne64 {a b : Int64} (h : ¬ a.toInt = b.toInt) : ¬ a = b := fun z => h (congrArg Int64.toInt z)
theorem own_lt64' {a b : Int64} (h : a < b) : a.toInt < b.toInt := Int64.lt_iff_toInt_lt.mp h
theorem own_nlt64' {a b : Int64} (h : ¬ a < b) : ¬ a.toInt < b.toInt := fun z => h (Int64.lt_iff_toInt_lt.mpr z)
theorem own_eq64' {a b : Int64} (h : a = b) : a.toInt = b.toInt := congrArg Int64.toInt h
theorem own_ne64' {a b : Int64} (h : ¬ a = b) : ¬ a.toInt = b.toInt := fun z => h (Int64.toInt_inj.mp z)
def rmz : Room := { frames := 0, cells := 0, slots := 0, locals := 0 }
def rmi : Room := { frames := 1, cells := 1, slots := 32, locals := 12 }
def rmh : Room := { frames := 1, cells := 0, slots := 0, locals := 16 }
def rme : Room := { frames := 2, cells := 0, slots := 0, locals := 32 }
def rmc : Room := { frames := 1, cells := 1, slots := 32, locals := 40 }
def rmf : Room := { frames := 2, cells := 1, slots := 32, locals := 64 }
def own_min (a b : Int32) : Int32 := if b < a then b else a
def Enc (Z : State) (h : Heap) (a b : Addr) (kk : ClassId) (lo ra : Int64) (he : Int32) (on : Int64) (bs : List Int32) : Prop := Exa Z h a "com/example/phasorwire/phasorwire/RangeEncoder" ∧ Fld Z h a "com/example/phasorwire/phasorwire/RangeEncoder" "low" "J" (.long lo) ∧ Fld Z h a "com/example/phasorwire/phasorwire/RangeEncoder" "range" "J" (.long ra) ∧ Fld Z h a "com/example/phasorwire/phasorwire/RangeEncoder" "held" "I" (.int he) ∧ Fld Z h a "com/example/phasorwire/phasorwire/RangeEncoder" "heldOnes" "J" (.long on) ∧ Fld Z h a "com/example/phasorwire/phasorwire/RangeEncoder" "bytes" "[B" (.ref b) ∧ Fld Z h a "com/example/phasorwire/phasorwire/RangeEncoder" "length" "I" (.int (Int32.ofNat bs.length)) ∧ Arv Z h b kk .byte (32 : Int32) (bs.map Value.int) (.int (0 : Int32)) ∧ a ≠ b
def QI (x : Int32) (h0 : Heap) (v : Option Value) (h : Heap) : Prop := v = some (.int x) ∧ h = h0
def QJ (x : Int64) (h0 : Heap) (v : Option Value) (h : Heap) : Prop := v = some (.long x) ∧ h = h0
def QE (Z : State) (a b : Addr) (kk : ClassId) (lo ra : Int64) (he : Int32) (on : Int64) (bs : List Int32) (v : Option Value) (h : Heap) : Prop := v = none ∧ Enc Z h a b kk lo ra he on bs
def QN (Z : State) (h0 : Heap) (a : Addr) (v : Option Value) (h : Heap) : Prop := v = none ∧ ∃ b kk, Enc Z h a b kk 0 4294967295 (-1) 0 [] ∧ h0.size ≤ b
def QY (Z : State) (h0 : Heap) (n : Int32) (vs : List Value) (v : Option Value) (h : Heap) : Prop := ∃ (r : Addr) (k : ClassId), v = some (.ref r) ∧ h0.size ≤ r ∧ Arv Z h r k .byte n vs (.int (0 : Int32))
def Q0 (v : Option Value) (h : Heap) : Prop := v = some (.int 1)
theorem own_ofn (n : Nat) (h : n < 2147483648) : (Int32.ofNat n).toInt = n := Int32.toInt_ofNat_of_lt h
theorem own_lt32c (n : Nat) (h : n < 32) : ¬ (Int32.ofNat n = 32) := fun q => by
  have e := congrArg Int32.toInt q
  rw [own_ofn n (by omega)] at e
  have k : (32 : Int32).toInt = 32 := rfl
  omega
theorem own_inb (n : Nat) (h : n < 32) : ¬ (Int32.ofNat n < 0) ∧ Int32.ofNat n < 32 := by
  have e := own_ofn n (by omega)
  refine ⟨own_nlt32 (by rw [e]; show ¬ ((n : Int) < 0); omega), own_lt32 (by rw [e]; show (n : Int) < 32; omega)⟩
theorem own_tn (i : Int32) : i.toNatClampNeg = i.toInt.toNat := rfl
theorem own_cl (n : Nat) (h : n < 2147483648) : (Int32.ofNat n).toNatClampNeg = n := by rw [own_tn, own_ofn n h]; omega
theorem own_add1 (n : Nat) (h : n < 2147483647) : Int32.ofNat n + 1 = Int32.ofNat (n + 1) := by
  apply Int32.toInt_inj.mp
  have e1 := own_ofn n (by omega)
  have e2 := own_ofn (n + 1) (by omega)
  have e3 := c_iadd (Int32.ofNat n) 1
  have k : (1 : Int32).toInt = 1 := rfl
  have r := rng32 (Int32.ofNat n + 1)
  omega
theorem own_set (bs : List Int32) (x : Int32) : (bs.map Value.int ++ List.replicate 1 (Value.int (0 : Int32))).set bs.length (.int x) = (bs ++ [x]).map Value.int := by
  rw [List.map_append, List.set_append_right _ _ (by simp)]; simp
theorem own_len (bs : List Int32) : bs.length < (bs.map Value.int ++ List.replicate 1 (Value.int (0 : Int32))).length := by simp
def own_by (x : Int32) : Int32 := x.toInt8.toInt32
theorem own_byby (x : Int32) : x.toInt8.toInt32.toInt8.toInt32 = own_by x := by unfold own_by; simp
def sh_fl (lo : Int64) : Prop := lo < 4278190080 ∨ ¬ (lo < 4294967296)
def sh_ca (lo : Int64) : Int32 := (own_ushrL lo 32).toInt32
def sh_he (lo : Int64) : Int32 := (own_ushrL lo 24).toInt32 &&& 255
def sh_lo (lo : Int64) : Int64 := (lo &&& 16777215) <<< ((8 : Int32) &&& 63).toInt64
def sh_b1 (lo : Int64) (he : Int32) (bs : List Int32) : List Int32 := if he < 0 then bs else bs ++ [own_by (he + sh_ca lo)]
def sh_bs (lo : Int64) (he : Int32) (on : Int64) (bs : List Int32) : List Int32 := sh_b1 lo he bs ++ List.replicate on.toInt.toNat (own_by (255 + sh_ca lo))
def QS (Z : State) (a b : Addr) (kk : ClassId) (lo ra : Int64) (he : Int32) (on : Int64) (bs : List Int32) (v : Option Value) (h : Heap) : Prop := v = none ∧ ((sh_fl lo ∧ Enc Z h a b kk (sh_lo lo) ra (sh_he lo) 0 (sh_bs lo he on bs)) ∨ (¬ sh_fl lo ∧ Enc Z h a b kk (sh_lo lo) ra he (on + 1) bs))
theorem own_z64 (x : Int64) (h : x.toInt = 0) : x = 0 := Int64.toInt_inj.mp h
theorem own_dec (x : Int64) (t : Nat) (h : x.toInt = (t + 1 : Nat)) : (x - 1).toInt = t := by
  have e := c_lsub x 1
  have k : (1 : Int64).toInt = 1 := rfl
  have r := rng64 (x - 1)
  have r2 := rng64 x
  omega
theorem own_rep (bs : List Int32) (x : Int32) (t : Nat) : (bs ++ [x]) ++ List.replicate t x = bs ++ List.replicate (t + 1) x := by
  rw [List.append_assoc]; rfl
def own_bd (ra : Int64) (p : Int32) : Int64 := own_ushrL ra 12 * p.toInt64
def own_r0 (ra : Int64) (p : Int32) : Int64 := own_bd ra p
def own_r1 (ra : Int64) (p : Int32) : Int64 := ra - own_bd ra p
theorem own_a1 (x : Int64) : x &&& (-1) = x := by
  apply Int64.toBitVec_inj.mp
  show x.toBitVec &&& BitVec.allOnes 64 = x.toBitVec
  exact BitVec.and_allOnes
theorem own_a0 (x : Int64) : x &&& 0 = 0 := by
  apply Int64.toBitVec_inj.mp
  show x.toBitVec &&& 0#64 = 0#64
  simp
theorem own_e0 (ra : Int64) (p : Int32) : own_bd ra p + ((ra - 2 * own_bd ra p) &&& 0) = own_r0 ra p := by
  rw [own_a0]; unfold own_r0
  have e := c_ladd (own_bd ra p) 0
  have k : (0 : Int64).toInt = 0 := rfl
  have r := rng64 (own_bd ra p + 0)
  have r2 := rng64 (own_bd ra p)
  apply Int64.toInt_inj.mp; omega
theorem own_e1 (ra : Int64) (p : Int32) : own_bd ra p + ((ra - 2 * own_bd ra p) &&& (-1)) = own_r1 ra p := by
  rw [own_a1]; unfold own_r1
  have e1 := c_lmul 2 (own_bd ra p)
  have k : (2 : Int64).toInt = 2 := rfl
  rw [k] at e1
  have e2 := c_lsub ra (2 * own_bd ra p)
  have e3 := c_ladd (own_bd ra p) (ra - 2 * own_bd ra p)
  have e4 := c_lsub ra (own_bd ra p)
  have r1 := rng64 (own_bd ra p + (ra - 2 * own_bd ra p))
  have r2 := rng64 (ra - own_bd ra p)
  apply Int64.toInt_inj.mp; omega
def Rok (ra : Int64) : Prop := 16777216 ≤ ra.toInt ∧ ra.toInt < 4294967296
def Pok (p : Int32) : Prop := 1 ≤ p.toInt ∧ p.toInt ≤ 4095
theorem own_p12 : ((2 ^ 12 : Nat) : Int) = 4096 := rfl
theorem own_us (ra : Int64) (h : Rok ra) : (own_ushrL ra 12).toInt = ra.toInt / 4096 := by
  unfold Rok at h
  have e : (own_ushrL ra 12).toInt = (ra.toInt % 18446744073709551616) / ((2 ^ 12 : Nat) : Int) := c_lushr ra 12 12 rfl (by decide)
  rw [own_p12] at e
  omega
theorem own_bdv (ra : Int64) (p : Int32) (h : Rok ra) (g : Pok p) : (own_bd ra p).toInt = (ra.toInt / 4096) * p.toInt ∧ ra.toInt / 4096 ≤ (own_bd ra p).toInt ∧ (own_bd ra p).toInt ≤ ra.toInt - ra.toInt / 4096 := by
  have e1 := own_us ra h
  have e2 := c_i2l p
  have e3 := c_lmul (own_ushrL ra 12) p.toInt64
  have r := rng64 (own_ushrL ra 12 * p.toInt64)
  unfold Rok at h
  unfold Pok at g
  rw [e1, e2] at e3
  have m1 : (ra.toInt / 4096) * 1 ≤ (ra.toInt / 4096) * p.toInt := Int.mul_le_mul_of_nonneg_left g.1 (by omega)
  have m2 : (ra.toInt / 4096) * p.toInt ≤ (ra.toInt / 4096) * 4095 := Int.mul_le_mul_of_nonneg_left g.2 (by omega)
  unfold own_bd
  generalize (ra.toInt / 4096) * p.toInt = X at *
  omega
theorem own_rb0 (ra : Int64) (p : Int32) (h : Rok ra) (g : Pok p) : 4096 ≤ (own_r0 ra p).toInt ∧ (own_r0 ra p).toInt < 4294967296 := by
  have e := own_bdv ra p h g
  unfold Rok at h; unfold own_r0; omega
theorem own_rb1 (ra : Int64) (p : Int32) (h : Rok ra) (g : Pok p) : 4096 ≤ (own_r1 ra p).toInt ∧ (own_r1 ra p).toInt < 4294967296 := by
  have e := own_bdv ra p h g
  have e4 := c_lsub ra (own_bd ra p)
  have r2 := rng64 (ra - own_bd ra p)
  unfold Rok at h; unfold own_r1; omega
theorem own_p8 : ((2 ^ 8 : Nat) : Int) = 256 := rfl
theorem own_sl8 (r : Int64) (h : 0 ≤ r.toInt ∧ r.toInt < 16777216) : (r <<< ((8 : Int32) &&& 63).toInt64).toInt = 256 * r.toInt := by
  have e : ((r <<< ((8 : Int32) &&& 63).toInt64).toInt - r.toInt * ((2 ^ 8 : Nat) : Int)) % 18446744073709551616 = 0 := c_lshl r 8 8 rfl
  rw [own_p8] at e
  have q := rng64 (r <<< ((8 : Int32) &&& 63).toInt64)
  omega
theorem own_pr (x : Int32) : Pok (1 + (x &&& 2147483647) % 4095) := by
  have e1 := c_and x 2147483647 (by decide)
  have e2 := (c_irem (x &&& 2147483647) 4095 4095 rfl).1 e1.1
  have e3 := c_iadd 1 ((x &&& 2147483647) % 4095)
  have k : (1 : Int32).toInt = 1 := rfl
  have r := rng32 (1 + (x &&& 2147483647) % 4095)
  unfold Pok; omega
theorem own_gd (bs : List Int32) (i : Nat) : (bs.map Value.int).getD i (.int (0 : Int32)) = .int (bs.getD i 0) := by
  simp only [List.getD_eq_getElem?_getD, List.getElem?_map]
  cases bs[i]? <;> rfl
theorem own_sub1 (n : Nat) (h0 : 0 < n) (h : n < 100) : (Int32.ofNat n - 1).toInt = (n : Int) - 1 := by
  have e0 := own_ofn n (by omega)
  have e1 := c_isub (Int32.ofNat n) 1
  have k : (1 : Int32).toInt = 1 := rfl
  have r := rng32 (Int32.ofNat n - 1)
  omega
theorem own_subn (n : Nat) (h : n + 1 < 100) : Int32.ofNat (n + 1) + (-1) = Int32.ofNat n := by
  apply Int32.toInt_inj.mp
  have e0 := own_ofn (n + 1) (by omega)
  have e2 := own_ofn n (by omega)
  have e1 := c_iadd (Int32.ofNat (n + 1)) (-1)
  have k : (-1 : Int32).toInt = -1 := rfl
  have r := rng32 (Int32.ofNat (n + 1) + (-1))
  omega
theorem own_mn (k : Nat) (h : k < 32) : own_min 32 (Int32.ofNat k) = Int32.ofNat k := by
  unfold own_min; rw [if_pos (own_inb k h).2]def own_num (xs : List Int32) : Int := xs.foldl (fun a x => a * 256 + x.toInt % 256) 0
theorem own_num_snoc (xs : List Int32) (x : Int32) : own_num (xs ++ [x]) = own_num xs * 256 + x.toInt % 256 := by
  unfold own_num; rw [List.foldl_append]; rfl
theorem own_num_255 (xs : List Int32) (x : Int32) (hx : x.toInt % 256 = 255) (t : Nat) : own_num (xs ++ List.replicate t x) = (own_num xs + 1) * 256 ^ t - 1 := by
  induction t with
  | zero => simp
  | succ t ih =>
    rw [List.replicate_succ', ← List.append_assoc, own_num_snoc, ih, hx, Int.pow_succ, ← Int.mul_assoc]
    omega
theorem own_num_0 (xs : List Int32) (x : Int32) (hx : x.toInt % 256 = 0) (t : Nat) : own_num (xs ++ List.replicate t x) = own_num xs * 256 ^ t := by
  induction t with
  | zero => simp
  | succ t ih =>
    rw [List.replicate_succ', ← List.append_assoc, own_num_snoc, ih, hx, Int.pow_succ, ← Int.mul_assoc]
    omega
def own_D (xs : List Int32) : Nat → Int
  | 0 => 0
  | M + 1 => own_D xs M * 256 + (xs.getD M 0).toInt % 256
theorem own_D_take (xs : List Int32) (M : Nat) (h : M ≤ xs.length) : own_D xs M = own_num (xs.take M) := by
  induction M with
  | zero => rfl
  | succ M ih =>
    have e : xs.take (M + 1) = xs.take M ++ [xs.getD M 0] := by
      rw [List.take_succ, List.getD_eq_getElem?_getD, List.getElem?_eq_getElem (by omega)]; rfl
    rw [e, own_num_snoc, ← ih (by omega)]; rfl
theorem own_D_len (xs : List Int32) : own_D xs xs.length = own_num xs := by
  rw [own_D_take xs _ (Nat.le_refl _), List.take_length]
theorem own_getD_ge (xs : List Int32) (i : Nat) (h : xs.length ≤ i) : xs.getD i 0 = 0 := by
  rw [List.getD_eq_getElem?_getD, List.getElem?_eq_none h]; rfl
theorem own_D_pad (xs : List Int32) (M j : Nat) (h : ∀ i, M ≤ i → xs.getD i 0 = 0) : own_D xs (M + j) = own_D xs M * 256 ^ j := by
  induction j with
  | zero => simp
  | succ j ih =>
    show own_D xs (M + j) * 256 + (xs.getD (M + j) 0).toInt % 256 = _
    rw [ih, h _ (by omega), Int.pow_succ, ← Int.mul_assoc]
    have k : (0 : Int32).toInt = 0 := rfl
    rw [k]; omega
theorem own_D_congr (xs ys : List Int32) (M : Nat) (h : ∀ i, i < M → xs.getD i 0 = ys.getD i 0) : own_D xs M = own_D ys M := by
  induction M with
  | zero => rfl
  | succ M ih =>
    show own_D xs M * 256 + (xs.getD M 0).toInt % 256 = own_D ys M * 256 + (ys.getD M 0).toInt % 256
    rw [ih (fun i hi => h i (by omega)), h M (by omega)]
theorem own_D_nn (xs : List Int32) (M : Nat) : 0 ≤ own_D xs M := by
  induction M with
  | zero => exact Int.le_refl _
  | succ M ih => show 0 ≤ own_D xs M * 256 + (xs.getD M 0).toInt % 256; omega
theorem own_D_inj (xs ys : List Int32) (M : Nat) (h : own_D xs M = own_D ys M) : ∀ i, i < M → (xs.getD i 0).toInt % 256 = (ys.getD i 0).toInt % 256 := by
  induction M with
  | zero => intro i hi; omega
  | succ M ih =>
    have h' : own_D xs M * 256 + (xs.getD M 0).toInt % 256 = own_D ys M * 256 + (ys.getD M 0).toInt % 256 := h
    have e1 : own_D xs M = own_D ys M := by omega
    intro i hi
    rcases Nat.lt_or_ge i M with g | g
    · exact ih e1 i g
    · have : i = M := by omega
      subst this; omega
def Byt (xs : List Int32) : Prop := ∀ i, -128 ≤ (xs.getD i 0).toInt ∧ (xs.getD i 0).toInt ≤ 127
def Ntr (xs : List Int32) : Prop := xs.length = 0 ∨ ¬ (xs.getD (xs.length - 1) 0 = 0)
theorem own_list_eq (xs ys : List Int32) (M : Nat) (bx : Byt xs) (bY : Byt ys) (tx : Ntr xs) (ty : Ntr ys) (lx : xs.length ≤ M) (ly : ys.length ≤ M) (h : own_D xs M = own_D ys M) : xs = ys := by
  have g : ∀ i, xs.getD i 0 = ys.getD i 0 := by
    intro i
    rcases Nat.lt_or_ge i M with q | q
    · have e := own_D_inj xs ys M h i q
      have b1 := bx i
      have b2 := bY i
      apply Int32.toInt_inj.mp; omega
    · rw [own_getD_ge xs i (by omega), own_getD_ge ys i (by omega)]
  have l : xs.length = ys.length := by
    rcases Nat.lt_trichotomy xs.length ys.length with q | q | q
    · rcases ty with t | t
      · omega
      · exact absurd ((g _).symm.trans (own_getD_ge xs _ (by omega))) t
    · exact q
    · rcases tx with t | t
      · omega
      · exact absurd ((g _).trans (own_getD_ge ys _ (by omega))) t
  apply List.ext_getElem l
  intro i h1 h2
  have e := g i
  rw [List.getD_eq_getElem?_getD, List.getD_eq_getElem?_getD, List.getElem?_eq_getElem h1, List.getElem?_eq_getElem h2] at e
  exact e
def own_end (l R : Int) : Int := if (-l) % 4294967296 < R then (-l) % 4294967296 else if (-l) % 16777216 < R then (-l) % 16777216 else if (-l) % 65536 < R then (-l) % 65536 else if (-l) % 256 < R then (-l) % 256 else 0
theorem own_end_b (l R : Int) (h : 0 < R) : 0 ≤ own_end l R ∧ own_end l R < R := by
  unfold own_end; split <;> (try split) <;> (try split) <;> (try split) <;> omega
theorem own_end_mod (l R : Int) : own_end (l % 4294967296) R = own_end l R := by
  have e1 : (-(l % 4294967296)) % 4294967296 = (-l) % 4294967296 := by omega
  have e2 : (-(l % 4294967296)) % 16777216 = (-l) % 16777216 := by omega
  have e3 : (-(l % 4294967296)) % 65536 = (-l) % 65536 := by omega
  have e4 : (-(l % 4294967296)) % 256 = (-l) % 256 := by omega
  unfold own_end; rw [e1, e2, e3, e4]
/-- the end of the chosen value: 256 ^ (4 - kept) divides it -/
theorem own_end_dvd (l R : Int) (h : 16777216 < R) : (l + own_end l R) % 16777216 = 0 := by
  unfold own_end; split
  · omega
  · rw [if_pos (by omega)]; omega
def TOPn (j : Nat) : Int := 4294967295 * 256 ^ j
/-- D lies in the interval, or the interval ends at the very top and D behind it -/
def Dich (D L R : Int) (j : Nat) : Prop := L ≤ D ∧ (D < L + R ∨ (L + R = TOPn j ∧ TOPn j ≤ D))
theorem own_leaf (ds es : List Int32) (j : Nat) (L R c w : Int) (hj : j ≤ 3) (hR : 16777216 ≤ R ∧ R < 4294967296) (hc : c = (own_D ds (j + 4) - L) % 4294967296) (hw : w = own_D ds (j + 4) % 4294967296) (hD : Dich (own_D ds (j + 4)) L R j) (hb : own_D ds (j + 4) < 4294967296 * 256 ^ j)
    (he : own_D es (j + 4) = L + own_end L R) (bd : Byt ds) (be : Byt es) (te : Ntr es) (le : es.length ≤ j + 4) :
    (c = own_end ((w - c) % 4294967296) R ∧ min (j + 4) ds.length = ds.length ∧ Ntr ds) ↔ ds = es := by
  have e0 : (w - c) % 4294967296 = L % 4294967296 := by omega
  rw [e0, own_end_mod]
  have eb := own_end_b L R (by omega)
  constructor
  · rintro ⟨h1, h2, h3⟩
    obtain ⟨d1, d2⟩ := hD
    refine own_list_eq ds es (j + 4) bd be h3 te (by omega) le ?_
    rw [he]
    rcases d2 with d2 | ⟨d2, d3⟩
    · omega
    · exfalso
      have hd := own_end_dvd L R
      unfold TOPn at d2 d3
      generalize own_D ds (j + 4) = D at *
      generalize own_end L R = E at *
      have hj' : j = 0 ∨ j = 1 ∨ j = 2 ∨ j = 3 := by omega
      rcases hj' with rfl | rfl | rfl | rfl
      · simp only [Int.pow_zero] at d2 d3 hb; omega
      · have p : (256 : Int) ^ 1 = 256 := rfl
        rw [p] at d2 d3 hb; omega
      · have p : (256 : Int) ^ 2 = 65536 := rfl
        rw [p] at d2 d3 hb; omega
      · have p : (256 : Int) ^ 3 = 16777216 := rfl
        rw [p] at d2 d3 hb; omega
  · rintro rfl
    refine ⟨?_, by omega, te⟩
    rw [hc, he]; omega
theorem own_D_lt (xs : List Int32) (M : Nat) : own_D xs M < 256 ^ M := by
  induction M with
  | zero => exact Int.zero_lt_one
  | succ M ih =>
    show own_D xs M * 256 + (xs.getD M 0).toInt % 256 < 256 ^ (M + 1)
    rw [Int.pow_succ]; omega
def EI (lo : Int64) (he : Int32) (on : Int64) (bs : List Int32) (N : Nat) (L W : Int) : Prop :=
  0 ≤ lo.toInt ∧ 0 ≤ on.toInt ∧ 1 ≤ W ∧ lo.toInt + W ≤ 8589934592 ∧ Byt bs ∧
  ((he < 0 ∧ bs = [] ∧ on.toInt.toNat = N ∧ L = (256 ^ N - 1) * 4294967296 + lo.toInt ∧ lo.toInt + W ≤ 4294967296) ∨
   (0 ≤ he.toInt ∧ he.toInt ≤ 255 ∧ bs.length + 1 + on.toInt.toNat = N ∧ L = ((own_num bs * 256 + he.toInt + 1) * 256 ^ on.toInt.toNat - 1) * 4294967296 + lo.toInt ∧ (he.toInt = 255 → lo.toInt + W ≤ 4294967296)))
theorem own_p24 : ((2 ^ 24 : Nat) : Int) = 16777216 := rfl
theorem own_p32 : ((2 ^ 32 : Nat) : Int) = 4294967296 := rfl
theorem own_p8b : ((2 ^ 8 : Nat) : Int) = 256 := rfl
theorem own_shlo (lo : Int64) : (sh_lo lo).toInt = (lo.toInt % 16777216) * 256 := by
  unfold sh_lo
  have e1 : (lo &&& 16777215).toInt = lo.toInt % ((2 ^ 24 : Nat) : Int) := c_maskL lo 16777215 24 (by decide) (by decide)
  rw [own_p24] at e1
  have e2 : (((lo &&& 16777215) <<< ((8 : Int32) &&& 63).toInt64).toInt - (lo &&& 16777215).toInt * ((2 ^ 8 : Nat) : Int)) % 18446744073709551616 = 0 := c_lshl (lo &&& 16777215) 8 8 rfl
  rw [own_p8b] at e2
  have r := rng64 ((lo &&& 16777215) <<< ((8 : Int32) &&& 63).toInt64)
  omega
theorem own_shca (lo : Int64) (h : 0 ≤ lo.toInt ∧ lo.toInt < 8589934592) : (sh_ca lo).toInt = lo.toInt / 4294967296 := by
  unfold sh_ca
  have e1 : (own_ushrL lo 32).toInt = (lo.toInt % 18446744073709551616) / ((2 ^ 32 : Nat) : Int) := c_lushr lo 32 32 rfl (by decide)
  rw [own_p32] at e1
  have e2 := c_l2i (own_ushrL lo 32)
  have r := rng32 (own_ushrL lo 32).toInt32
  omega
theorem own_shhe (lo : Int64) (h : 0 ≤ lo.toInt ∧ lo.toInt < 8589934592) : (sh_he lo).toInt = (lo.toInt / 16777216) % 256 := by
  unfold sh_he
  have e1 : (own_ushrL lo 24).toInt = (lo.toInt % 18446744073709551616) / ((2 ^ 24 : Nat) : Int) := c_lushr lo 24 24 rfl (by decide)
  rw [own_p24] at e1
  have e2 := c_l2i (own_ushrL lo 24)
  have r := rng32 (own_ushrL lo 24).toInt32
  have e3 : ((own_ushrL lo 24).toInt32 &&& 255).toInt = (own_ushrL lo 24).toInt32.toInt % ((2 ^ 8 : Nat) : Int) := c_mask _ 255 8 (by decide) (by decide)
  rw [own_p8b] at e3
  omega
theorem own_byv (x : Int32) : (own_by x).toInt % 256 = x.toInt % 256 ∧ -128 ≤ (own_by x).toInt ∧ (own_by x).toInt ≤ 127 := by
  have e := c_i2b x
  unfold own_by; omega
theorem own_byt_app (xs ys : List Int32) (h : Byt xs) (g : Byt ys) : Byt (xs ++ ys) := by
  intro i
  rcases Nat.lt_or_ge i xs.length with q | q
  · have e : (xs ++ ys).getD i 0 = xs.getD i 0 := by rw [List.getD_eq_getElem?_getD, List.getElem?_append_left q, ← List.getD_eq_getElem?_getD]
    rw [e]; exact h i
  · have e : (xs ++ ys).getD i 0 = ys.getD (i - xs.length) 0 := by rw [List.getD_eq_getElem?_getD, List.getElem?_append_right q, ← List.getD_eq_getElem?_getD]
    rw [e]; exact g _
theorem own_byt_nil : Byt [] := fun i => by rw [own_getD_ge [] i (Nat.zero_le _)]; decide
theorem own_byt_rep (t : Nat) (x : Int32) (h : -128 ≤ x.toInt ∧ x.toInt ≤ 127) : Byt (List.replicate t x) := by
  intro i
  rcases Nat.lt_or_ge i t with q | q
  · have e : (List.replicate t x).getD i 0 = x := by rw [List.getD_eq_getElem?_getD, List.getElem?_replicate, if_pos q]; rfl
    rw [e]; exact h
  · rw [own_getD_ge _ i (by rw [List.length_replicate]; exact q)]; decide
theorem own_EI_flush (lo : Int64) (he : Int32) (on : Int64) (bs : List Int32) (N : Nat) (L W : Int) (h : EI lo he on bs N L W) (hW : W ≤ 16777216) (hf : lo.toInt < 4278190080 ∨ 4294967296 ≤ lo.toInt) :
    EI (sh_lo lo) (sh_he lo) 0 (sh_bs lo he on bs) (N + 1) (256 * L) (256 * W) := by
  obtain ⟨h1, h2, h3, h4, h5, h6⟩ := h
  have el := own_shlo lo
  have ec := own_shca lo ⟨h1, by omega⟩
  have eh := own_shhe lo ⟨h1, by omega⟩
  have k0 : (0 : Int64).toInt = 0 := rfl
  have k255 : (255 : Int32).toInt = 255 := rfl
  have a1 := c_iadd 255 (sh_ca lo)
  have ra1 := rng32 (255 + sh_ca lo)
  have b1 := own_byv (255 + sh_ca lo)
  have hbr : Byt (List.replicate on.toInt.toNat (own_by (255 + sh_ca lo))) := own_byt_rep _ _ b1.2
  rcases h6 with ⟨g1, g2, g3, g4, g5⟩ | ⟨g1, g2, g3, g4, g5⟩
  · subst g2
    have c0 : (sh_ca lo).toInt = 0 := by omega
    have hb : sh_bs lo he on [] = List.replicate on.toInt.toNat (own_by (255 + sh_ca lo)) := by unfold sh_bs sh_b1; rw [if_pos g1]; rfl
    have n1 := own_num_255 [] (own_by (255 + sh_ca lo)) (by omega) on.toInt.toNat
    rw [List.nil_append] at n1
    have z : own_num [] = 0 := rfl
    rw [z] at n1
    rw [hb]
    refine ⟨by omega, by omega, by omega, by omega, hbr, Or.inr ⟨by omega, by omega, by rw [List.length_replicate, k0]; omega, ?_, by omega⟩⟩
    rw [n1, k0, g3, g4, el, eh]
    simp only [Int.toNat_zero, Int.pow_zero]
    generalize (256 : Int) ^ N = P
    omega
  · have hn : ¬ (he < 0) := own_nlt32 (by show ¬ (he.toInt < 0); omega)
    have hb : sh_bs lo he on bs = bs ++ [own_by (he + sh_ca lo)] ++ List.replicate on.toInt.toNat (own_by (255 + sh_ca lo)) := by unfold sh_bs sh_b1; rw [if_neg hn]
    have a2 := c_iadd he (sh_ca lo)
    have ra2 := rng32 (he + sh_ca lo)
    have b2 := own_byv (he + sh_ca lo)
    have hcb : he.toInt + (sh_ca lo).toInt ≤ 255 := by omega
    have s1 := own_num_snoc bs (own_by (he + sh_ca lo))
    have hby2 : Byt (bs ++ [own_by (he + sh_ca lo)] ++ List.replicate on.toInt.toNat (own_by (255 + sh_ca lo))) := own_byt_app _ _ (own_byt_app _ _ h5 (own_byt_rep 1 _ b2.2)) hbr
    rw [hb]
    have hnum : own_num (bs ++ [own_by (he + sh_ca lo)] ++ List.replicate on.toInt.toNat (own_by (255 + sh_ca lo))) = (own_num bs * 256 + he.toInt + 1) * 256 ^ on.toInt.toNat - 1 + (sh_ca lo).toInt := by
      have hc01 : (sh_ca lo).toInt = 0 ∨ (sh_ca lo).toInt = 1 := by omega
      rcases hc01 with c0 | c1
      · rw [own_num_255 _ _ (by omega), s1, c0, show own_num bs * 256 + (own_by (he + sh_ca lo)).toInt % 256 + 1 = own_num bs * 256 + he.toInt + 1 from by omega]; omega
      · rw [own_num_0 _ _ (by omega), s1, c1, show own_num bs * 256 + (own_by (he + sh_ca lo)).toInt % 256 = own_num bs * 256 + he.toInt + 1 from by omega]; omega
    refine ⟨by omega, by omega, by omega, by omega, hby2, Or.inr ⟨by omega, by omega, by simp only [List.length_append, List.length_replicate, List.length_cons, List.length_nil, k0, Int.toNat_zero]; omega, ?_, by omega⟩⟩
    rw [hnum, k0, g4, el, eh]
    simp only [Int.toNat_zero, Int.pow_zero]
    generalize (own_num bs * 256 + he.toInt + 1) * 256 ^ on.toInt.toNat = P
    omega
theorem own_EI_keep (lo : Int64) (he : Int32) (on : Int64) (bs : List Int32) (N : Nat) (L W : Int) (h : EI lo he on bs N L W) (hN : N ≤ 1000) (hW : W ≤ 16777216) (hf : 4278190080 ≤ lo.toInt ∧ lo.toInt < 4294967296) :
    EI (sh_lo lo) he (on + 1) bs (N + 1) (256 * L) (256 * W) := by
  obtain ⟨h1, h2, h3, h4, h5, h6⟩ := h
  have el := own_shlo lo
  have e := c_ladd on 1
  have k1 : (1 : Int64).toInt = 1 := rfl
  have r := rng64 (on + 1)
  have hon : on.toInt ≤ 1000 := by rcases h6 with ⟨g1, g2, g3, g4, g5⟩ | ⟨g1, g2, g3, g4, g5⟩ <;> omega
  have e1 : (on + 1).toInt.toNat = on.toInt.toNat + 1 := by omega
  rcases h6 with ⟨g1, g2, g3, g4, g5⟩ | ⟨g1, g2, g3, g4, g5⟩
  · refine ⟨by omega, by omega, by omega, by omega, h5, Or.inl ⟨g1, g2, by omega, ?_, by omega⟩⟩
    rw [g4, el, Int.pow_succ]
    generalize (256 : Int) ^ N = P
    omega
  · refine ⟨by omega, by omega, by omega, by omega, h5, Or.inr ⟨g1, g2, by omega, ?_, by omega⟩⟩
    rw [g4, el, e1, Int.pow_succ, ← Int.mul_assoc]
    generalize (own_num bs * 256 + he.toInt + 1) * 256 ^ on.toInt.toNat = P
    omega
theorem own_EI_cap (lo : Int64) (he : Int32) (on : Int64) (bs : List Int32) (N : Nat) (L W : Int) (h : EI lo he on bs N L W) (hN : N ≤ 31) : 0 ≤ on.toInt ∧ bs.length + 1 + on.toInt.toNat ≤ 32 := by
  obtain ⟨h1, h2, h3, h4, h5, h6⟩ := h
  rcases h6 with ⟨g1, g2, g3, g4, g5⟩ | ⟨g1, g2, g3, g4, g5⟩
  · subst g2; simp only [List.length_nil]; omega
  · omega
theorem own_EI_sub (lo lo' : Int64) (he : Int32) (on : Int64) (bs : List Int32) (N : Nat) (L W d W' : Int) (h : EI lo he on bs N L W) (hd : 0 ≤ d) (hl : lo'.toInt = lo.toInt + d) (hw : 1 ≤ W') (hs : d + W' ≤ W) : EI lo' he on bs N (L + d) W' := by
  obtain ⟨h1, h2, h3, h4, h5, h6⟩ := h
  rcases h6 with ⟨g1, g2, g3, g4, g5⟩ | ⟨g1, g2, g3, g4, g5⟩
  · exact ⟨by omega, h2, hw, by omega, h5, Or.inl ⟨g1, g2, g3, by omega, by omega⟩⟩
  · exact ⟨by omega, h2, hw, by omega, h5, Or.inr ⟨g1, g2, g3, by omega, by omega⟩⟩
/-- behind the last shift of 'finish': all digits are written -/
theorem own_EI_fin (lo : Int64) (he : Int32) (on : Int64) (bs : List Int32) (N : Nat) (L W X : Int) (h : EI lo he on bs (N + 1) L W) (hlo : lo.toInt < 4294967296) (hX : L = 1099511627776 * X) : bs.length = N ∧ own_num bs = X ∧ Byt bs := by
  obtain ⟨h1, h2, h3, h4, h5, h6⟩ := h
  rcases h6 with ⟨g1, g2, g3, g4, g5⟩ | ⟨g1, g2, g3, g4, g5⟩
  · exfalso
    rw [Int.pow_succ] at g4
    generalize (256 : Int) ^ N = P at *
    omega
  · have z : on.toInt.toNat = 0 := by
      rcases Nat.eq_zero_or_pos on.toInt.toNat with q | q
      · exact q
      · exfalso
        obtain ⟨t, ht⟩ : ∃ t, on.toInt.toNat = t + 1 := ⟨on.toInt.toNat - 1, by omega⟩
        rw [ht, Int.pow_succ, ← Int.mul_assoc] at g4
        generalize (own_num bs * 256 + he.toInt + 1) * 256 ^ t = P at *
        omega
    rw [z, Int.pow_zero] at g4
    refine ⟨by omega, by omega, h5⟩

def own_relE (r ra L1 L : Int) (s : Nat) : Prop := (s = 0 ∧ 16777216 ≤ r ∧ ra = r ∧ L = L1) ∨ (s = 1 ∧ r < 16777216 ∧ 65536 ≤ r ∧ ra = 256 * r ∧ L = 256 * L1) ∨ (s = 2 ∧ r < 65536 ∧ ra = 65536 * r ∧ L = 65536 * L1)
def QShE (Z : State) (a b : Addr) (kk : ClassId) (ra : Int64) (N : Nat) (L W : Int) (v : Option Value) (h : Heap) : Prop := v = none ∧ ∃ lo he on bs, Enc Z h a b kk lo ra he on bs ∧ EI lo he on bs (N + 1) (256 * L) (256 * W) ∧ lo.toInt < 4294967296
def QEE (Z : State) (a b : Addr) (kk : ClassId) (r L1 : Int) (N : Nat) (v : Option Value) (h : Heap) : Prop := v = none ∧ ∃ lo ra he on bs s L, Enc Z h a b kk lo ra he on bs ∧ own_relE r ra.toInt L1 L s ∧ EI lo he on bs (N + s) L ra.toInt
def QFE (Z : State) (h0 : Heap) (N : Nat) (L R : Int) (v : Option Value) (h : Heap) : Prop := ∃ (rr : Addr) (kr : ClassId) (ys : List Int32), v = some (.ref rr) ∧ h0.size ≤ rr ∧ Arv Z h rr kr .byte (Int32.ofNat ys.length) (ys.map Value.int) (.int (0 : Int32)) ∧ Byt ys ∧ Ntr ys ∧ ys.length ≤ N + 4 ∧ own_D ys (N + 4) = L + own_end L R
theorem own_lw0 (lo x : Int64) : (lo + (x &&& 0)).toInt = lo.toInt := by
  rw [own_a0]
  have e := c_ladd lo 0
  have k : (0 : Int64).toInt = 0 := rfl
  have r := rng64 (lo + 0)
  have r2 := rng64 lo
  omega
theorem own_lw1 (lo x : Int64) (h : 0 ≤ lo.toInt ∧ lo.toInt < 8589934592) (g : 0 ≤ x.toInt ∧ x.toInt < 4294967296) : (lo + (x &&& (-1))).toInt = lo.toInt + x.toInt := by
  rw [own_a1]
  have e := c_ladd lo x
  have r := rng64 (lo + x)
  omega
theorem own_EI_mod (lo : Int64) (he : Int32) (on : Int64) (bs : List Int32) (N : Nat) (L W : Int) (h : EI lo he on bs N L W) : (L - lo.toInt) % 4294967296 = 0 ∧ 0 ≤ lo.toInt ∧ lo.toInt + W ≤ 8589934592 := by
  obtain ⟨h1, h2, h3, h4, h5, h6⟩ := h
  refine ⟨?_, h1, h4⟩
  rcases h6 with ⟨g1, g2, g3, g4, g5⟩ | ⟨g1, g2, g3, g4, g5⟩
  · rw [g4]; generalize (256 : Int) ^ N - 1 = P; omega
  · rw [g4]; generalize (own_num bs * 256 + he.toInt + 1) * 256 ^ on.toInt.toNat - 1 = P; omega
theorem own_end_lo (L l R : Int) (h : (L - l) % 4294967296 = 0) : own_end L R = own_end l R := by
  rw [← own_end_mod L, ← own_end_mod l, show L % 4294967296 = l % 4294967296 from by omega]
theorem own_rmd3 (x y : Int) (h : (x - y) % 18446744073709551616 = 0) (h1 : 0 ≤ y ∧ y ≤ 12884901888) (r : -9223372036854775808 ≤ x ∧ x < 9223372036854775808) : x = y := by omega
theorem own_rnd32 (a : Int) : a + (-a) % 4294967296 = (a + 4294967295) / 4294967296 * 4294967296 := by omega
theorem own_rmd32 (a : Int) (h : 0 ≤ a ∧ a < 8589934592) : 0 ≤ (a + 4294967295) / 4294967296 * 4294967296 ∧ (a + 4294967295) / 4294967296 * 4294967296 ≤ 12884901888 := by omega
theorem own_val32 (lo : Int64) (h : 0 ≤ lo.toInt ∧ lo.toInt < 8589934592) : ((lo + 4294967296 - 1) / 4294967296 * 4294967296).toInt = lo.toInt + (-lo.toInt) % 4294967296 := by
  have k : (4294967296 : Int64).toInt = 4294967296 := rfl
  have k1 : (1 : Int64).toInt = 1 := rfl
  have e1 := c_ladd lo 4294967296
  have r1 := rng64 (lo + 4294967296)
  have e2 := c_lsub (lo + 4294967296) 1
  have r2 := rng64 (lo + 4294967296 - 1)
  rw [k] at e1
  rw [k1] at e2
  have f2 : (lo + 4294967296 - 1).toInt = lo.toInt + 4294967295 := by omega
  have e3 := (c_ldiv (lo + 4294967296 - 1) 4294967296 4294967296 rfl (by decide)).1 (by rw [f2]; exact Int.add_nonneg h.1 (by decide))
  have e4 := c_lmul ((lo + 4294967296 - 1) / 4294967296) 4294967296
  have r4 := rng64 ((lo + 4294967296 - 1) / 4294967296 * 4294967296)
  rw [k, e3, f2] at e4
  rw [own_rnd32]
  exact own_rmd3 _ _ e4 (own_rmd32 _ h) r4
theorem own_vc32 (lo ra : Int64) (h : 0 ≤ lo.toInt ∧ lo.toInt < 8589934592) (g : Rok ra) : ((lo + 4294967296 - 1) / 4294967296 * 4294967296 < lo + ra) ↔ (-lo.toInt) % 4294967296 < ra.toInt := by
  unfold Rok at g
  rw [Int64.lt_iff_toInt_lt, own_val32 lo h]
  have e := c_ladd lo ra
  have r := rng64 (lo + ra)
  have f : (lo + ra).toInt = lo.toInt + ra.toInt := by omega
  rw [f]
  generalize (-lo.toInt) % 4294967296 = z
  omega
theorem own_rnd24 (a : Int) : a + (-a) % 16777216 = (a + 16777215) / 16777216 * 16777216 := by omega
theorem own_rmd24 (a : Int) (h : 0 ≤ a ∧ a < 8589934592) : 0 ≤ (a + 16777215) / 16777216 * 16777216 ∧ (a + 16777215) / 16777216 * 16777216 ≤ 12884901888 := by omega
theorem own_val24 (lo : Int64) (h : 0 ≤ lo.toInt ∧ lo.toInt < 8589934592) : ((lo + 16777216 - 1) / 16777216 * 16777216).toInt = lo.toInt + (-lo.toInt) % 16777216 := by
  have k : (16777216 : Int64).toInt = 16777216 := rfl
  have k1 : (1 : Int64).toInt = 1 := rfl
  have e1 := c_ladd lo 16777216
  have r1 := rng64 (lo + 16777216)
  have e2 := c_lsub (lo + 16777216) 1
  have r2 := rng64 (lo + 16777216 - 1)
  rw [k] at e1
  rw [k1] at e2
  have f2 : (lo + 16777216 - 1).toInt = lo.toInt + 16777215 := by omega
  have e3 := (c_ldiv (lo + 16777216 - 1) 16777216 16777216 rfl (by decide)).1 (by rw [f2]; exact Int.add_nonneg h.1 (by decide))
  have e4 := c_lmul ((lo + 16777216 - 1) / 16777216) 16777216
  have r4 := rng64 ((lo + 16777216 - 1) / 16777216 * 16777216)
  rw [k, e3, f2] at e4
  rw [own_rnd24]
  exact own_rmd3 _ _ e4 (own_rmd24 _ h) r4
theorem own_vc24 (lo ra : Int64) (h : 0 ≤ lo.toInt ∧ lo.toInt < 8589934592) (g : Rok ra) : ((lo + 16777216 - 1) / 16777216 * 16777216 < lo + ra) ↔ (-lo.toInt) % 16777216 < ra.toInt := by
  unfold Rok at g
  rw [Int64.lt_iff_toInt_lt, own_val24 lo h]
  have e := c_ladd lo ra
  have r := rng64 (lo + ra)
  have f : (lo + ra).toInt = lo.toInt + ra.toInt := by omega
  rw [f]
  generalize (-lo.toInt) % 16777216 = z
  omega
theorem own_rnd16 (a : Int) : a + (-a) % 65536 = (a + 65535) / 65536 * 65536 := by omega
theorem own_rmd16 (a : Int) (h : 0 ≤ a ∧ a < 8589934592) : 0 ≤ (a + 65535) / 65536 * 65536 ∧ (a + 65535) / 65536 * 65536 ≤ 12884901888 := by omega
theorem own_val16 (lo : Int64) (h : 0 ≤ lo.toInt ∧ lo.toInt < 8589934592) : ((lo + 65536 - 1) / 65536 * 65536).toInt = lo.toInt + (-lo.toInt) % 65536 := by
  have k : (65536 : Int64).toInt = 65536 := rfl
  have k1 : (1 : Int64).toInt = 1 := rfl
  have e1 := c_ladd lo 65536
  have r1 := rng64 (lo + 65536)
  have e2 := c_lsub (lo + 65536) 1
  have r2 := rng64 (lo + 65536 - 1)
  rw [k] at e1
  rw [k1] at e2
  have f2 : (lo + 65536 - 1).toInt = lo.toInt + 65535 := by omega
  have e3 := (c_ldiv (lo + 65536 - 1) 65536 65536 rfl (by decide)).1 (by rw [f2]; exact Int.add_nonneg h.1 (by decide))
  have e4 := c_lmul ((lo + 65536 - 1) / 65536) 65536
  have r4 := rng64 ((lo + 65536 - 1) / 65536 * 65536)
  rw [k, e3, f2] at e4
  rw [own_rnd16]
  exact own_rmd3 _ _ e4 (own_rmd16 _ h) r4
theorem own_vc16 (lo ra : Int64) (h : 0 ≤ lo.toInt ∧ lo.toInt < 8589934592) (g : Rok ra) : ((lo + 65536 - 1) / 65536 * 65536 < lo + ra) ↔ (-lo.toInt) % 65536 < ra.toInt := by
  unfold Rok at g
  rw [Int64.lt_iff_toInt_lt, own_val16 lo h]
  have e := c_ladd lo ra
  have r := rng64 (lo + ra)
  have f : (lo + ra).toInt = lo.toInt + ra.toInt := by omega
  rw [f]
  generalize (-lo.toInt) % 65536 = z
  omega
theorem own_rnd8 (a : Int) : a + (-a) % 256 = (a + 255) / 256 * 256 := by omega
theorem own_rmd8 (a : Int) (h : 0 ≤ a ∧ a < 8589934592) : 0 ≤ (a + 255) / 256 * 256 ∧ (a + 255) / 256 * 256 ≤ 12884901888 := by omega
theorem own_val8 (lo : Int64) (h : 0 ≤ lo.toInt ∧ lo.toInt < 8589934592) : ((lo + 256 - 1) / 256 * 256).toInt = lo.toInt + (-lo.toInt) % 256 := by
  have k : (256 : Int64).toInt = 256 := rfl
  have k1 : (1 : Int64).toInt = 1 := rfl
  have e1 := c_ladd lo 256
  have r1 := rng64 (lo + 256)
  have e2 := c_lsub (lo + 256) 1
  have r2 := rng64 (lo + 256 - 1)
  rw [k] at e1
  rw [k1] at e2
  have f2 : (lo + 256 - 1).toInt = lo.toInt + 255 := by omega
  have e3 := (c_ldiv (lo + 256 - 1) 256 256 rfl (by decide)).1 (by rw [f2]; exact Int.add_nonneg h.1 (by decide))
  have e4 := c_lmul ((lo + 256 - 1) / 256) 256
  have r4 := rng64 ((lo + 256 - 1) / 256 * 256)
  rw [k, e3, f2] at e4
  rw [own_rnd8]
  exact own_rmd3 _ _ e4 (own_rmd8 _ h) r4
theorem own_vc8 (lo ra : Int64) (h : 0 ≤ lo.toInt ∧ lo.toInt < 8589934592) (g : Rok ra) : ((lo + 256 - 1) / 256 * 256 < lo + ra) ↔ (-lo.toInt) % 256 < ra.toInt := by
  unfold Rok at g
  rw [Int64.lt_iff_toInt_lt, own_val8 lo h]
  have e := c_ladd lo ra
  have r := rng64 (lo + ra)
  have f : (lo + ra).toInt = lo.toInt + ra.toInt := by omega
  rw [f]
  generalize (-lo.toInt) % 256 = z
  omega

theorem own_take_map (bs : List Int32) (k : Nat) (h : k ≤ bs.length) : ((List.range k).map fun i => (bs.map Value.int).getD i (.int (0 : Int32))) = (bs.take k).map Value.int := by
  apply List.ext_getElem
  · simp; omega
  · intro i h1 h2
    simp only [List.getElem_map, List.getElem_range, List.getElem_take]
    rw [own_gd, List.getD_eq_getElem?_getD, List.getElem?_eq_getElem (by simp at h1; omega)]; rfl
theorem own_getD_take (bs : List Int32) (k i : Nat) (h : i < k) : (bs.take k).getD i 0 = bs.getD i 0 := by
  rw [List.getD_eq_getElem?_getD, List.getElem?_take, if_pos h, ← List.getD_eq_getElem?_getD]
theorem own_strip (bs : List Int32) (k M : Nat) (hk : k ≤ bs.length) (h1 : k = 0 ∨ ¬ (bs.getD (k - 1) 0 = 0)) (h2 : ∀ i, k ≤ i → i < bs.length → bs.getD i 0 = 0) (hb : Byt bs) : Byt (bs.take k) ∧ Ntr (bs.take k) ∧ (bs.take k).length = k ∧ own_D (bs.take k) M = own_D bs M := by
  have hl : (bs.take k).length = k := by rw [List.length_take]; omega
  have hg : ∀ i, (bs.take k).getD i 0 = bs.getD i 0 := by
    intro i
    rcases Nat.lt_or_ge i k with q | q
    · exact own_getD_take bs k i q
    · rw [own_getD_ge _ i (by omega)]
      rcases Nat.lt_or_ge i bs.length with q2 | q2
      · exact (h2 i q q2).symm
      · exact (own_getD_ge bs i q2).symm
  refine ⟨fun i => by rw [hg]; exact hb i, ?_, hl, own_D_congr _ _ _ fun i _ => hg i⟩
  unfold Ntr
  rw [hl, hg]
  exact h1
theorem own_finD (bs : List Int32) (N kept : Nat) (X : Int) (hl : bs.length = N + kept) (hk : kept ≤ 4) (hn : own_num bs = X) : own_D bs (N + 4) = X * 256 ^ (4 - kept) := by
  have e : N + 4 = bs.length + (4 - kept) := by omega
  rw [e, own_D_pad bs bs.length (4 - kept) (fun i hi => own_getD_ge bs i hi), own_D_len, hn]
/-! the decoder -/
def Dec (Z : State) (h : Heap) (a b : Addr) (kk : ClassId) (ds : List Int32) (pos : Nat) (ra co wi : Int64) : Prop := Exa Z h a "com/example/phasorwire/phasorwire/RangeDecoder" ∧ Fld Z h a "com/example/phasorwire/phasorwire/RangeDecoder" "data" "[B" (.ref b) ∧ Fld Z h a "com/example/phasorwire/phasorwire/RangeDecoder" "length" "I" (.int (Int32.ofNat ds.length)) ∧ Fld Z h a "com/example/phasorwire/phasorwire/RangeDecoder" "position" "I" (.int (Int32.ofNat pos)) ∧ Fld Z h a "com/example/phasorwire/phasorwire/RangeDecoder" "range" "J" (.long ra) ∧ Fld Z h a "com/example/phasorwire/phasorwire/RangeDecoder" "code" "J" (.long co) ∧ Fld Z h a "com/example/phasorwire/phasorwire/RangeDecoder" "window" "J" (.long wi) ∧ Arv Z h b kk .byte (Int32.ofNat (ds.length + 1)) (ds.map Value.int) (.int (0 : Int32)) ∧ a ≠ b
def DI (ds : List Int32) (M : Nat) (co wi : Int64) (L : Int) : Prop := co.toInt = (own_D ds M - L) % 4294967296 ∧ wi.toInt = own_D ds M % 4294967296
def QSi (Z : State) (a b : Addr) (kk : ClassId) (ds : List Int32) (ra : Int64) (M : Nat) (L : Int) (v : Option Value) (h : Heap) : Prop := v = none ∧ ∃ co wi, Dec Z h a b kk ds (min (M + 1) ds.length) ra co wi ∧ DI ds (M + 1) co wi (256 * L)
def QDi (Z : State) (h0 : Heap) (a : Addr) (ds : List Int32) (v : Option Value) (h : Heap) : Prop := v = none ∧ ∃ b kk co wi, h0.size ≤ b ∧ Dec Z h a b kk ds (min 4 ds.length) 4294967295 co wi ∧ DI ds 4 co wi 0
def QDd (Z : State) (a b : Addr) (kk : ClassId) (ds : List Int32) (ra co : Int64) (p : Int32) (M : Nat) (L : Int) (v : Option Value) (h : Heap) : Prop := ∃ ra' co' wi' s L', Dec Z h a b kk ds (min (M + s) ds.length) ra' co' wi' ∧ DI ds (M + s) co' wi' L' ∧ ((v = some (.int 0) ∧ co.toInt < (own_bd ra p).toInt ∧ own_relE (own_r0 ra p).toInt ra'.toInt L L' s) ∨ (v = some (.int 1) ∧ ¬ (co.toInt < (own_bd ra p).toInt) ∧ own_relE (own_r1 ra p).toInt ra'.toInt (L + (own_bd ra p).toInt) L' s))
def Can (ds : List Int32) (pos : Nat) (ra co wi : Int64) : Prop := co.toInt = own_end ((wi.toInt - co.toInt) % 4294967296) ra.toInt ∧ pos = ds.length ∧ Ntr ds
def QCa (ds : List Int32) (pos : Nat) (ra co wi : Int64) (h0 : Heap) (v : Option Value) (h : Heap) : Prop := h = h0 ∧ ((v = some (.int 1) ∧ Can ds pos ra co wi) ∨ (v = some (.int 0) ∧ ¬ Can ds pos ra co wi))
def QAt (us vs : List Int32) (i : Nat) (h0 : Heap) (v : Option Value) (h : Heap) : Prop := h = h0 ∧ ((v = some (.int 1) ∧ (us.length ≤ i ∨ us.getD i 0 = vs.getD i 0)) ∨ (v = some (.int 0) ∧ ¬ (us.length ≤ i ∨ us.getD i 0 = vs.getD i 0)))
def QEq (us vs : List Int32) (h0 : Heap) (v : Option Value) (h : Heap) : Prop := h = h0 ∧ ((v = some (.int 1) ∧ us = vs) ∨ (v = some (.int 0) ∧ ¬ (us = vs)))
theorem own_ones (co bd : Int64) (h : 0 ≤ co.toInt ∧ co.toInt < 4294967296) (g : 0 ≤ bd.toInt ∧ bd.toInt < 4294967296) : (co.toInt < bd.toInt → ((co - bd) >>> ((63 : Int32) &&& 63).toInt64) ^^^ (-1) = 0) ∧ (¬ (co.toInt < bd.toInt) → ((co - bd) >>> ((63 : Int32) &&& 63).toInt64) ^^^ (-1) = -1) := by
  have e := c_lsub co bd
  have r := rng64 (co - bd)
  have s : ((co - bd) >>> ((63 : Int32) &&& 63).toInt64).toInt = (co - bd).toInt / ((2 ^ 63 : Nat) : Int) := c_lshr (co - bd) 63 63 rfl
  have k : ((2 ^ 63 : Nat) : Int) = 9223372036854775808 := rfl
  rw [k] at s
  constructor
  · intro q
    have z : (co - bd) >>> ((63 : Int32) &&& 63).toInt64 = -1 := by
      apply Int64.toInt_inj.mp
      rw [s]; show _ = (-1 : Int); omega
    rw [z]; decide
  · intro q
    have z : (co - bd) >>> ((63 : Int32) &&& 63).toInt64 = 0 := by
      apply Int64.toInt_inj.mp
      rw [s]; show _ = (0 : Int); omega
    rw [z]; decide
theorem own_sc1 (co x : Int64) (h : 0 ≤ co.toInt ∧ co.toInt < 4294967296) (g : 0 ≤ x.toInt ∧ x.toInt < 4294967296) (q : x.toInt ≤ co.toInt) : (co - (x &&& (-1))).toInt = co.toInt - x.toInt := by
  rw [own_a1]
  have e := c_lsub co x
  have r := rng64 (co - x)
  omega
theorem own_sc0 (co x : Int64) : (co - (x &&& 0)).toInt = co.toInt := by
  rw [own_a0]
  have e := c_lsub co 0
  have k : (0 : Int64).toInt = 0 := rfl
  have r := rng64 (co - 0)
  have r2 := rng64 co
  omega
theorem own_p32b : ((2 ^ 32 : Nat) : Int) = 4294967296 := rfl
theorem own_or8 (co : Int64) (x : Int32) (h : 0 ≤ co.toInt ∧ co.toInt < 4294967296) (g : 0 ≤ x.toInt ∧ x.toInt ≤ 255) : (((co <<< ((8 : Int32) &&& 63).toInt64) ||| x.toInt64) &&& 4294967295).toInt = (co.toInt * 256 + x.toInt) % 4294967296 := by
  have e1 : ((co <<< ((8 : Int32) &&& 63).toInt64).toInt - co.toInt * ((2 ^ 8 : Nat) : Int)) % 18446744073709551616 = 0 := c_lshl co 8 8 rfl
  rw [own_p8] at e1
  have r1 := rng64 (co <<< ((8 : Int32) &&& 63).toInt64)
  have f1 : (co <<< ((8 : Int32) &&& 63).toInt64).toInt = co.toInt * 256 := by omega
  have e2 := c_i2l x
  have e3 := c_orL (co <<< ((8 : Int32) &&& 63).toInt64) x.toInt64 8 (by decide) 256 rfl (by omega) (by omega) (by omega)
  have r3 := rng64 ((co <<< ((8 : Int32) &&& 63).toInt64) ||| x.toInt64)
  have e4 : (((co <<< ((8 : Int32) &&& 63).toInt64) ||| x.toInt64) &&& 4294967295).toInt = ((co <<< ((8 : Int32) &&& 63).toInt64) ||| x.toInt64).toInt % ((2 ^ 32 : Nat) : Int) := c_maskL _ 4294967295 32 (by decide) (by decide)
  rw [own_p32b] at e4
  omega
theorem own_m255 (x : Int32) : (x &&& 255).toInt = x.toInt % 256 := (c_mask x 255 8 (by decide) (by decide)).trans (by rw [own_p8])
theorem own_DI (ds : List Int32) (M : Nat) (co wi co' wi' : Int64) (L x : Int) (h : DI ds M co wi L) (hx : x = (ds.getD M 0).toInt % 256) (h1 : co'.toInt = (co.toInt * 256 + x) % 4294967296) (h2 : wi'.toInt = (wi.toInt * 256 + x) % 4294967296) : DI ds (M + 1) co' wi' (256 * L) := by
  obtain ⟨g1, g2⟩ := h
  have e : own_D ds (M + 1) = own_D ds M * 256 + (ds.getD M 0).toInt % 256 := rfl
  unfold DI
  rw [e, ← hx, h1, h2, g1, g2]
  generalize own_D ds M = D
  constructor <;> omega
theorem own_DIb (ds : List Int32) (M : Nat) (co wi : Int64) (L : Int) (h : DI ds M co wi L) : (0 ≤ co.toInt ∧ co.toInt < 4294967296) ∧ (0 ≤ wi.toInt ∧ wi.toInt < 4294967296) := by
  unfold DI at h; omega
theorem own_minN (M n : Nat) (h : n ≤ 100) (hM : M ≤ 100) : own_min (Int32.ofNat (min M n) + 1) (Int32.ofNat n) = Int32.ofNat (min (M + 1) n) := by
  have e0 := own_add1 (min M n) (by omega)
  rw [e0]
  have e1 := own_ofn (min M n + 1) (by omega)
  have e2 := own_ofn n (by omega)
  unfold own_min
  rcases Nat.lt_or_ge M n with q | q
  · rw [if_neg (own_nlt32 (by rw [e1, e2]; omega))]
    congr 1; omega
  · rw [if_pos (own_lt32 (by rw [e1, e2]; omega))]
    congr 1; omega
theorem own_getM (ds : List Int32) (M : Nat) : (ds.map Value.int).getD (min M ds.length) (.int (0 : Int32)) = .int (ds.getD M 0) := by
  rw [own_gd]
  rcases Nat.lt_or_ge M ds.length with q | q
  · rw [show min M ds.length = M from by omega]
  · rw [show min M ds.length = ds.length from by omega, own_getD_ge ds _ (Nat.le_refl _), own_getD_ge ds _ q]
theorem own_inN (ds : List Int32) (M : Nat) (h : ds.length ≤ 100) : ¬ (Int32.ofNat (min M ds.length) < 0) ∧ Int32.ofNat (min M ds.length) < Int32.ofNat (ds.length + 1) := by
  have e1 := own_ofn (min M ds.length) (by omega)
  have e2 := own_ofn (ds.length + 1) (by omega)
  exact ⟨own_nlt32 (by rw [e1]; show ¬ (_ < (0 : Int)); omega), own_lt32 (by rw [e1, e2]; omega)⟩
theorem own_allmap (ds : List Int32) : ((List.range ds.length).map fun i => (ds.map Value.int).getD i (.int (0 : Int32))) = ds.map Value.int := by
  rw [own_take_map ds ds.length (Nat.le_refl _), List.take_length]
theorem own_mask32 (x : Int64) : (x &&& 4294967295).toInt = x.toInt % 4294967296 := (c_maskL x 4294967295 32 (by decide) (by decide)).trans (by rw [own_p32b])
theorem own_lowc (wi co : Int64) (h : (0 ≤ co.toInt ∧ co.toInt < 4294967296) ∧ (0 ≤ wi.toInt ∧ wi.toInt < 4294967296)) : ((wi - co) &&& 4294967295).toInt = (wi.toInt - co.toInt) % 4294967296 := by
  rw [own_mask32]
  have e := c_lsub wi co
  have r := rng64 (wi - co)
  omega
theorem own_ds32 (low : Int64) (h : 0 ≤ low.toInt ∧ low.toInt < 4294967296) : ((-low) &&& 4294967295).toInt = (-low.toInt) % 4294967296 := by
  have e : ((-low) &&& 4294967295).toInt = (-low).toInt % ((2 ^ 32 : Nat) : Int) := c_maskL _ 4294967295 32 (by decide) (by decide)
  have k : ((2 ^ 32 : Nat) : Int) = 4294967296 := rfl
  rw [k] at e
  have e1 := c_lneg low
  have r := rng64 (-low)
  omega
theorem own_ds24 (low : Int64) (h : 0 ≤ low.toInt ∧ low.toInt < 4294967296) : ((-low) &&& 16777215).toInt = (-low.toInt) % 16777216 := by
  have e : ((-low) &&& 16777215).toInt = (-low).toInt % ((2 ^ 24 : Nat) : Int) := c_maskL _ 16777215 24 (by decide) (by decide)
  have k : ((2 ^ 24 : Nat) : Int) = 16777216 := rfl
  rw [k] at e
  have e1 := c_lneg low
  have r := rng64 (-low)
  omega
theorem own_ds16 (low : Int64) (h : 0 ≤ low.toInt ∧ low.toInt < 4294967296) : ((-low) &&& 65535).toInt = (-low.toInt) % 65536 := by
  have e : ((-low) &&& 65535).toInt = (-low).toInt % ((2 ^ 16 : Nat) : Int) := c_maskL _ 65535 16 (by decide) (by decide)
  have k : ((2 ^ 16 : Nat) : Int) = 65536 := rfl
  rw [k] at e
  have e1 := c_lneg low
  have r := rng64 (-low)
  omega
theorem own_ds8 (low : Int64) (h : 0 ≤ low.toInt ∧ low.toInt < 4294967296) : ((-low) &&& 255).toInt = (-low.toInt) % 256 := by
  have e : ((-low) &&& 255).toInt = (-low).toInt % ((2 ^ 8 : Nat) : Int) := c_maskL _ 255 8 (by decide) (by decide)
  have k : ((2 ^ 8 : Nat) : Int) = 256 := rfl
  rw [k] at e
  have e1 := c_lneg low
  have r := rng64 (-low)
  omega

theorem own_Ntr (ds : List Int32) (h : 0 < ds.length) (g : ¬ (ds.getD (ds.length - 1) 0 = 0)) : Ntr ds := Or.inr g
theorem own_eqlist (us vs : List Int32) (hl : us.length = vs.length) (h8 : us.length ≤ 8) (h : ∀ i, i < 8 → us.length ≤ i ∨ us.getD i 0 = vs.getD i 0) : us = vs := by
  apply List.ext_getElem hl
  intro i h1 h2
  rcases h i (by omega) with q | q
  · omega
  · rw [List.getD_eq_getElem?_getD, List.getD_eq_getElem?_getD, List.getElem?_eq_getElem h1, List.getElem?_eq_getElem h2] at q
    exact q
theorem own_r1v (ra : Int64) (p : Int32) (h : Rok ra) (g : Pok p) : (own_r1 ra p).toInt = ra.toInt - (own_bd ra p).toInt := by
  have e := own_bdv ra p h g
  have e4 := c_lsub ra (own_bd ra p)
  have r2 := rng64 (ra - own_bd ra p)
  unfold Rok at h; unfold own_r1; omega

theorem own_mnz (n : Nat) (h : n ≤ 100) : own_min (Int32.ofNat n) (Int32.ofNat (n + 1)) = Int32.ofNat n := by
  have e1 := own_ofn n (by omega)
  have e2 := own_ofn (n + 1) (by omega)
  unfold own_min; rw [if_neg (own_nlt32 (by rw [e1, e2]; omega))]
theorem own_neS (n : Nat) (h : n ≤ 100) : ¬ (Int32.ofNat (n + 1) = Int32.ofNat n) := fun q => by
  have e := congrArg Int32.toInt q
  rw [own_ofn n (by omega), own_ofn (n + 1) (by omega)] at e
  omega
theorem own_nn (n : Nat) (h : n ≤ 100) : ¬ (Int32.ofNat n < 0) := own_nlt32 (by rw [own_ofn n (by omega)]; show ¬ (_ < (0 : Int)); omega)
theorem own_eqN (a b : Nat) (ha : a ≤ 100) (hb : b ≤ 100) : Int32.ofNat a = Int32.ofNat b ↔ a = b := by
  constructor
  · intro q
    have e := congrArg Int32.toInt q
    rw [own_ofn a (by omega), own_ofn b (by omega)] at e
    omega
  · intro q; rw [q]
theorem own_relE_un (r ra ra' L1 L L' : Int) (s s' : Nat) (h : own_relE r ra L1 L s) (g : own_relE r ra' L1 L' s') : ra = ra' ∧ L = L' ∧ s = s' := by
  unfold own_relE at h g; omega
theorem own_relE_ok (r ra L1 L : Int) (s : Nat) (h : own_relE r ra L1 L s) (g : 4096 ≤ r ∧ r < 4294967296) : 16777216 ≤ ra ∧ ra < 4294967296 ∧ s ≤ 2 := by
  unfold own_relE at h; omega
theorem own_top (j : Nat) : TOPn (j + 1) = 256 * TOPn j := by unfold TOPn; rw [Int.pow_succ]; generalize (256 : Int) ^ j = P; omega
theorem own_shD (ds : List Int32) (M j : Nat) (L R : Int) (h : Dich (own_D ds M) L R j) : Dich (own_D ds (M + 1)) (256 * L) (256 * R) (j + 1) := by
  have e : own_D ds (M + 1) = own_D ds M * 256 + (ds.getD M 0).toInt % 256 := rfl
  unfold Dich at h ⊢
  rw [own_top, e]
  generalize TOPn j = t at *
  generalize own_D ds M = D at *
  omega
theorem own_relD (ds : List Int32) (M j s : Nat) (r ra L1 L : Int) (h : Dich (own_D ds M) L1 r j) (g : own_relE r ra L1 L s) : Dich (own_D ds (M + s)) L ra (j + s) := by
  rcases g with ⟨rfl, -, rfl, rfl⟩ | ⟨rfl, -, -, rfl, rfl⟩ | ⟨rfl, -, rfl, rfl⟩
  · exact h
  · exact own_shD ds M j L1 r h
  · have q := own_shD ds (M + 1) (j + 1) _ _ (own_shD ds M j L1 r h)
    rw [← Int.mul_assoc, ← Int.mul_assoc] at q
    exact q
theorem own_bit0 (D L R bd c : Int) (j : Nat) (h : Dich D L R j) (hc : c = D - L) (hb : c < bd) : Dich D L bd j := by
  unfold Dich at h ⊢; omega
theorem own_bit1 (D L R bd c : Int) (j : Nat) (h : Dich D L R j) (hc : c = D - L) (hb : ¬ c < bd) : Dich D (L + bd) (R - bd) j := by
  unfold Dich at h ⊢; omega
theorem own_dich0 (ds : List Int32) : Dich (own_D ds 4) 0 4294967295 0 := by
  have h1 := own_D_nn ds 4
  have h2 := own_D_lt ds 4
  have p : (256 : Int) ^ 4 = 4294967296 := rfl
  rw [p] at h2
  have t : TOPn 0 = 4294967295 := rfl
  unfold Dich; rw [t]; omega
theorem own_exact0 (ds : List Int32) (co wi : Int64) (h : DI ds 4 co wi 0) : co.toInt = own_D ds 4 - 0 := by
  have h1 := own_D_nn ds 4
  have h2 := own_D_lt ds 4
  have p : (256 : Int) ^ 4 = 4294967296 := rfl
  rw [p] at h2
  obtain ⟨g, -⟩ := h; omega
theorem own_exact1 (ds : List Int32) (co wi : Int64) (r ra L1 L : Int) (s : Nat) (h : DI ds (4 + s) co wi L) (hd : Dich (own_D ds (4 + s)) L ra s) (hr : own_relE r ra L1 L s) (hb : 65536 ≤ r ∧ r < 4294967296) : co.toInt = own_D ds (4 + s) - L := by
  obtain ⟨g, -⟩ := h
  have h2 := own_D_lt ds (4 + s)
  unfold Dich TOPn at hd
  rcases hr with ⟨rfl, a1, a2, a3⟩ | ⟨rfl, a1, a2, a3, a4⟩ | ⟨rfl, a1, a2, a3⟩
  · have p : (256 : Int) ^ (4 + 0) = 4294967296 := rfl
    have p0 : (256 : Int) ^ 0 = 1 := rfl
    rw [p] at h2; rw [p0] at hd
    generalize own_D ds (4 + 0) = D at *
    omega
  · have p : (256 : Int) ^ (4 + 1) = 1099511627776 := rfl
    have p0 : (256 : Int) ^ 1 = 256 := rfl
    rw [p] at h2; rw [p0] at hd
    generalize own_D ds (4 + 1) = D at *
    omega
  · omega
theorem own_back (ds : List Int32) (M s : Nat) (r ra L1 L : Int) (g : own_relE r ra L1 L s) (h : L ≤ own_D ds (M + s) ∧ own_D ds (M + s) < L + ra) : L1 ≤ own_D ds M ∧ own_D ds M < L1 + r := by
  rcases g with ⟨rfl, -, rfl, rfl⟩ | ⟨rfl, -, -, rfl, rfl⟩ | ⟨rfl, -, rfl, rfl⟩
  · exact h
  · have e : own_D ds (M + 1) = own_D ds M * 256 + (ds.getD M 0).toInt % 256 := rfl
    rw [e] at h
    generalize own_D ds M = D at *
    omega
  · have e : own_D ds (M + 2) = (own_D ds M * 256 + (ds.getD M 0).toInt % 256) * 256 + (ds.getD (M + 1) 0).toInt % 256 := rfl
    rw [e] at h
    generalize own_D ds M = D at *
    omega
theorem own_r0v (ra : Int64) (p : Int32) : (own_r0 ra p).toInt = (own_bd ra p).toInt := rfl
theorem own_full : Rok 4294967295 := by unfold Rok; decide
theorem own_fullv : (4294967295 : Int64).toInt = 4294967295 := rfl
theorem own_big (p : Int32) (g : Pok p) : 65536 ≤ (own_r0 4294967295 p).toInt ∧ 65536 ≤ (own_r1 4294967295 p).toInt := by
  have e := own_bdv 4294967295 p own_full g
  have e1 := own_r1v 4294967295 p own_full g
  rw [own_fullv] at e e1
  rw [own_r0v, e1]; omega
theorem own_mod3 (x : Int32) : own_ushr x 2 % 3 = 0 ∨ own_ushr x 2 % 3 = 1 ∨ own_ushr x 2 % 3 = 2 := by
  have e : (own_ushr x 2).toInt = (x.toInt % 4294967296) / ((2 ^ 2 : Nat) : Int) := c_iushr x 2 2 rfl (by decide)
  have k : ((2 ^ 2 : Nat) : Int) = 4 := rfl
  rw [k] at e
  have e2 := (c_irem (own_ushr x 2) 3 3 rfl).1 (by omega)
  have q : ∀ d : Int32, own_ushr x 2 % 3 = d ↔ (own_ushr x 2 % 3).toInt = d.toInt := fun d => Int32.toInt_inj.symm
  have k0 : (0 : Int32).toInt = 0 := rfl
  have k1 : (1 : Int32).toInt = 1 := rfl
  have k2 : (2 : Int32).toInt = 2 := rfl
  simp only [q, k0, k1, k2]; omega
theorem own_mod9 (y : Int32) : ∃ n : Nat, n ≤ 8 ∧ (y &&& 15) % 9 = Int32.ofNat n := by
  have e1 := c_and y 15 (by decide)
  have e2 := (c_irem (y &&& 15) 9 9 rfl).1 e1.1
  refine ⟨((y &&& 15) % 9).toInt.toNat, by omega, ?_⟩
  apply Int32.toInt_inj.mp
  rw [own_ofn _ (by omega)]; omega
theorem own_nine (n : Nat) (h : n ≤ 8) : n = 0 ∨ n = 1 ∨ n = 2 ∨ n = 3 ∨ n = 4 ∨ n = 5 ∨ n = 6 ∨ n = 7 ∨ n = 8 := by omega
theorem own_bytlist (xs : List Int32) (h : ∀ x ∈ xs, -128 ≤ x.toInt ∧ x.toInt ≤ 127) : Byt xs := by
  intro i
  rcases Nat.lt_or_ge i xs.length with q | q
  · rw [List.getD_eq_getElem?_getD, List.getElem?_eq_getElem q]; exact h _ (List.getElem_mem q)
  · rw [own_getD_ge xs i q]; decide
theorem own_byb (x : Int32) : -128 ≤ x.toInt8.toInt32.toInt ∧ x.toInt8.toInt32.toInt ≤ 127 := by have e := c_i2b x; omega
def rmsi : Room := { frames := 1, cells := 0, slots := 0, locals := 20 }
def rmdi : Room := { frames := 2, cells := 1, slots := 32, locals := 60 }
def rmdd : Room := { frames := 2, cells := 0, slots := 0, locals := 40 }
def rmeq : Room := { frames := 1, cells := 0, slots := 0, locals := 20 }

def EF (k b1 b2 : Int32) (p1 p2 : Int32) (ys : List Int32) (N : Nat) (L R : Int) : Prop :=
  (k = 0 ∧ N = 0 ∧ L = 0 ∧ R = 4294967295) ∨
  (k = 1 ∧ b1 = 0 ∧ own_relE (own_r0 4294967295 p1).toInt R 0 L N) ∨ (k = 1 ∧ b1 = 1 ∧ own_relE (own_r1 4294967295 p1).toInt R (0 + (own_bd 4294967295 p1).toInt) L N) ∨
  (k = 2 ∧ ∃ (ra : Int64) (L1 : Int) (s1 s2 : Nat), N = s1 + s2 ∧
    ((b1 = 0 ∧ own_relE (own_r0 4294967295 p1).toInt ra.toInt 0 L1 s1) ∨ (b1 = 1 ∧ own_relE (own_r1 4294967295 p1).toInt ra.toInt (0 + (own_bd 4294967295 p1).toInt) L1 s1)) ∧
    ((b2 = 0 ∧ own_relE (own_r0 ra p2).toInt R L1 L s2) ∨ (b2 = 1 ∧ own_relE (own_r1 ra p2).toInt R (L1 + (own_bd ra p2).toInt) L s2)))
def Fin (ys : List Int32) (N : Nat) (L R : Int) : Prop := Byt ys ∧ Ntr ys ∧ ys.length ≤ N + 4 ∧ own_D ys (N + 4) = L + own_end L R ∧ 16777216 ≤ R ∧ R < 4294967296 ∧ N ≤ 3
theorem own_leafC (dd ys : List Int32) (N M : Nat) (L R : Int) (ra co wi : Int64) (hF : Fin ys N L R) (hM : M = N + 4) (hra : ra.toInt = R) (hD : DI dd M co wi L) (hd : Dich (own_D dd M) L R N) (bd : Byt dd) : Can dd (min M dd.length) ra co wi ↔ dd = ys := by
  obtain ⟨f1, f2, f3, f4, f5, f6, f7⟩ := hF
  subst hM hra
  obtain ⟨d1, d2⟩ := hD
  have hb := own_D_lt dd (N + 4)
  have p : (256 : Int) ^ (N + 4) = 4294967296 * 256 ^ N := by
    rw [Int.pow_add]; have q : (256 : Int) ^ 4 = 4294967296 := rfl
    rw [q, Int.mul_comm]
  rw [p] at hb
  exact own_leaf dd ys N L ra.toInt co.toInt wi.toInt f7 ⟨f5, f6⟩ d1 d2 hd hb f4 bd f1 f2 f3
theorem own_inF (ys : List Int32) (N : Nat) (L R : Int) (hF : Fin ys N L R) : L ≤ own_D ys (N + 4) ∧ own_D ys (N + 4) < L + R := by
  obtain ⟨f1, f2, f3, f4, f5, f6, f7⟩ := hF
  have e := own_end_b L R (by omega)
  rw [f4]; omega

set_option maxRecDepth 65536 in
set_option maxHeartbeats 40000000 in
theorem rm_min (l : Launch) (Z : State) (a0 : Array Value) (hw : ∀ d ∈ tables_1, d.before a0 Z = true) (p1 p2 : Int32) (h0 : Heap)  (cs : List Jvm.Cond) :
    OwnCtr l Z (⟨"java/lang/Math", "min", "(II)I"⟩ : MethodName) jdk_29_method_69_code 2 (some .int) rmz #[(.int p1), (.int p2)] h0 [] (QI (own_min p1 p2) h0) cs := by
  refine ow_ctr pn_6 hw (Ls := #[.val (.int p1), .val (.int p2)]) (fun m => by first | (simp [entryFrame, mkF, argsToLocals, Value.category]; done) | rfl) ?_
  intro p e s m below meth c T0 C A0
  refine ow_iloadN C A0 d6_0 rfl rfl ?_
  refine ow_iloadN C A0 d6_1 rfl rfl ?_
  refine ow_icmp_gt C A0 d6_2 (by decide) (pcY := 9) (by decide) (pcN := 5) rfl (fun hc2 => ?_) (fun hc2 => ?_)
  · skip
    refine ow_iloadN C A0 d6_9 rfl rfl ?_
    refine ow_ireturn C A0 (t := .int) rfl rfl (by simp) d6_10 (by decide) (by decide) ?_
    exact ⟨by simp [own_min, hc2], rfl⟩
  · skip
    refine ow_iloadN C A0 d6_5 rfl rfl ?_
    refine ow_goto C A0 d6_6 (by decide) (pc' := 10) (by decide) ?_
    refine ow_ireturn C A0 (t := .int) rfl rfl (by simp) d6_10 (by decide) (by decide) ?_
    exact ⟨by simp [own_min, hc2], rfl⟩
set_option maxRecDepth 65536 in
set_option maxHeartbeats 40000000 in
theorem rm_init (l : Launch) (Z : State) (a0 : Array Value) (hw : ∀ d ∈ tables_1, d.before a0 Z = true) (a : Addr) (h0 : Heap) (E : Exa Z h0 a "com/example/phasorwire/phasorwire/RangeEncoder") (F_low : Fld Z h0 a "com/example/phasorwire/phasorwire/RangeEncoder" "low" "J" (.long (0 : Int64))) (F_range : Fld Z h0 a "com/example/phasorwire/phasorwire/RangeEncoder" "range" "J" (.long (0 : Int64))) (F_held : Fld Z h0 a "com/example/phasorwire/phasorwire/RangeEncoder" "held" "I" (.int (0 : Int32))) (F_heldOnes : Fld Z h0 a "com/example/phasorwire/phasorwire/RangeEncoder" "heldOnes" "J" (.long (0 : Int64))) (F_bytes : Fld Z h0 a "com/example/phasorwire/phasorwire/RangeEncoder" "bytes" "[B" .null) (F_length : Fld Z h0 a "com/example/phasorwire/phasorwire/RangeEncoder" "length" "I" (.int (0 : Int32))) (cs : List Jvm.Cond) :
    OwnCtr l Z (⟨"com/example/phasorwire/phasorwire/RangeEncoder", "<init>", "()V"⟩ : MethodName) prog_64_method_1_code 1 none rmi #[(.ref a)] h0 [a] (QN Z h0 a) cs := by
  refine ow_ctr pn_1 hw (Ls := #[.val (.ref a)]) (fun m => by first | (simp [entryFrame, mkF, argsToLocals, Value.category]; done) | rfl) ?_
  intro p e s m below meth c T0 C A0
  refine ow_aloadN C A0 d1_0 rfl rfl rfl ?_
  refine ow_initO C A0 tw_8 tw_9 tw_10 rfl d1_1 rfl (by decide) (W := 0) (Nat.le_of_eq rfl) (by decide) ?_
  intro T1 A2
  refine ow_aloadN C A2 d1_4 rfl rfl rfl ?_
  refine ow_ldc2 C A2 tw_11 d1_5 rfl ?_
  refine ow_putF C A2 tw_12 Via.refl F_range E tw_13 tw_3 (ty := .long) (by decide) rfl rfl (Or.inl (List.mem_of_getElem? (i := 0) rfl)) d1_8 rfl ?_
  intro T3 h5 W6 A4
  have f7 := F_range.same W6
  refine ow_aloadN C A4 d1_11 rfl rfl rfl ?_
  refine ow_iconst C A4 d1_12 (v := (-1)) rfl rfl ?_
  have f8 := (F_held.other W6 (Or.inr (sn_0 hw)))
  have f9 := (E.wr W6)
  refine ow_putF C A4 tw_14 Via.refl f8 f9 tw_15 tw_3 (ty := .int) (by decide) rfl rfl (Or.inl (List.mem_of_getElem? (i := 0) rfl)) d1_13 rfl ?_
  intro T10 h12 W13 A11
  have f14 := f8.same W13
  refine ow_aloadN C A11 d1_16 rfl rfl rfl ?_
  refine ow_bipush C A11 d1_17 (v := 32) rfl rfl ?_
  refine ow_newA C A11 (ty := .byte) rfl tw_1 d1_19 rfl (by decide) (cap := 32) (by decide) (by decide) (ck' := 1) (sk' := 32) rfl rfl (by decide) (by decide) ?_
  intro T15 h17 b18 kk19 g20 E21 V22 A16
  have f23 := (f9.wr W13)
  have ne24 : a ≠ b18 := Nat.ne_of_lt (Nat.lt_of_lt_of_le f23.lt (Nat.le_of_eq g20.symm))
  have ows_b18 : b18 ∈ ([a] : List Addr) ∨ h0.size ≤ b18 := Or.inr (Nat.le_trans (ow_le A11) (Nat.le_of_eq g20.symm))
  have f25 := (((F_bytes.other W6 (Or.inr (sn_1 hw))).other W13 (Or.inr (sn_2 hw))).ext E21)
  have f26 := (f23.ext E21)
  refine ow_putF C A16 tw_16 Via.refl f25 f26 tw_17 tw_3 (ty := (.array .byte)) (by decide) rfl rfl (Or.inl (List.mem_of_getElem? (i := 0) rfl)) d1_21 rfl ?_
  intro T27 h29 W30 A28
  have f31 := f25.same W30
  have f32 := (V22.other W30 (Ne.symm ne24))
  have f33 := (f26.wr W30)
  have f34 := ((((F_low.other W6 (Or.inr (sn_3 hw))).other W13 (Or.inr (sn_4 hw))).ext E21).other W30 (Or.inr (sn_5 hw)))
  have f35 := (((f7.other W13 (Or.inr (sn_6 hw))).ext E21).other W30 (Or.inr (sn_7 hw)))
  have f36 := ((f14.ext E21).other W30 (Or.inr (sn_8 hw)))
  have f37 := ((((F_heldOnes.other W6 (Or.inr (sn_9 hw))).other W13 (Or.inr (sn_10 hw))).ext E21).other W30 (Or.inr (sn_11 hw)))
  have f38 := ((((F_length.other W6 (Or.inr (sn_12 hw))).other W13 (Or.inr (sn_13 hw))).ext E21).other W30 (Or.inr (sn_14 hw)))
  refine ow_return C A28 rfl d1_24 (by decide) (by decide) ?_
  exact ⟨rfl, b18, kk19, ⟨f33, f34, f35, f36, f37, f31, f38, f32, ne24⟩, (ows_b18.elim (fun q => absurd (List.mem_singleton.mp q) (Ne.symm ne24)) id)⟩
set_option maxRecDepth 65536 in
set_option maxHeartbeats 40000000 in
theorem rm_write (l : Launch) (Z : State) (a0 : Array Value) (hw : ∀ d ∈ tables_1, d.before a0 Z = true) (a b : Addr) (kk : ClassId) (lo ra : Int64) (he : Int32) (on : Int64) (bs : List Int32) (p : Int32) (h0 : Heap) (O : Enc Z h0 a b kk lo ra he on bs) (hlen : bs.length < 32) (cs : List Jvm.Cond) :
    OwnCtr l Z (⟨"com/example/phasorwire/phasorwire/RangeEncoder", "write", "(I)V"⟩ : MethodName) prog_64_method_6_code 2 none rmz #[(.ref a), (.int p)] h0 [a, b] (QE Z a b kk lo ra he on (bs ++ [own_by p])) cs := by
  refine ow_ctr pn_13 hw (Ls := #[.val (.ref a), .val (.int p)]) (fun m => by first | (simp [entryFrame, mkF, argsToLocals, Value.category]; done) | rfl) ?_
  intro pG e s m below meth c T0 C A0
  obtain ⟨xE1, xL1, xR1, xH1, xO1, xB1, xN1, xV1, xU1⟩ := O
  refine ow_aloadN C A0 d13_0 rfl rfl rfl ?_
  refine ow_getF C A0 tw_33 Via.refl xN1 d13_1 rfl ?_
  intro T2 A3
  refine ow_aloadN C A3 d13_4 rfl rfl rfl ?_
  refine ow_getF C A3 tw_16 Via.refl xB1 d13_5 rfl ?_
  intro T4 A5
  refine ow_alen C A5 xV1 d13_8 rfl ?_
  refine ow_icmp_ne C A5 d13_9 (by decide) (pcY := 29) (by decide) (pcN := 12) rfl (fun _ => ?_) (fun zq => absurd zq (own_lt32c _ hlen))
  refine ow_aloadN C A5 d13_29 rfl rfl rfl ?_
  refine ow_getF C A5 tw_16 Via.refl xB1 d13_30 rfl ?_
  intro T6 A7
  refine ow_aloadN C A7 d13_33 rfl rfl rfl ?_
  refine ow_dup C A7 d13_34 rfl rfl ?_
  refine ow_getF C A7 tw_33 Via.refl xN1 d13_35 rfl ?_
  intro T8 A9
  refine ow_dup_x1 C A9 d13_38 rfl rfl rfl ?_
  refine ow_iconst C A9 d13_39 (v := 1) rfl rfl ?_
  refine ow_iadd C A9 d13_40 rfl ?_
  rw [own_add1 _ (by omega)]
  refine ow_putF C A9 tw_33 Via.refl xN1 xE1 tw_34 tw_3 (ty := .int) (by decide) rfl rfl (Or.inl (List.mem_of_getElem? (i := 0) rfl)) d13_41 rfl ?_
  intro T10 h12 W13 A11
  have f14 := xN1.same W13
  refine ow_iloadN C A11 d13_44 rfl rfl ?_
  refine ow_i2b C A11 d13_45 rfl ?_
  have f15 := (xV1.other W13 (Ne.symm xU1))
  have V16 := f15.pad (pad_rep (bs.map Value.int) (.int (0 : Int32)) 1)
  refine ow_bastore C A11 V16 (own_inb _ hlen) (i := bs.length) (own_cl _ (by omega)) (own_len bs) (Or.inl (List.mem_of_getElem? (i := 1) rfl)) d13_46 rfl ?_
  intro T17 h19 W20 V21 A18
  have V22 := (own_set bs (own_by p) ▸ (own_byby p ▸ V21))
  have f24 := (f14.other W20 (Or.inl xU1))
  have f23 : Fld Z h19 a "com/example/phasorwire/phasorwire/RangeEncoder" "length" "I" (.int (Int32.ofNat (bs ++ [own_by p]).length)) := by have q := f24; rw [List.length_append]; exact q
  have f25 := ((xE1.wr W13).wr W20)
  have f26 := ((xL1.other W13 (Or.inr (sn_15 hw))).other W20 (Or.inl xU1))
  have f27 := ((xR1.other W13 (Or.inr (sn_16 hw))).other W20 (Or.inl xU1))
  have f28 := ((xH1.other W13 (Or.inr (sn_17 hw))).other W20 (Or.inl xU1))
  have f29 := ((xO1.other W13 (Or.inr (sn_18 hw))).other W20 (Or.inl xU1))
  have f30 := ((xB1.other W13 (Or.inr (sn_19 hw))).other W20 (Or.inl xU1))
  refine ow_return C A18 rfl d13_47 (by decide) (by decide) ?_
  exact ⟨rfl, ⟨f25, f26, f27, f28, f29, f30, f23, V22, xU1⟩⟩
set_option maxRecDepth 65536 in
set_option maxHeartbeats 40000000 in
theorem shift_loop {p : Program} {l : Launch} {e : Env} {s : State} {m : MethodId} {args : Array Value} {below : List Frame} {meth : Method} {c : Code} {Z : State} {a0 : Array Value} {h0 : Heap} {Q : Option Value → Heap → Prop} (hw : ∀ d ∈ tables_1, d.before a0 Z = true) (C : OwnCtx p s m meth c Z a0 tables_1 (⟨"com/example/phasorwire/phasorwire/RangeEncoder", "shift", "()V"⟩ : MethodName) prog_64_method_5_code 2 none) (a b : Addr) (kk : ClassId) (lo ra : Int64) (he ca : Int32) :
    ∀ (t : Nat) (T : State) (h : Heap) (on : Int64) (bs : List Int32), OwnPos p l e rmh s m args below meth c h0 [a, b] T h 0 0 → Enc Z h a b kk lo ra he on bs → on.toInt = t → bs.length + t ≤ 32 → (∀ (T' : State) (h' : Heap), OwnPos p l e rmh s m args below meth c h0 [a, b] T' h' 0 0 → Enc Z h' a b kk lo ra he 0 (bs ++ List.replicate t (own_by (255 + ca))) → OwnWP p e below s h0 [a, b] Q rmh.cells rmh.slots T' (mkF m 79 #[.val (.ref a), .val (.int ca)] [])) → OwnWP p e below s h0 [a, b] Q rmh.cells rmh.slots T (mkF m 48 #[.val (.ref a), .val (.int ca)] []) := by
  intro t
  induction t with
  | zero =>
    intro T h on bs A O hon hlen k
    obtain rfl := own_z64 on hon
    obtain ⟨xE1, xL1, xR1, xH1, xO1, xB1, xN1, xV1, xU1⟩ := O
    refine ow_aloadN C A d4_48 rfl rfl rfl ?_
    refine ow_getF C A tw_30 Via.refl xO1 d4_49 rfl ?_
    intro T2 A3
    refine ow_lconst C A3 d4_52 (v := 0) rfl rfl ?_
    refine ow_lcmp_le C A3 d4_53 rfl d4_54 (by decide) (pcY := 79) (by decide) (pcN := 57) rfl (fun _ => ?_) (fun zq => absurd zq (by decide))
    exact k _ _ A3 (by rw [List.replicate_zero, List.append_nil]; exact (⟨xE1, xL1, xR1, xH1, xO1, xB1, xN1, xV1, xU1⟩ : Enc Z h a b kk lo ra he 0 bs))
  | succ t ih =>
    intro T h on bs A O hon hlen k
    obtain ⟨xE4, xL4, xR4, xH4, xO4, xB4, xN4, xV4, xU4⟩ := O
    refine ow_aloadN C A d4_48 rfl rfl rfl ?_
    refine ow_getF C A tw_30 Via.refl xO4 d4_49 rfl ?_
    intro T5 A6
    refine ow_lconst C A6 d4_52 (v := 0) rfl rfl ?_
    refine ow_lcmp_le C A6 d4_53 rfl d4_54 (by decide) (pcY := 79) (by decide) (pcN := 57) rfl (fun zq => absurd (own_lt64 (by show 0 < on.toInt; omega)) zq) (fun _ => ?_)
    refine ow_aloadN C A6 d4_57 rfl rfl rfl ?_
    refine ow_sipush C A6 d4_58 (v := 255) rfl rfl ?_
    refine ow_iloadN C A6 d4_61 rfl rfl ?_
    refine ow_iadd C A6 d4_62 rfl ?_
    refine ow_callP C A6 (argsL := [(.int ((255 : Int32) + ca))]) xE4 (rm_write l Z a0 hw a b kk lo ra he on bs ((255 : Int32) + ca) h ⟨xE4, xL4, xR4, xH4, xO4, xB4, xN4, xV4, xU4⟩  (by omega) []) tw_93 tw_95 tw_3 tw_94 tw_4 tw_96 (by decide) (allS (Or.inl (List.mem_of_getElem? (i := 0) rfl)) (allS (Or.inl (List.mem_of_getElem? (i := 1) rfl)) all0)) (by decide) (by decide) (ck' := 0) (sk' := 0) rfl rfl (by decide) (by decide) rfl (lenOf pd_0 rfl) (S := []) rfl (W := 0) (Nat.le_of_eq rfl) d4_63 rfl ?_
    intro T7 v7 K7 hQ7 A7
    obtain ⟨rfl, O7⟩ := hQ7
    show OwnWP _ _ _ _ _ _ _ _ _ T7 (mkF m 66 #[.val (.ref a), .val (.int ca)] [])
    obtain ⟨xE8, xL8, xR8, xH8, xO8, xB8, xN8, xV8, xU8⟩ := O7
    refine ow_aloadN C A7 d4_66 rfl rfl rfl ?_
    refine ow_dup C A7 d4_67 rfl rfl ?_
    refine ow_getF C A7 tw_30 Via.refl xO8 d4_68 rfl ?_
    intro T9 A10
    refine ow_lconst C A10 d4_71 (v := 1) rfl rfl ?_
    refine ow_lsub C A10 d4_72 rfl ?_
    refine ow_putF C A10 tw_30 Via.refl xO8 xE8 tw_31 tw_3 (ty := .long) (by decide) rfl rfl (Or.inl (List.mem_of_getElem? (i := 0) rfl)) d4_73 rfl ?_
    intro T11 h13 W14 A12
    have f15 := xO8.same W14
    refine ow_goto C A12 d4_76 (by decide) (pc' := 48) (by decide) ?_
    have f16 := (xE8.wr W14)
    have f17 := (xL8.other W14 (Or.inr (sn_20 hw)))
    have f18 := (xR8.other W14 (Or.inr (sn_21 hw)))
    have f19 := (xH8.other W14 (Or.inr (sn_22 hw)))
    have f20 := (xB8.other W14 (Or.inr (sn_23 hw)))
    have f21 := (xN8.other W14 (Or.inr (sn_24 hw)))
    have f22 := (xV8.other W14 (Ne.symm xU8))
    exact ih _ _ _ _ A12 (⟨f16, f17, f18, f19, f15, f20, f21, f22, xU8⟩ : Enc Z h13 a b kk lo ra he (on - 1) (bs ++ [own_by ((255 : Int32) + ca)])) (own_dec on t hon) (by simp only [List.length_append, List.length_cons, List.length_nil]; omega) (fun T' h' A' O' => k T' h' A' (own_rep bs _ t ▸ O'))
set_option maxRecDepth 65536 in
set_option maxHeartbeats 40000000 in
theorem rm_shift (l : Launch) (Z : State) (a0 : Array Value) (hw : ∀ d ∈ tables_1, d.before a0 Z = true) (a b : Addr) (kk : ClassId) (lo ra : Int64) (he : Int32) (on : Int64) (bs : List Int32) (h0 : Heap) (O : Enc Z h0 a b kk lo ra he on bs) (hon : 0 ≤ on.toInt) (hlen : bs.length + 1 + on.toInt.toNat ≤ 32) (cs : List Jvm.Cond) :
    OwnCtr l Z (⟨"com/example/phasorwire/phasorwire/RangeEncoder", "shift", "()V"⟩ : MethodName) prog_64_method_5_code 2 none rmh #[(.ref a)] h0 [a, b] (QS Z a b kk lo ra he on bs) cs := by
  refine ow_ctr pn_4 hw (Ls := #[.val (.ref a), .unset]) (fun m => by first | (simp [entryFrame, mkF, argsToLocals, Value.category]; done) | rfl) ?_
  intro p e s m below meth c T0 C A0
  obtain ⟨xE1, xL1, xR1, xH1, xO1, xB1, xN1, xV1, xU1⟩ := O
  refine ow_aloadN C A0 d4_0 rfl rfl rfl ?_
  refine ow_getF C A0 tw_23 Via.refl xL1 d4_1 rfl ?_
  intro T2 A3
  refine ow_ldc2 C A3 tw_29 d4_4 rfl ?_
  refine ow_lcmp_lt C A3 d4_7 rfl d4_8 (by decide) (pcY := 22) (by decide) (pcN := 11) rfl (fun hc7 => ?_) (fun hc7 => ?_)
  · skip
    refine ow_aloadN C A3 d4_22 rfl rfl rfl ?_
    refine ow_getF C A3 tw_23 Via.refl xL1 d4_23 rfl ?_
    intro T4 A5
    refine ow_bipush C A5 d4_26 (v := 32) rfl rfl ?_
    refine ow_lushr C A5 d4_28 rfl ?_
    refine ow_l2i C A5 d4_29 rfl ?_
    refine ow_istoreN C A5 d4_30 (Ls' := #[.val (.ref a), .val (.int (own_ushrL lo (32 : Int32)).toInt32)]) rfl rfl ?_
    refine ow_aloadN C A5 d4_31 rfl rfl rfl ?_
    refine ow_getF C A5 tw_14 Via.refl xH1 d4_32 rfl ?_
    intro T6 A7
    refine ow_if_lt C A7 d4_35 (by decide) (pcY := 48) (by decide) (pcN := 38) rfl (fun hc35 => ?_) (fun hc35 => ?_)
    · skip
      refine shift_loop hw C a b kk lo ra he (own_ushrL lo (32 : Int32)).toInt32 on.toInt.toNat _ _ on (bs) A7 ⟨xE1, xL1, xR1, xH1, xO1, xB1, xN1, xV1, xU1⟩ (by omega) (by omega) ?_
      intro T8 h8 A8 O8
      obtain ⟨xE9, xL9, xR9, xH9, xO9, xB9, xN9, xV9, xU9⟩ := O8
      refine ow_aloadN C A8 d4_79 rfl rfl rfl ?_
      refine ow_aloadN C A8 d4_80 rfl rfl rfl ?_
      refine ow_getF C A8 tw_23 Via.refl xL9 d4_81 rfl ?_
      intro T10 A11
      refine ow_bipush C A11 d4_84 (v := 24) rfl rfl ?_
      refine ow_lushr C A11 d4_86 rfl ?_
      refine ow_l2i C A11 d4_87 rfl ?_
      refine ow_sipush C A11 d4_88 (v := 255) rfl rfl ?_
      refine ow_iand C A11 d4_91 rfl ?_
      refine ow_putF C A11 tw_14 Via.refl xH9 xE9 tw_15 tw_3 (ty := .int) (by decide) rfl rfl (Or.inl (List.mem_of_getElem? (i := 0) rfl)) d4_92 rfl ?_
      intro T12 h14 W15 A13
      have f16 := xH9.same W15
      refine ow_goto C A13 d4_95 (by decide) (pc' := 108) (by decide) ?_
      refine ow_aloadN C A13 d4_108 rfl rfl rfl ?_
      refine ow_aloadN C A13 d4_109 rfl rfl rfl ?_
      have f17 := (xL9.other W15 (Or.inr (sn_4 hw)))
      refine ow_getF C A13 tw_23 Via.refl f17 d4_110 rfl ?_
      intro T18 A19
      refine ow_ldc2 C A19 tw_32 d4_113 rfl ?_
      refine ow_land C A19 d4_116 rfl ?_
      refine ow_bipush C A19 d4_117 (v := 8) rfl rfl ?_
      refine ow_lshl C A19 d4_119 rfl ?_
      have f20 := (xE9.wr W15)
      refine ow_putF C A19 tw_23 Via.refl f17 f20 tw_24 tw_3 (ty := .long) (by decide) rfl rfl (Or.inl (List.mem_of_getElem? (i := 0) rfl)) d4_120 rfl ?_
      intro T21 h23 W24 A22
      have f25 := f17.same W24
      have eb26 : ((bs) ++ List.replicate on.toInt.toNat (own_by (255 + (own_ushrL lo (32 : Int32)).toInt32))) = sh_bs lo he on bs := by unfold sh_bs sh_b1; rw [if_pos hc35]; rfl
      have f27 := (f20.wr W24)
      have f28 := ((xR9.other W15 (Or.inr (sn_6 hw))).other W24 (Or.inr (sn_25 hw)))
      have f29 := (f16.other W24 (Or.inr (sn_26 hw)))
      have f30 := ((xO9.other W15 (Or.inr (sn_10 hw))).other W24 (Or.inr (sn_27 hw)))
      have f31 := ((xB9.other W15 (Or.inr (sn_2 hw))).other W24 (Or.inr (sn_28 hw)))
      have f32 := ((xN9.other W15 (Or.inr (sn_13 hw))).other W24 (Or.inr (sn_29 hw)))
      have f33 := ((xV9.other W15 (Ne.symm xU9)).other W24 (Ne.symm xU9))
      have O9 : Enc Z h23 a b kk (sh_lo lo) ra (sh_he lo) 0 (((bs) ++ List.replicate on.toInt.toNat (own_by (255 + (own_ushrL lo (32 : Int32)).toInt32)))) := ⟨f27, f25, f28, f29, f30, f31, f32, f33, xU9⟩
      rw [eb26] at O9
      refine ow_return C A22 rfl d4_123 (by decide) (by decide) ?_
      exact ⟨rfl, Or.inl ⟨(Or.inl hc7), O9⟩⟩
    · skip
      refine ow_aloadN C A7 d4_38 rfl rfl rfl ?_
      refine ow_aloadN C A7 d4_39 rfl rfl rfl ?_
      refine ow_getF C A7 tw_14 Via.refl xH1 d4_40 rfl ?_
      intro T34 A35
      refine ow_iloadN C A35 d4_43 rfl rfl ?_
      refine ow_iadd C A35 d4_44 rfl ?_
      refine ow_callP C A35 (argsL := [(.int (he + (own_ushrL lo (32 : Int32)).toInt32))]) xE1 (rm_write l Z a0 hw a b kk lo ra he on bs (he + (own_ushrL lo (32 : Int32)).toInt32) h0 ⟨xE1, xL1, xR1, xH1, xO1, xB1, xN1, xV1, xU1⟩  (by omega) []) tw_93 tw_95 tw_3 tw_94 tw_4 tw_96 (by decide) (allS (Or.inl (List.mem_of_getElem? (i := 0) rfl)) (allS (Or.inl (List.mem_of_getElem? (i := 1) rfl)) all0)) (by decide) (by decide) (ck' := 0) (sk' := 0) rfl rfl (by decide) (by decide) rfl (lenOf pd_0 rfl) (S := []) rfl (W := 0) (Nat.le_of_eq rfl) d4_45 rfl ?_
      intro T36 v36 K36 hQ36 A36
      obtain ⟨rfl, O36⟩ := hQ36
      show OwnWP _ _ _ _ _ _ _ _ _ T36 (mkF m 48 #[.val (.ref a), .val (.int (own_ushrL lo (32 : Int32)).toInt32)] [])
      obtain ⟨xE37, xL37, xR37, xH37, xO37, xB37, xN37, xV37, xU37⟩ := O36
      refine shift_loop hw C a b kk lo ra he (own_ushrL lo (32 : Int32)).toInt32 on.toInt.toNat _ _ on ((bs ++ [own_by (he + (own_ushrL lo (32 : Int32)).toInt32)])) A36 ⟨xE37, xL37, xR37, xH37, xO37, xB37, xN37, xV37, xU37⟩ (by omega) (by simp only [List.length_append, List.length_cons, List.length_nil]; omega) ?_
      intro T38 h38 A38 O38
      obtain ⟨xE39, xL39, xR39, xH39, xO39, xB39, xN39, xV39, xU39⟩ := O38
      refine ow_aloadN C A38 d4_79 rfl rfl rfl ?_
      refine ow_aloadN C A38 d4_80 rfl rfl rfl ?_
      refine ow_getF C A38 tw_23 Via.refl xL39 d4_81 rfl ?_
      intro T40 A41
      refine ow_bipush C A41 d4_84 (v := 24) rfl rfl ?_
      refine ow_lushr C A41 d4_86 rfl ?_
      refine ow_l2i C A41 d4_87 rfl ?_
      refine ow_sipush C A41 d4_88 (v := 255) rfl rfl ?_
      refine ow_iand C A41 d4_91 rfl ?_
      refine ow_putF C A41 tw_14 Via.refl xH39 xE39 tw_15 tw_3 (ty := .int) (by decide) rfl rfl (Or.inl (List.mem_of_getElem? (i := 0) rfl)) d4_92 rfl ?_
      intro T42 h44 W45 A43
      have f46 := xH39.same W45
      refine ow_goto C A43 d4_95 (by decide) (pc' := 108) (by decide) ?_
      refine ow_aloadN C A43 d4_108 rfl rfl rfl ?_
      refine ow_aloadN C A43 d4_109 rfl rfl rfl ?_
      have f47 := (xL39.other W45 (Or.inr (sn_4 hw)))
      refine ow_getF C A43 tw_23 Via.refl f47 d4_110 rfl ?_
      intro T48 A49
      refine ow_ldc2 C A49 tw_32 d4_113 rfl ?_
      refine ow_land C A49 d4_116 rfl ?_
      refine ow_bipush C A49 d4_117 (v := 8) rfl rfl ?_
      refine ow_lshl C A49 d4_119 rfl ?_
      have f50 := (xE39.wr W45)
      refine ow_putF C A49 tw_23 Via.refl f47 f50 tw_24 tw_3 (ty := .long) (by decide) rfl rfl (Or.inl (List.mem_of_getElem? (i := 0) rfl)) d4_120 rfl ?_
      intro T51 h53 W54 A52
      have f55 := f47.same W54
      have eb56 : (((bs ++ [own_by (he + (own_ushrL lo (32 : Int32)).toInt32)])) ++ List.replicate on.toInt.toNat (own_by (255 + (own_ushrL lo (32 : Int32)).toInt32))) = sh_bs lo he on bs := by unfold sh_bs sh_b1; rw [if_neg hc35]; rfl
      have f57 := (f50.wr W54)
      have f58 := ((xR39.other W45 (Or.inr (sn_6 hw))).other W54 (Or.inr (sn_25 hw)))
      have f59 := (f46.other W54 (Or.inr (sn_26 hw)))
      have f60 := ((xO39.other W45 (Or.inr (sn_10 hw))).other W54 (Or.inr (sn_27 hw)))
      have f61 := ((xB39.other W45 (Or.inr (sn_2 hw))).other W54 (Or.inr (sn_28 hw)))
      have f62 := ((xN39.other W45 (Or.inr (sn_13 hw))).other W54 (Or.inr (sn_29 hw)))
      have f63 := ((xV39.other W45 (Ne.symm xU39)).other W54 (Ne.symm xU39))
      have O9 : Enc Z h53 a b kk (sh_lo lo) ra (sh_he lo) 0 ((((bs ++ [own_by (he + (own_ushrL lo (32 : Int32)).toInt32)])) ++ List.replicate on.toInt.toNat (own_by (255 + (own_ushrL lo (32 : Int32)).toInt32)))) := ⟨f57, f55, f58, f59, f60, f61, f62, f63, xU39⟩
      rw [eb56] at O9
      refine ow_return C A52 rfl d4_123 (by decide) (by decide) ?_
      exact ⟨rfl, Or.inl ⟨(Or.inl hc7), O9⟩⟩
  · skip
    refine ow_aloadN C A3 d4_11 rfl rfl rfl ?_
    refine ow_getF C A3 tw_23 Via.refl xL1 d4_12 rfl ?_
    intro T64 A65
    refine ow_ldc2 C A65 tw_105 d4_15 rfl ?_
    refine ow_lcmp_lt C A65 d4_18 rfl d4_19 (by decide) (pcY := 98) (by decide) (pcN := 22) rfl (fun hc18 => ?_) (fun hc18 => ?_)
    · skip
      refine ow_aloadN C A65 d4_98 rfl rfl rfl ?_
      refine ow_dup C A65 d4_99 rfl rfl ?_
      refine ow_getF C A65 tw_30 Via.refl xO1 d4_100 rfl ?_
      intro T66 A67
      refine ow_lconst C A67 d4_103 (v := 1) rfl rfl ?_
      refine ow_ladd C A67 d4_104 rfl ?_
      refine ow_putF C A67 tw_30 Via.refl xO1 xE1 tw_31 tw_3 (ty := .long) (by decide) rfl rfl (Or.inl (List.mem_of_getElem? (i := 0) rfl)) d4_105 rfl ?_
      intro T68 h70 W71 A69
      have f72 := xO1.same W71
      refine ow_aloadN C A69 d4_108 rfl rfl rfl ?_
      refine ow_aloadN C A69 d4_109 rfl rfl rfl ?_
      have f73 := (xL1.other W71 (Or.inr (sn_20 hw)))
      refine ow_getF C A69 tw_23 Via.refl f73 d4_110 rfl ?_
      intro T74 A75
      refine ow_ldc2 C A75 tw_32 d4_113 rfl ?_
      refine ow_land C A75 d4_116 rfl ?_
      refine ow_bipush C A75 d4_117 (v := 8) rfl rfl ?_
      refine ow_lshl C A75 d4_119 rfl ?_
      have f76 := (xE1.wr W71)
      refine ow_putF C A75 tw_23 Via.refl f73 f76 tw_24 tw_3 (ty := .long) (by decide) rfl rfl (Or.inl (List.mem_of_getElem? (i := 0) rfl)) d4_120 rfl ?_
      intro T77 h79 W80 A78
      have f81 := f73.same W80
      have f82 := (f76.wr W80)
      have f83 := ((xR1.other W71 (Or.inr (sn_21 hw))).other W80 (Or.inr (sn_25 hw)))
      have f84 := ((xH1.other W71 (Or.inr (sn_22 hw))).other W80 (Or.inr (sn_26 hw)))
      have f85 := (f72.other W80 (Or.inr (sn_27 hw)))
      have f86 := ((xB1.other W71 (Or.inr (sn_23 hw))).other W80 (Or.inr (sn_28 hw)))
      have f87 := ((xN1.other W71 (Or.inr (sn_24 hw))).other W80 (Or.inr (sn_29 hw)))
      have f88 := ((xV1.other W71 (Ne.symm xU1)).other W80 (Ne.symm xU1))
      refine ow_return C A78 rfl d4_123 (by decide) (by decide) ?_
      exact ⟨rfl, Or.inr ⟨fun z => z.elim hc7 (fun y => y hc18), ⟨f82, f81, f83, f84, f85, f86, f87, f88, xU1⟩⟩⟩
    · skip
      refine ow_aloadN C A65 d4_22 rfl rfl rfl ?_
      refine ow_getF C A65 tw_23 Via.refl xL1 d4_23 rfl ?_
      intro T89 A90
      refine ow_bipush C A90 d4_26 (v := 32) rfl rfl ?_
      refine ow_lushr C A90 d4_28 rfl ?_
      refine ow_l2i C A90 d4_29 rfl ?_
      refine ow_istoreN C A90 d4_30 (Ls' := #[.val (.ref a), .val (.int (own_ushrL lo (32 : Int32)).toInt32)]) rfl rfl ?_
      refine ow_aloadN C A90 d4_31 rfl rfl rfl ?_
      refine ow_getF C A90 tw_14 Via.refl xH1 d4_32 rfl ?_
      intro T91 A92
      refine ow_if_lt C A92 d4_35 (by decide) (pcY := 48) (by decide) (pcN := 38) rfl (fun hc35 => ?_) (fun hc35 => ?_)
      · skip
        refine shift_loop hw C a b kk lo ra he (own_ushrL lo (32 : Int32)).toInt32 on.toInt.toNat _ _ on (bs) A92 ⟨xE1, xL1, xR1, xH1, xO1, xB1, xN1, xV1, xU1⟩ (by omega) (by omega) ?_
        intro T93 h93 A93 O93
        obtain ⟨xE94, xL94, xR94, xH94, xO94, xB94, xN94, xV94, xU94⟩ := O93
        refine ow_aloadN C A93 d4_79 rfl rfl rfl ?_
        refine ow_aloadN C A93 d4_80 rfl rfl rfl ?_
        refine ow_getF C A93 tw_23 Via.refl xL94 d4_81 rfl ?_
        intro T95 A96
        refine ow_bipush C A96 d4_84 (v := 24) rfl rfl ?_
        refine ow_lushr C A96 d4_86 rfl ?_
        refine ow_l2i C A96 d4_87 rfl ?_
        refine ow_sipush C A96 d4_88 (v := 255) rfl rfl ?_
        refine ow_iand C A96 d4_91 rfl ?_
        refine ow_putF C A96 tw_14 Via.refl xH94 xE94 tw_15 tw_3 (ty := .int) (by decide) rfl rfl (Or.inl (List.mem_of_getElem? (i := 0) rfl)) d4_92 rfl ?_
        intro T97 h99 W100 A98
        have f101 := xH94.same W100
        refine ow_goto C A98 d4_95 (by decide) (pc' := 108) (by decide) ?_
        refine ow_aloadN C A98 d4_108 rfl rfl rfl ?_
        refine ow_aloadN C A98 d4_109 rfl rfl rfl ?_
        have f102 := (xL94.other W100 (Or.inr (sn_4 hw)))
        refine ow_getF C A98 tw_23 Via.refl f102 d4_110 rfl ?_
        intro T103 A104
        refine ow_ldc2 C A104 tw_32 d4_113 rfl ?_
        refine ow_land C A104 d4_116 rfl ?_
        refine ow_bipush C A104 d4_117 (v := 8) rfl rfl ?_
        refine ow_lshl C A104 d4_119 rfl ?_
        have f105 := (xE94.wr W100)
        refine ow_putF C A104 tw_23 Via.refl f102 f105 tw_24 tw_3 (ty := .long) (by decide) rfl rfl (Or.inl (List.mem_of_getElem? (i := 0) rfl)) d4_120 rfl ?_
        intro T106 h108 W109 A107
        have f110 := f102.same W109
        have eb111 : ((bs) ++ List.replicate on.toInt.toNat (own_by (255 + (own_ushrL lo (32 : Int32)).toInt32))) = sh_bs lo he on bs := by unfold sh_bs sh_b1; rw [if_pos hc35]; rfl
        have f112 := (f105.wr W109)
        have f113 := ((xR94.other W100 (Or.inr (sn_6 hw))).other W109 (Or.inr (sn_25 hw)))
        have f114 := (f101.other W109 (Or.inr (sn_26 hw)))
        have f115 := ((xO94.other W100 (Or.inr (sn_10 hw))).other W109 (Or.inr (sn_27 hw)))
        have f116 := ((xB94.other W100 (Or.inr (sn_2 hw))).other W109 (Or.inr (sn_28 hw)))
        have f117 := ((xN94.other W100 (Or.inr (sn_13 hw))).other W109 (Or.inr (sn_29 hw)))
        have f118 := ((xV94.other W100 (Ne.symm xU94)).other W109 (Ne.symm xU94))
        have O9 : Enc Z h108 a b kk (sh_lo lo) ra (sh_he lo) 0 (((bs) ++ List.replicate on.toInt.toNat (own_by (255 + (own_ushrL lo (32 : Int32)).toInt32)))) := ⟨f112, f110, f113, f114, f115, f116, f117, f118, xU94⟩
        rw [eb111] at O9
        refine ow_return C A107 rfl d4_123 (by decide) (by decide) ?_
        exact ⟨rfl, Or.inl ⟨(Or.inr hc18), O9⟩⟩
      · skip
        refine ow_aloadN C A92 d4_38 rfl rfl rfl ?_
        refine ow_aloadN C A92 d4_39 rfl rfl rfl ?_
        refine ow_getF C A92 tw_14 Via.refl xH1 d4_40 rfl ?_
        intro T119 A120
        refine ow_iloadN C A120 d4_43 rfl rfl ?_
        refine ow_iadd C A120 d4_44 rfl ?_
        refine ow_callP C A120 (argsL := [(.int (he + (own_ushrL lo (32 : Int32)).toInt32))]) xE1 (rm_write l Z a0 hw a b kk lo ra he on bs (he + (own_ushrL lo (32 : Int32)).toInt32) h0 ⟨xE1, xL1, xR1, xH1, xO1, xB1, xN1, xV1, xU1⟩  (by omega) []) tw_93 tw_95 tw_3 tw_94 tw_4 tw_96 (by decide) (allS (Or.inl (List.mem_of_getElem? (i := 0) rfl)) (allS (Or.inl (List.mem_of_getElem? (i := 1) rfl)) all0)) (by decide) (by decide) (ck' := 0) (sk' := 0) rfl rfl (by decide) (by decide) rfl (lenOf pd_0 rfl) (S := []) rfl (W := 0) (Nat.le_of_eq rfl) d4_45 rfl ?_
        intro T121 v121 K121 hQ121 A121
        obtain ⟨rfl, O121⟩ := hQ121
        show OwnWP _ _ _ _ _ _ _ _ _ T121 (mkF m 48 #[.val (.ref a), .val (.int (own_ushrL lo (32 : Int32)).toInt32)] [])
        obtain ⟨xE122, xL122, xR122, xH122, xO122, xB122, xN122, xV122, xU122⟩ := O121
        refine shift_loop hw C a b kk lo ra he (own_ushrL lo (32 : Int32)).toInt32 on.toInt.toNat _ _ on ((bs ++ [own_by (he + (own_ushrL lo (32 : Int32)).toInt32)])) A121 ⟨xE122, xL122, xR122, xH122, xO122, xB122, xN122, xV122, xU122⟩ (by omega) (by simp only [List.length_append, List.length_cons, List.length_nil]; omega) ?_
        intro T123 h123 A123 O123
        obtain ⟨xE124, xL124, xR124, xH124, xO124, xB124, xN124, xV124, xU124⟩ := O123
        refine ow_aloadN C A123 d4_79 rfl rfl rfl ?_
        refine ow_aloadN C A123 d4_80 rfl rfl rfl ?_
        refine ow_getF C A123 tw_23 Via.refl xL124 d4_81 rfl ?_
        intro T125 A126
        refine ow_bipush C A126 d4_84 (v := 24) rfl rfl ?_
        refine ow_lushr C A126 d4_86 rfl ?_
        refine ow_l2i C A126 d4_87 rfl ?_
        refine ow_sipush C A126 d4_88 (v := 255) rfl rfl ?_
        refine ow_iand C A126 d4_91 rfl ?_
        refine ow_putF C A126 tw_14 Via.refl xH124 xE124 tw_15 tw_3 (ty := .int) (by decide) rfl rfl (Or.inl (List.mem_of_getElem? (i := 0) rfl)) d4_92 rfl ?_
        intro T127 h129 W130 A128
        have f131 := xH124.same W130
        refine ow_goto C A128 d4_95 (by decide) (pc' := 108) (by decide) ?_
        refine ow_aloadN C A128 d4_108 rfl rfl rfl ?_
        refine ow_aloadN C A128 d4_109 rfl rfl rfl ?_
        have f132 := (xL124.other W130 (Or.inr (sn_4 hw)))
        refine ow_getF C A128 tw_23 Via.refl f132 d4_110 rfl ?_
        intro T133 A134
        refine ow_ldc2 C A134 tw_32 d4_113 rfl ?_
        refine ow_land C A134 d4_116 rfl ?_
        refine ow_bipush C A134 d4_117 (v := 8) rfl rfl ?_
        refine ow_lshl C A134 d4_119 rfl ?_
        have f135 := (xE124.wr W130)
        refine ow_putF C A134 tw_23 Via.refl f132 f135 tw_24 tw_3 (ty := .long) (by decide) rfl rfl (Or.inl (List.mem_of_getElem? (i := 0) rfl)) d4_120 rfl ?_
        intro T136 h138 W139 A137
        have f140 := f132.same W139
        have eb141 : (((bs ++ [own_by (he + (own_ushrL lo (32 : Int32)).toInt32)])) ++ List.replicate on.toInt.toNat (own_by (255 + (own_ushrL lo (32 : Int32)).toInt32))) = sh_bs lo he on bs := by unfold sh_bs sh_b1; rw [if_neg hc35]; rfl
        have f142 := (f135.wr W139)
        have f143 := ((xR124.other W130 (Or.inr (sn_6 hw))).other W139 (Or.inr (sn_25 hw)))
        have f144 := (f131.other W139 (Or.inr (sn_26 hw)))
        have f145 := ((xO124.other W130 (Or.inr (sn_10 hw))).other W139 (Or.inr (sn_27 hw)))
        have f146 := ((xB124.other W130 (Or.inr (sn_2 hw))).other W139 (Or.inr (sn_28 hw)))
        have f147 := ((xN124.other W130 (Or.inr (sn_13 hw))).other W139 (Or.inr (sn_29 hw)))
        have f148 := ((xV124.other W130 (Ne.symm xU124)).other W139 (Ne.symm xU124))
        have O9 : Enc Z h138 a b kk (sh_lo lo) ra (sh_he lo) 0 ((((bs ++ [own_by (he + (own_ushrL lo (32 : Int32)).toInt32)])) ++ List.replicate on.toInt.toNat (own_by (255 + (own_ushrL lo (32 : Int32)).toInt32)))) := ⟨f142, f140, f143, f144, f145, f146, f147, f148, xU124⟩
        rw [eb141] at O9
        refine ow_return C A137 rfl d4_123 (by decide) (by decide) ?_
        exact ⟨rfl, Or.inl ⟨(Or.inr hc18), O9⟩⟩
set_option maxRecDepth 65536 in
set_option maxHeartbeats 40000000 in
theorem rm_copy (l : Launch) (Z : State) (a0 : Array Value) (hw : ∀ d ∈ tables_1, d.before a0 Z = true) (a : Addr) (kk : ClassId) (z n : Int32) (k : Nat) (vs : List Value) (h0 : Heap) (Va : Arv Z h0 a kk .byte z vs (.int (0 : Int32))) (hne : ¬ (n = z)) (hn0 : ¬ (n < 0)) (hn32 : n.toNatClampNeg ≤ 32) (hm0 : ¬ (own_min z n < 0)) (hmk : (own_min z n).toNatClampNeg = k) (hm1 : (0 : Int32).toNatClampNeg + (own_min z n).toNatClampNeg ≤ z.toNatClampNeg) (hm2 : (0 : Int32).toNatClampNeg + (own_min z n).toNatClampNeg ≤ n.toNatClampNeg) (cs : List Jvm.Cond) :
    OwnCtr l Z (⟨"java/util/Arrays", "copyOf", "([BI)[B"⟩ : MethodName) jdk_65_method_121_code 3 (some (.array .byte)) rmc #[(.ref a), (.int n)] h0 [] (QY Z h0 n ((List.range k).map fun i => vs.getD i (.int (0 : Int32)))) cs := by
  refine ow_ctr pn_5 hw (Ls := #[.val (.ref a), .val (.int n), .unset]) (fun m => by first | (simp [entryFrame, mkF, argsToLocals, Value.category]; done) | rfl) ?_
  intro p e s m below meth c T0 C A0
  refine ow_iloadN C A0 d5_0 rfl rfl ?_
  refine ow_aloadN C A0 d5_1 rfl rfl rfl ?_
  refine ow_alen C A0 Va d5_2 rfl ?_
  refine ow_icmp_ne C A0 d5_3 (by decide) (pcY := 14) (by decide) (pcN := 6) rfl (fun _ => ?_) (fun zq => absurd zq (hne))
  refine ow_iloadN C A0 d5_14 rfl rfl ?_
  refine ow_newA C A0 (ty := .byte) rfl tw_1 d5_15 rfl hn0 (cap := 32) hn32 (by decide) (ck' := 1) (sk' := 32) rfl rfl (by decide) (by decide) ?_
  intro T1 h3 b4 kk5 g6 E7 V8 A2
  have ne9 : a ≠ b4 := Nat.ne_of_lt (Nat.lt_of_lt_of_le Va.lt (Nat.le_of_eq g6.symm))
  have ows_b4 : b4 ∈ ([] : List Addr) ∨ h0.size ≤ b4 := Or.inr (Nat.le_trans (ow_le A0) (Nat.le_of_eq g6.symm))
  refine ow_astoreN C A2 d5_17 rfl (Ls' := #[.val (.ref a), .val (.int n), .val (.ref b4)]) rfl rfl ?_
  refine ow_aloadN C A2 d5_18 rfl rfl rfl ?_
  refine ow_iconst C A2 d5_19 (v := 0) rfl rfl ?_
  refine ow_aloadN C A2 d5_20 rfl rfl rfl ?_
  refine ow_iconst C A2 d5_21 (v := 0) rfl rfl ?_
  refine ow_aloadN C A2 d5_22 rfl rfl rfl ?_
  have f10 := (Va.ext E7)
  refine ow_alen C A2 f10 d5_23 rfl ?_
  refine ow_iloadN C A2 d5_24 rfl rfl ?_
  refine ow_callS C A2 (argsL := [(.int z), (.int n)]) (rm_min l Z a0 hw z n h3 []) tw_39 tw_40 tw_41 tw_42 (by decide) all0 (by decide) (by decide) (ck' := 1) (sk' := 32) rfl rfl (by decide) (by decide) rfl (lenOf pd_1 rfl) (S := [(.int (0 : Int32)), (.ref b4), (.int (0 : Int32)), (.ref a)]) rfl (W := 4) (Nat.le_of_eq rfl) d5_25 rfl ?_
  intro T11 v11 K11 hQ11 A11
  obtain ⟨rfl, ee11⟩ := hQ11
  rw [ee11] at A11 K11
  show OwnWP _ _ _ _ _ _ _ _ _ T11 (mkF m 28 #[.val (.ref a), .val (.int n), .val (.ref b4)] [(.int (own_min z n)), (.int (0 : Int32)), (.ref b4), (.int (0 : Int32)), (.ref a)])
  have V12 : Arv Z h3 b4 kk5 .byte n (List.replicate k (.int (0 : Int32))) (.int (0 : Int32)) := V8.pad (pad_rep [] (.int (0 : Int32)) k)
  refine ow_acopy C A11 tw_43 tw_46 tw_44 tw_45 f10 V12 rfl (by decide) (by decide) hm0 hm1 hm2 (us := ((List.range k).map fun i => vs.getD i (.int (0 : Int32)))) (by rw [hmk]; simp) (by rw [hmk]; simp) (ows_b4.elim (fun q => nomatch q) id) rfl d5_28 rfl (by decide) (W := 0) (Nat.le_of_eq rfl) (by decide) ?_
  intro T13 h15 K16 V17 A14
  have V18 : Arv Z h15 b4 kk5 .byte n ((List.range k).map fun i => vs.getD i (.int (0 : Int32))) (.int (0 : Int32)) := (by have q := V17; simpa [hmk] using q)
  refine ow_aloadN C A14 d5_31 rfl rfl rfl ?_
  refine ow_areturn C A14 (t := (.array .byte)) rfl rfl rfl d5_32 (by decide) (by decide) ?_
  exact ⟨b4, kk5, rfl, (ows_b4.elim (fun q => nomatch q) id), V18⟩
theorem rm_shE (l : Launch) (Z : State) (a0 : Array Value) (hw : ∀ d ∈ tables_1, d.before a0 Z = true) (a b : Addr) (kk : ClassId) (lo ra : Int64) (he : Int32) (on : Int64) (bs : List Int32) (N : Nat) (L W : Int) (h0 : Heap) (O : Enc Z h0 a b kk lo ra he on bs) (hE : EI lo he on bs N L W) (hN : N ≤ 31) (hW : W ≤ 16777216) (cs : List Jvm.Cond) :
    OwnCtr l Z (⟨"com/example/phasorwire/phasorwire/RangeEncoder", "shift", "()V"⟩ : MethodName) prog_64_method_5_code 2 none rmh #[(.ref a)] h0 [a, b] (QShE Z a b kk ra N L W) cs := by
  have g := own_EI_cap lo he on bs N L W hE hN
  refine ow_ctr_mono (rm_shift l Z a0 hw a b kk lo ra he on bs h0 O g.1 g.2 cs) ?_
  have el := own_shlo lo
  rintro v h ⟨rfl, ⟨f, q⟩ | ⟨f, q⟩⟩
  · refine ⟨rfl, _, _, _, _, q, own_EI_flush lo he on bs N L W hE hW ?_, by omega⟩
    rcases f with f | f
    · exact Or.inl (own_lt64' f)
    · right; have f' : ¬ (lo.toInt < 4294967296) := own_nlt64' f; omega
  · refine ⟨rfl, _, _, _, _, q, own_EI_keep lo he on bs N L W hE (by omega) hW ?_, by omega⟩
    have f1 : ¬ (lo < 4278190080) := fun z => f (Or.inl z)
    have f2 : lo < 4294967296 := Decidable.of_not_not fun z => f (Or.inr z)
    have f1' : ¬ (lo.toInt < 4278190080) := own_nlt64' f1
    have f2' : lo.toInt < 4294967296 := own_lt64' f2
    omega
set_option maxRecDepth 65536 in
set_option maxHeartbeats 40000000 in
theorem rm_enc0 (l : Launch) (Z : State) (a0 : Array Value) (hw : ∀ d ∈ tables_1, d.before a0 Z = true) (a b : Addr) (kk : ClassId) (lo ra : Int64) (he : Int32) (on : Int64) (bs : List Int32) (p : Int32) (N : Nat) (L : Int) (h0 : Heap) (O : Enc Z h0 a b kk lo ra he on bs) (hE : EI lo he on bs N L ra.toInt) (hN : N ≤ 20) (hra : Rok ra) (hp : Pok p) (cs : List Jvm.Cond) :
    OwnCtr l Z (⟨"com/example/phasorwire/phasorwire/RangeEncoder", "encode", "(IZ)V"⟩ : MethodName) prog_64_method_2_code 7 none rme #[(.ref a), (.int p), (.int (0 : Int32))] h0 [a, b] (QEE Z a b kk (own_r0 ra p).toInt L N) cs := by
  refine ow_ctr pn_12 hw (Ls := #[.val (.ref a), .val (.int p), .val (.int (0 : Int32)), .unset, .unset, .unset, .unset]) (fun m => by first | (simp [entryFrame, mkF, argsToLocals, Value.category]; done) | rfl) ?_
  intro pG e s m below meth c T0 C A0
  obtain ⟨xE1, xL1, xR1, xH1, xO1, xB1, xN1, xV1, xU1⟩ := O
  refine ow_aloadN C A0 d12_0 rfl rfl rfl ?_
  refine ow_getF C A0 tw_12 Via.refl xR1 d12_1 rfl ?_
  intro T2 A3
  refine ow_bipush C A3 d12_4 (v := 12) rfl rfl ?_
  refine ow_lushr C A3 d12_6 rfl ?_
  refine ow_iloadN C A3 d12_7 rfl rfl ?_
  refine ow_i2l C A3 d12_8 rfl ?_
  refine ow_lmul C A3 d12_9 rfl ?_
  show OwnWP _ _ _ _ _ _ _ _ _ T2 (mkF m 10 #[.val (.ref a), .val (.int p), .val (.int (0 : Int32)), .unset, .unset, .unset, .unset] [(.long (own_bd ra p))])
  refine ow_lstoreN C A3 d12_10 (Ls' := #[.val (.ref a), .val (.int p), .val (.int (0 : Int32)), .val (.long (own_bd ra p)), .second, .unset, .unset]) rfl rfl ?_
  refine ow_iloadN C A3 d12_11 rfl rfl ?_
  refine ow_if_eq C A3 d12_12 (by decide) (pcY := 21) (by decide) (pcN := 15) rfl (fun _ => ?_) (fun zq => absurd (by decide) zq)
  refine ow_lconst C A3 d12_21 (v := 0) rfl rfl ?_
  refine ow_lstore C A3 d12_22 (Ls' := #[.val (.ref a), .val (.int p), .val (.int (0 : Int32)), .val (.long (own_bd ra p)), .second, .val (.long (0 : Int64)), .second]) rfl rfl ?_
  refine ow_aloadN C A3 d12_24 rfl rfl rfl ?_
  refine ow_dup C A3 d12_25 rfl rfl ?_
  refine ow_getF C A3 tw_23 Via.refl xL1 d12_26 rfl ?_
  intro T4 A5
  refine ow_lloadN C A5 d12_29 rfl rfl ?_
  refine ow_lload C A5 d12_30 rfl rfl ?_
  refine ow_land C A5 d12_32 rfl ?_
  refine ow_ladd C A5 d12_33 rfl ?_
  refine ow_putF C A5 tw_23 Via.refl xL1 xE1 tw_24 tw_3 (ty := .long) (by decide) rfl rfl (Or.inl (List.mem_of_getElem? (i := 0) rfl)) d12_34 rfl ?_
  intro T6 h8 W9 A7
  have f10 := xL1.same W9
  refine ow_aloadN C A7 d12_37 rfl rfl rfl ?_
  refine ow_lloadN C A7 d12_38 rfl rfl ?_
  refine ow_aloadN C A7 d12_39 rfl rfl rfl ?_
  have f11 := (xR1.other W9 (Or.inr (sn_25 hw)))
  refine ow_getF C A7 tw_12 Via.refl f11 d12_40 rfl ?_
  intro T12 A13
  refine ow_ldc2 C A13 tw_91 d12_43 rfl ?_
  refine ow_lloadN C A13 d12_46 rfl rfl ?_
  refine ow_lmul C A13 d12_47 rfl ?_
  refine ow_lsub C A13 d12_48 rfl ?_
  refine ow_lload C A13 d12_49 rfl rfl ?_
  refine ow_land C A13 d12_51 rfl ?_
  refine ow_ladd C A13 d12_52 rfl ?_
  have f14 := (xE1.wr W9)
  refine ow_putF C A13 tw_12 Via.refl f11 f14 tw_13 tw_3 (ty := .long) (by decide) rfl rfl (Or.inl (List.mem_of_getElem? (i := 0) rfl)) d12_53 rfl ?_
  intro T15 h17 W18 A16
  have f19 := f11.same W18
  have bdv := own_bdv ra p hra hp
  have eim := own_EI_mod _ _ _ _ _ _ _ hE
  have hra' := hra
  unfold Rok at hra'
  obtain ⟨r20, hr20⟩ : ∃ z, z = own_r0 ra p := ⟨_, rfl⟩
  have f21 : Fld Z h17 a "com/example/phasorwire/phasorwire/RangeEncoder" "range" "J" (.long r20) := by have q := f19; rw [hr20, ← own_e0 ra p]; exact q
  have br20 : 4096 ≤ r20.toInt ∧ r20.toInt < 4294967296 := by rw [hr20]; exact own_rb0 ra p hra hp
  have vr20 : r20.toInt = (own_bd ra p).toInt := by rw [hr20]; rfl
  have elw20 : ((lo + ((own_bd ra p) &&& (0 : Int64)))).toInt = lo.toInt + 0 := by rw [Int.add_zero]; exact own_lw0 _ _
  obtain ⟨lw20, hlw20⟩ : ∃ z, z = (lo + ((own_bd ra p) &&& (0 : Int64))) := ⟨_, rfl⟩
  have f23 := (f10.other W18 (Or.inr (sn_3 hw)))
  have f22 : Fld Z h17 a "com/example/phasorwire/phasorwire/RangeEncoder" "low" "J" (.long lw20) := by have q := f23; rw [hlw20]; exact q
  rw [← hlw20] at elw20
  have E20 : EI lw20 he on bs N L r20.toInt := by have q := own_EI_sub lo lw20 he on bs N L ra.toInt 0 r20.toInt hE (by omega) elw20 (by omega) (by omega); rw [Int.add_zero] at q; exact q
  refine ow_aloadN C A16 d12_56 rfl rfl rfl ?_
  refine ow_getF C A16 tw_12 Via.refl f21 d12_57 rfl ?_
  intro T24 A25
  refine ow_ldc2 C A25 tw_92 d12_60 rfl ?_
  refine ow_lcmp_ge C A25 d12_63 rfl d12_64 (by decide) (pcY := 85) (by decide) (pcN := 67) rfl (fun hc63 => ?_) (fun hc63 => ?_)
  · skip
    have iv26 : ¬ (r20.toInt < 16777216) := own_nlt64' hc63
    have f27 := (f14.wr W18)
    have f28 := ((xH1.other W9 (Or.inr (sn_26 hw))).other W18 (Or.inr (sn_0 hw)))
    have f29 := ((xO1.other W9 (Or.inr (sn_27 hw))).other W18 (Or.inr (sn_9 hw)))
    have f30 := ((xB1.other W9 (Or.inr (sn_28 hw))).other W18 (Or.inr (sn_1 hw)))
    have f31 := ((xN1.other W9 (Or.inr (sn_29 hw))).other W18 (Or.inr (sn_12 hw)))
    have f32 := ((xV1.other W9 (Ne.symm xU1)).other W18 (Ne.symm xU1))
    refine ow_return C A25 rfl d12_85 (by decide) (by decide) ?_
    refine ⟨rfl, lw20, r20, he, on, bs, 0, L, ⟨f27, f22, f21, f28, f29, f30, f31, f32, xU1⟩, ?_, E20⟩
    rw [← hr20]
    exact Or.inl ⟨rfl, by omega, by omega, rfl⟩
  · skip
    have iv33 : r20.toInt < 16777216 := own_lt64' hc63
    refine ow_aloadN C A25 d12_67 rfl rfl rfl ?_
    refine ow_dup C A25 d12_68 rfl rfl ?_
    refine ow_getF C A25 tw_12 Via.refl f21 d12_69 rfl ?_
    intro T34 A35
    refine ow_bipush C A35 d12_72 (v := 8) rfl rfl ?_
    refine ow_lshl C A35 d12_74 rfl ?_
    have f36 := (f14.wr W18)
    refine ow_putF C A35 tw_12 Via.refl f21 f36 tw_13 tw_3 (ty := .long) (by decide) rfl rfl (Or.inl (List.mem_of_getElem? (i := 0) rfl)) d12_75 rfl ?_
    intro T37 h39 W40 A38
    have f41 := f21.same W40
    refine ow_aloadN C A38 d12_78 rfl rfl rfl ?_
    have f42 := (f36.wr W40)
    have f43 := (f22.other W40 (Or.inr (sn_3 hw)))
    have f44 := (((xH1.other W9 (Or.inr (sn_26 hw))).other W18 (Or.inr (sn_0 hw))).other W40 (Or.inr (sn_0 hw)))
    have f45 := (((xO1.other W9 (Or.inr (sn_27 hw))).other W18 (Or.inr (sn_9 hw))).other W40 (Or.inr (sn_9 hw)))
    have f46 := (((xB1.other W9 (Or.inr (sn_28 hw))).other W18 (Or.inr (sn_1 hw))).other W40 (Or.inr (sn_1 hw)))
    have f47 := (((xN1.other W9 (Or.inr (sn_29 hw))).other W18 (Or.inr (sn_12 hw))).other W40 (Or.inr (sn_12 hw)))
    have f48 := (((xV1.other W9 (Ne.symm xU1)).other W18 (Ne.symm xU1)).other W40 (Ne.symm xU1))
    refine ow_callP C A38 (argsL := []) f42 (rm_shE l Z a0 hw a b kk lw20 (r20 <<< ((8 : Int32) &&& 63).toInt64) he on bs N L r20.toInt h39 ⟨f42, f43, f41, f44, f45, f46, f47, f48, xU1⟩ E20 (by omega) (by omega) []) tw_25 tw_27 tw_3 tw_26 tw_4 tw_28 (by decide) (allS (Or.inl (List.mem_of_getElem? (i := 0) rfl)) (allS (Or.inl (List.mem_of_getElem? (i := 1) rfl)) all0)) (by decide) (by decide) (ck' := 0) (sk' := 0) rfl rfl (by decide) (by decide) rfl (lenOf pd_2 rfl) (S := []) rfl (W := 0) (Nat.le_of_eq rfl) d12_79 rfl ?_
    intro T49 v49 K49 hQ49 A49
    obtain ⟨rfl, lo49, he49, on49, bs49, O49, I49, l49⟩ := hQ49
    show OwnWP _ _ _ _ _ _ _ _ _ T49 (mkF m 82 #[.val (.ref a), .val (.int p), .val (.int (0 : Int32)), .val (.long (own_bd ra p)), .second, .val (.long (0 : Int64)), .second] [])
    obtain ⟨xE50, xL50, xR50, xH50, xO50, xB50, xN50, xV50, xU50⟩ := O49
    refine ow_goto C A49 d12_82 (by decide) (pc' := 56) (by decide) ?_
    have sr51 := own_sl8 r20 ⟨by omega, by omega⟩
    obtain ⟨r51, hr51⟩ : ∃ z, z = (r20 <<< ((8 : Int32) &&& 63).toInt64) := ⟨_, rfl⟩
    have f52 : Fld Z T49.heap a "com/example/phasorwire/phasorwire/RangeEncoder" "range" "J" (.long r51) := by have q := xR50; rw [hr51]; exact q
    rw [← hr51] at sr51
    have E51 := I49
    rw [← sr51] at E51
    refine ow_aloadN C A49 d12_56 rfl rfl rfl ?_
    refine ow_getF C A49 tw_12 Via.refl f52 d12_57 rfl ?_
    intro T53 A54
    refine ow_ldc2 C A54 tw_92 d12_60 rfl ?_
    refine ow_lcmp_ge C A54 d12_63 rfl d12_64 (by decide) (pcY := 85) (by decide) (pcN := 67) rfl (fun hc55 => ?_) (fun hc55 => ?_)
    · skip
      have iv56 : ¬ (r51.toInt < 16777216) := own_nlt64' hc55
      refine ow_return C A54 rfl d12_85 (by decide) (by decide) ?_
      refine ⟨rfl, lo49, r51, he49, on49, bs49, 1, (256 * L), ⟨xE50, xL50, f52, xH50, xO50, xB50, xN50, xV50, xU50⟩, ?_, E51⟩
      rw [← hr20]
      exact Or.inr (Or.inl ⟨rfl, by omega, by omega, by omega, rfl⟩)
    · skip
      have iv57 : r51.toInt < 16777216 := own_lt64' hc55
      refine ow_aloadN C A54 d12_67 rfl rfl rfl ?_
      refine ow_dup C A54 d12_68 rfl rfl ?_
      refine ow_getF C A54 tw_12 Via.refl f52 d12_69 rfl ?_
      intro T58 A59
      refine ow_bipush C A59 d12_72 (v := 8) rfl rfl ?_
      refine ow_lshl C A59 d12_74 rfl ?_
      refine ow_putF C A59 tw_12 Via.refl f52 xE50 tw_13 tw_3 (ty := .long) (by decide) rfl rfl (Or.inl (List.mem_of_getElem? (i := 0) rfl)) d12_75 rfl ?_
      intro T60 h62 W63 A61
      have f64 := f52.same W63
      refine ow_aloadN C A61 d12_78 rfl rfl rfl ?_
      have f65 := (xE50.wr W63)
      have f66 := (xL50.other W63 (Or.inr (sn_3 hw)))
      have f67 := (xH50.other W63 (Or.inr (sn_0 hw)))
      have f68 := (xO50.other W63 (Or.inr (sn_9 hw)))
      have f69 := (xB50.other W63 (Or.inr (sn_1 hw)))
      have f70 := (xN50.other W63 (Or.inr (sn_12 hw)))
      have f71 := (xV50.other W63 (Ne.symm xU50))
      refine ow_callP C A61 (argsL := []) f65 (rm_shE l Z a0 hw a b kk lo49 (r51 <<< ((8 : Int32) &&& 63).toInt64) he49 on49 bs49 (N + 1) (256 * L) r51.toInt h62 ⟨f65, f66, f64, f67, f68, f69, f70, f71, xU50⟩ E51 (by omega) (by omega) []) tw_25 tw_27 tw_3 tw_26 tw_4 tw_28 (by decide) (allS (Or.inl (List.mem_of_getElem? (i := 0) rfl)) (allS (Or.inl (List.mem_of_getElem? (i := 1) rfl)) all0)) (by decide) (by decide) (ck' := 0) (sk' := 0) rfl rfl (by decide) (by decide) rfl (lenOf pd_2 rfl) (S := []) rfl (W := 0) (Nat.le_of_eq rfl) d12_79 rfl ?_
      intro T72 v72 K72 hQ72 A72
      obtain ⟨rfl, lo72, he72, on72, bs72, O72, I72, l72⟩ := hQ72
      show OwnWP _ _ _ _ _ _ _ _ _ T72 (mkF m 82 #[.val (.ref a), .val (.int p), .val (.int (0 : Int32)), .val (.long (own_bd ra p)), .second, .val (.long (0 : Int64)), .second] [])
      obtain ⟨xE73, xL73, xR73, xH73, xO73, xB73, xN73, xV73, xU73⟩ := O72
      refine ow_goto C A72 d12_82 (by decide) (pc' := 56) (by decide) ?_
      have sr74 := own_sl8 r51 ⟨by omega, by omega⟩
      obtain ⟨r74, hr74⟩ : ∃ z, z = (r51 <<< ((8 : Int32) &&& 63).toInt64) := ⟨_, rfl⟩
      have f75 : Fld Z T72.heap a "com/example/phasorwire/phasorwire/RangeEncoder" "range" "J" (.long r74) := by have q := xR73; rw [hr74]; exact q
      rw [← hr74] at sr74
      have E74 := I72
      rw [← sr74] at E74
      refine ow_aloadN C A72 d12_56 rfl rfl rfl ?_
      refine ow_getF C A72 tw_12 Via.refl f75 d12_57 rfl ?_
      intro T76 A77
      refine ow_ldc2 C A77 tw_92 d12_60 rfl ?_
      refine ow_lcmp_ge C A77 d12_63 rfl d12_64 (by decide) (pcY := 85) (by decide) (pcN := 67) rfl (fun _ => ?_) (fun zq => absurd zq (own_nlt64 (by show ¬ (r74.toInt < 16777216); omega)))
      refine ow_return C A77 rfl d12_85 (by decide) (by decide) ?_
      refine ⟨rfl, lo72, r74, he72, on72, bs72, 2, (256 * (256 * L)), ⟨xE73, xL73, f75, xH73, xO73, xB73, xN73, xV73, xU73⟩, ?_, E74⟩
      rw [← hr20]
      exact Or.inr (Or.inr ⟨rfl, by omega, by omega, by omega⟩)
set_option maxRecDepth 65536 in
set_option maxHeartbeats 40000000 in
theorem rm_enc1 (l : Launch) (Z : State) (a0 : Array Value) (hw : ∀ d ∈ tables_1, d.before a0 Z = true) (a b : Addr) (kk : ClassId) (lo ra : Int64) (he : Int32) (on : Int64) (bs : List Int32) (p : Int32) (N : Nat) (L : Int) (h0 : Heap) (O : Enc Z h0 a b kk lo ra he on bs) (hE : EI lo he on bs N L ra.toInt) (hN : N ≤ 20) (hra : Rok ra) (hp : Pok p) (cs : List Jvm.Cond) :
    OwnCtr l Z (⟨"com/example/phasorwire/phasorwire/RangeEncoder", "encode", "(IZ)V"⟩ : MethodName) prog_64_method_2_code 7 none rme #[(.ref a), (.int p), (.int (1 : Int32))] h0 [a, b] (QEE Z a b kk (own_r1 ra p).toInt (L + (own_bd ra p).toInt) N) cs := by
  refine ow_ctr pn_12 hw (Ls := #[.val (.ref a), .val (.int p), .val (.int (1 : Int32)), .unset, .unset, .unset, .unset]) (fun m => by first | (simp [entryFrame, mkF, argsToLocals, Value.category]; done) | rfl) ?_
  intro pG e s m below meth c T0 C A0
  obtain ⟨xE1, xL1, xR1, xH1, xO1, xB1, xN1, xV1, xU1⟩ := O
  refine ow_aloadN C A0 d12_0 rfl rfl rfl ?_
  refine ow_getF C A0 tw_12 Via.refl xR1 d12_1 rfl ?_
  intro T2 A3
  refine ow_bipush C A3 d12_4 (v := 12) rfl rfl ?_
  refine ow_lushr C A3 d12_6 rfl ?_
  refine ow_iloadN C A3 d12_7 rfl rfl ?_
  refine ow_i2l C A3 d12_8 rfl ?_
  refine ow_lmul C A3 d12_9 rfl ?_
  show OwnWP _ _ _ _ _ _ _ _ _ T2 (mkF m 10 #[.val (.ref a), .val (.int p), .val (.int (1 : Int32)), .unset, .unset, .unset, .unset] [(.long (own_bd ra p))])
  refine ow_lstoreN C A3 d12_10 (Ls' := #[.val (.ref a), .val (.int p), .val (.int (1 : Int32)), .val (.long (own_bd ra p)), .second, .unset, .unset]) rfl rfl ?_
  refine ow_iloadN C A3 d12_11 rfl rfl ?_
  refine ow_if_eq C A3 d12_12 (by decide) (pcY := 21) (by decide) (pcN := 15) rfl (fun zq => absurd zq (by decide)) (fun _ => ?_)
  refine ow_ldc2 C A3 tw_90 d12_15 rfl ?_
  refine ow_goto C A3 d12_18 (by decide) (pc' := 22) (by decide) ?_
  refine ow_lstore C A3 d12_22 (Ls' := #[.val (.ref a), .val (.int p), .val (.int (1 : Int32)), .val (.long (own_bd ra p)), .second, .val (.long (-1 : Int64)), .second]) rfl rfl ?_
  refine ow_aloadN C A3 d12_24 rfl rfl rfl ?_
  refine ow_dup C A3 d12_25 rfl rfl ?_
  refine ow_getF C A3 tw_23 Via.refl xL1 d12_26 rfl ?_
  intro T4 A5
  refine ow_lloadN C A5 d12_29 rfl rfl ?_
  refine ow_lload C A5 d12_30 rfl rfl ?_
  refine ow_land C A5 d12_32 rfl ?_
  refine ow_ladd C A5 d12_33 rfl ?_
  refine ow_putF C A5 tw_23 Via.refl xL1 xE1 tw_24 tw_3 (ty := .long) (by decide) rfl rfl (Or.inl (List.mem_of_getElem? (i := 0) rfl)) d12_34 rfl ?_
  intro T6 h8 W9 A7
  have f10 := xL1.same W9
  refine ow_aloadN C A7 d12_37 rfl rfl rfl ?_
  refine ow_lloadN C A7 d12_38 rfl rfl ?_
  refine ow_aloadN C A7 d12_39 rfl rfl rfl ?_
  have f11 := (xR1.other W9 (Or.inr (sn_25 hw)))
  refine ow_getF C A7 tw_12 Via.refl f11 d12_40 rfl ?_
  intro T12 A13
  refine ow_ldc2 C A13 tw_91 d12_43 rfl ?_
  refine ow_lloadN C A13 d12_46 rfl rfl ?_
  refine ow_lmul C A13 d12_47 rfl ?_
  refine ow_lsub C A13 d12_48 rfl ?_
  refine ow_lload C A13 d12_49 rfl rfl ?_
  refine ow_land C A13 d12_51 rfl ?_
  refine ow_ladd C A13 d12_52 rfl ?_
  have f14 := (xE1.wr W9)
  refine ow_putF C A13 tw_12 Via.refl f11 f14 tw_13 tw_3 (ty := .long) (by decide) rfl rfl (Or.inl (List.mem_of_getElem? (i := 0) rfl)) d12_53 rfl ?_
  intro T15 h17 W18 A16
  have f19 := f11.same W18
  have bdv := own_bdv ra p hra hp
  have eim := own_EI_mod _ _ _ _ _ _ _ hE
  have hra' := hra
  unfold Rok at hra'
  obtain ⟨r20, hr20⟩ : ∃ z, z = own_r1 ra p := ⟨_, rfl⟩
  have f21 : Fld Z h17 a "com/example/phasorwire/phasorwire/RangeEncoder" "range" "J" (.long r20) := by have q := f19; rw [hr20, ← own_e1 ra p]; exact q
  have br20 : 4096 ≤ r20.toInt ∧ r20.toInt < 4294967296 := by rw [hr20]; exact own_rb1 ra p hra hp
  have vr20 : r20.toInt = ra.toInt - (own_bd ra p).toInt := by rw [hr20]; exact own_r1v ra p hra hp
  have elw20 : ((lo + ((own_bd ra p) &&& (-1 : Int64)))).toInt = lo.toInt + (own_bd ra p).toInt := own_lw1 _ _ ⟨by omega, by omega⟩ ⟨by omega, by omega⟩
  obtain ⟨lw20, hlw20⟩ : ∃ z, z = (lo + ((own_bd ra p) &&& (-1 : Int64))) := ⟨_, rfl⟩
  have f23 := (f10.other W18 (Or.inr (sn_3 hw)))
  have f22 : Fld Z h17 a "com/example/phasorwire/phasorwire/RangeEncoder" "low" "J" (.long lw20) := by have q := f23; rw [hlw20]; exact q
  rw [← hlw20] at elw20
  have E20 : EI lw20 he on bs N (L + (own_bd ra p).toInt) r20.toInt := by have q := own_EI_sub lo lw20 he on bs N L ra.toInt (own_bd ra p).toInt r20.toInt hE (by omega) elw20 (by omega) (by omega); exact q
  refine ow_aloadN C A16 d12_56 rfl rfl rfl ?_
  refine ow_getF C A16 tw_12 Via.refl f21 d12_57 rfl ?_
  intro T24 A25
  refine ow_ldc2 C A25 tw_92 d12_60 rfl ?_
  refine ow_lcmp_ge C A25 d12_63 rfl d12_64 (by decide) (pcY := 85) (by decide) (pcN := 67) rfl (fun hc63 => ?_) (fun hc63 => ?_)
  · skip
    have iv26 : ¬ (r20.toInt < 16777216) := own_nlt64' hc63
    have f27 := (f14.wr W18)
    have f28 := ((xH1.other W9 (Or.inr (sn_26 hw))).other W18 (Or.inr (sn_0 hw)))
    have f29 := ((xO1.other W9 (Or.inr (sn_27 hw))).other W18 (Or.inr (sn_9 hw)))
    have f30 := ((xB1.other W9 (Or.inr (sn_28 hw))).other W18 (Or.inr (sn_1 hw)))
    have f31 := ((xN1.other W9 (Or.inr (sn_29 hw))).other W18 (Or.inr (sn_12 hw)))
    have f32 := ((xV1.other W9 (Ne.symm xU1)).other W18 (Ne.symm xU1))
    refine ow_return C A25 rfl d12_85 (by decide) (by decide) ?_
    refine ⟨rfl, lw20, r20, he, on, bs, 0, (L + (own_bd ra p).toInt), ⟨f27, f22, f21, f28, f29, f30, f31, f32, xU1⟩, ?_, E20⟩
    rw [← hr20]
    exact Or.inl ⟨rfl, by omega, by omega, rfl⟩
  · skip
    have iv33 : r20.toInt < 16777216 := own_lt64' hc63
    refine ow_aloadN C A25 d12_67 rfl rfl rfl ?_
    refine ow_dup C A25 d12_68 rfl rfl ?_
    refine ow_getF C A25 tw_12 Via.refl f21 d12_69 rfl ?_
    intro T34 A35
    refine ow_bipush C A35 d12_72 (v := 8) rfl rfl ?_
    refine ow_lshl C A35 d12_74 rfl ?_
    have f36 := (f14.wr W18)
    refine ow_putF C A35 tw_12 Via.refl f21 f36 tw_13 tw_3 (ty := .long) (by decide) rfl rfl (Or.inl (List.mem_of_getElem? (i := 0) rfl)) d12_75 rfl ?_
    intro T37 h39 W40 A38
    have f41 := f21.same W40
    refine ow_aloadN C A38 d12_78 rfl rfl rfl ?_
    have f42 := (f36.wr W40)
    have f43 := (f22.other W40 (Or.inr (sn_3 hw)))
    have f44 := (((xH1.other W9 (Or.inr (sn_26 hw))).other W18 (Or.inr (sn_0 hw))).other W40 (Or.inr (sn_0 hw)))
    have f45 := (((xO1.other W9 (Or.inr (sn_27 hw))).other W18 (Or.inr (sn_9 hw))).other W40 (Or.inr (sn_9 hw)))
    have f46 := (((xB1.other W9 (Or.inr (sn_28 hw))).other W18 (Or.inr (sn_1 hw))).other W40 (Or.inr (sn_1 hw)))
    have f47 := (((xN1.other W9 (Or.inr (sn_29 hw))).other W18 (Or.inr (sn_12 hw))).other W40 (Or.inr (sn_12 hw)))
    have f48 := (((xV1.other W9 (Ne.symm xU1)).other W18 (Ne.symm xU1)).other W40 (Ne.symm xU1))
    refine ow_callP C A38 (argsL := []) f42 (rm_shE l Z a0 hw a b kk lw20 (r20 <<< ((8 : Int32) &&& 63).toInt64) he on bs N (L + (own_bd ra p).toInt) r20.toInt h39 ⟨f42, f43, f41, f44, f45, f46, f47, f48, xU1⟩ E20 (by omega) (by omega) []) tw_25 tw_27 tw_3 tw_26 tw_4 tw_28 (by decide) (allS (Or.inl (List.mem_of_getElem? (i := 0) rfl)) (allS (Or.inl (List.mem_of_getElem? (i := 1) rfl)) all0)) (by decide) (by decide) (ck' := 0) (sk' := 0) rfl rfl (by decide) (by decide) rfl (lenOf pd_2 rfl) (S := []) rfl (W := 0) (Nat.le_of_eq rfl) d12_79 rfl ?_
    intro T49 v49 K49 hQ49 A49
    obtain ⟨rfl, lo49, he49, on49, bs49, O49, I49, l49⟩ := hQ49
    show OwnWP _ _ _ _ _ _ _ _ _ T49 (mkF m 82 #[.val (.ref a), .val (.int p), .val (.int (1 : Int32)), .val (.long (own_bd ra p)), .second, .val (.long (-1 : Int64)), .second] [])
    obtain ⟨xE50, xL50, xR50, xH50, xO50, xB50, xN50, xV50, xU50⟩ := O49
    refine ow_goto C A49 d12_82 (by decide) (pc' := 56) (by decide) ?_
    have sr51 := own_sl8 r20 ⟨by omega, by omega⟩
    obtain ⟨r51, hr51⟩ : ∃ z, z = (r20 <<< ((8 : Int32) &&& 63).toInt64) := ⟨_, rfl⟩
    have f52 : Fld Z T49.heap a "com/example/phasorwire/phasorwire/RangeEncoder" "range" "J" (.long r51) := by have q := xR50; rw [hr51]; exact q
    rw [← hr51] at sr51
    have E51 := I49
    rw [← sr51] at E51
    refine ow_aloadN C A49 d12_56 rfl rfl rfl ?_
    refine ow_getF C A49 tw_12 Via.refl f52 d12_57 rfl ?_
    intro T53 A54
    refine ow_ldc2 C A54 tw_92 d12_60 rfl ?_
    refine ow_lcmp_ge C A54 d12_63 rfl d12_64 (by decide) (pcY := 85) (by decide) (pcN := 67) rfl (fun hc55 => ?_) (fun hc55 => ?_)
    · skip
      have iv56 : ¬ (r51.toInt < 16777216) := own_nlt64' hc55
      refine ow_return C A54 rfl d12_85 (by decide) (by decide) ?_
      refine ⟨rfl, lo49, r51, he49, on49, bs49, 1, (256 * (L + (own_bd ra p).toInt)), ⟨xE50, xL50, f52, xH50, xO50, xB50, xN50, xV50, xU50⟩, ?_, E51⟩
      rw [← hr20]
      exact Or.inr (Or.inl ⟨rfl, by omega, by omega, by omega, rfl⟩)
    · skip
      have iv57 : r51.toInt < 16777216 := own_lt64' hc55
      refine ow_aloadN C A54 d12_67 rfl rfl rfl ?_
      refine ow_dup C A54 d12_68 rfl rfl ?_
      refine ow_getF C A54 tw_12 Via.refl f52 d12_69 rfl ?_
      intro T58 A59
      refine ow_bipush C A59 d12_72 (v := 8) rfl rfl ?_
      refine ow_lshl C A59 d12_74 rfl ?_
      refine ow_putF C A59 tw_12 Via.refl f52 xE50 tw_13 tw_3 (ty := .long) (by decide) rfl rfl (Or.inl (List.mem_of_getElem? (i := 0) rfl)) d12_75 rfl ?_
      intro T60 h62 W63 A61
      have f64 := f52.same W63
      refine ow_aloadN C A61 d12_78 rfl rfl rfl ?_
      have f65 := (xE50.wr W63)
      have f66 := (xL50.other W63 (Or.inr (sn_3 hw)))
      have f67 := (xH50.other W63 (Or.inr (sn_0 hw)))
      have f68 := (xO50.other W63 (Or.inr (sn_9 hw)))
      have f69 := (xB50.other W63 (Or.inr (sn_1 hw)))
      have f70 := (xN50.other W63 (Or.inr (sn_12 hw)))
      have f71 := (xV50.other W63 (Ne.symm xU50))
      refine ow_callP C A61 (argsL := []) f65 (rm_shE l Z a0 hw a b kk lo49 (r51 <<< ((8 : Int32) &&& 63).toInt64) he49 on49 bs49 (N + 1) (256 * (L + (own_bd ra p).toInt)) r51.toInt h62 ⟨f65, f66, f64, f67, f68, f69, f70, f71, xU50⟩ E51 (by omega) (by omega) []) tw_25 tw_27 tw_3 tw_26 tw_4 tw_28 (by decide) (allS (Or.inl (List.mem_of_getElem? (i := 0) rfl)) (allS (Or.inl (List.mem_of_getElem? (i := 1) rfl)) all0)) (by decide) (by decide) (ck' := 0) (sk' := 0) rfl rfl (by decide) (by decide) rfl (lenOf pd_2 rfl) (S := []) rfl (W := 0) (Nat.le_of_eq rfl) d12_79 rfl ?_
      intro T72 v72 K72 hQ72 A72
      obtain ⟨rfl, lo72, he72, on72, bs72, O72, I72, l72⟩ := hQ72
      show OwnWP _ _ _ _ _ _ _ _ _ T72 (mkF m 82 #[.val (.ref a), .val (.int p), .val (.int (1 : Int32)), .val (.long (own_bd ra p)), .second, .val (.long (-1 : Int64)), .second] [])
      obtain ⟨xE73, xL73, xR73, xH73, xO73, xB73, xN73, xV73, xU73⟩ := O72
      refine ow_goto C A72 d12_82 (by decide) (pc' := 56) (by decide) ?_
      have sr74 := own_sl8 r51 ⟨by omega, by omega⟩
      obtain ⟨r74, hr74⟩ : ∃ z, z = (r51 <<< ((8 : Int32) &&& 63).toInt64) := ⟨_, rfl⟩
      have f75 : Fld Z T72.heap a "com/example/phasorwire/phasorwire/RangeEncoder" "range" "J" (.long r74) := by have q := xR73; rw [hr74]; exact q
      rw [← hr74] at sr74
      have E74 := I72
      rw [← sr74] at E74
      refine ow_aloadN C A72 d12_56 rfl rfl rfl ?_
      refine ow_getF C A72 tw_12 Via.refl f75 d12_57 rfl ?_
      intro T76 A77
      refine ow_ldc2 C A77 tw_92 d12_60 rfl ?_
      refine ow_lcmp_ge C A77 d12_63 rfl d12_64 (by decide) (pcY := 85) (by decide) (pcN := 67) rfl (fun _ => ?_) (fun zq => absurd zq (own_nlt64 (by show ¬ (r74.toInt < 16777216); omega)))
      refine ow_return C A77 rfl d12_85 (by decide) (by decide) ?_
      refine ⟨rfl, lo72, r74, he72, on72, bs72, 2, (256 * (256 * (L + (own_bd ra p).toInt))), ⟨xE73, xL73, f75, xH73, xO73, xB73, xN73, xV73, xU73⟩, ?_, E74⟩
      rw [← hr20]
      exact Or.inr (Or.inr ⟨rfl, by omega, by omega, by omega⟩)
set_option maxRecDepth 65536 in
set_option maxHeartbeats 40000000 in
theorem fin_loop {p : Program} {l : Launch} {e : Env} {s : State} {m : MethodId} {args : Array Value} {below : List Frame} {meth : Method} {c : Code} {Z : State} {a0 : Array Value} {h0 h : Heap} {Q : Option Value → Heap → Prop} (hw : ∀ d ∈ tables_1, d.before a0 Z = true) (C : OwnCtx p s m meth c Z a0 tables_1 (⟨"com/example/phasorwire/phasorwire/RangeEncoder", "finish", "()[B"⟩ : MethodName) prog_64_method_4_code 7 (some (.array .byte))) (a b : Addr) (kk : ClassId) (lo ra : Int64) (he : Int32) (on : Int64) (bs : List Int32) (kp : Int32) (s3 s4 s5 s6 : Slot) (O : Enc Z h a b kk lo ra he on bs) (hbs : bs.length < 32) :
    ∀ (k : Nat) (T : State), k ≤ bs.length → OwnPos p l e rmf s m args below meth c h0 [a, b] T h 0 0 → (∀ (T' : State) (k' : Nat), k' ≤ k → (k' = 0 ∨ ¬ (bs.getD (k' - 1) 0 = 0)) → (∀ i, k' ≤ i → i < k → bs.getD i 0 = 0) → OwnPos p l e rmf s m args below meth c h0 [a, b] T' h 0 0 → OwnWP p e below s h0 [a, b] Q rmf.cells rmf.slots T' (mkF m 107 #[.val (.ref a), .val (.int kp), .val (.int (Int32.ofNat k')), s3, s4, s5, s6] [])) → OwnWP p e below s h0 [a, b] Q rmf.cells rmf.slots T (mkF m 86 #[.val (.ref a), .val (.int kp), .val (.int (Int32.ofNat k)), s3, s4, s5, s6] []) := by
  intro k
  induction k with
  | zero =>
    intro T hk A kont
    obtain ⟨xE1, xL1, xR1, xH1, xO1, xB1, xN1, xV1, xU1⟩ := O
    refine ow_iloadN C A d3_86 rfl rfl ?_
    refine ow_if_le C A d3_87 (by decide) (pcY := 107) (by decide) (pcN := 90) rfl (fun _ => ?_) (fun zq => absurd zq (by decide))
    exact kont _ 0 (Nat.le_refl _) (Or.inl rfl) (fun i _ hi => absurd hi (Nat.not_lt_zero _)) A
  | succ k ih =>
    intro T hk A kont
    obtain ⟨xE2, xL2, xR2, xH2, xO2, xB2, xN2, xV2, xU2⟩ := O
    have e0 := own_ofn (k + 1) (by omega)
    have e1 := own_sub1 (k + 1) (by omega) (by omega)
    refine ow_iloadN C A d3_86 rfl rfl ?_
    refine ow_if_le C A d3_87 (by decide) (pcY := 107) (by decide) (pcN := 90) rfl (fun zq => absurd (own_lt32 (by show 0 < (Int32.ofNat (k + 1)).toInt; omega)) zq) (fun _ => ?_)
    refine ow_aloadN C A d3_90 rfl rfl rfl ?_
    refine ow_getF C A tw_16 Via.refl xB2 d3_91 rfl ?_
    intro T3 A4
    refine ow_iloadN C A4 d3_94 rfl rfl ?_
    refine ow_iconst C A4 d3_95 (v := 1) rfl rfl ?_
    refine ow_isub C A4 d3_96 rfl ?_
    refine ow_baload C A4 xV2 ⟨own_nlt32 (by show ¬ ((Int32.ofNat (k + 1) - 1).toInt < 0); omega), own_lt32 (by show (Int32.ofNat (k + 1) - 1).toInt < 32; omega)⟩ (v := (.int (bs.getD k 0))) (by rw [own_tn, e1, show ((((k + 1 : Nat) : Int) - 1).toNat) = k from by omega]; exact own_gd bs k) d3_97 rfl ?_
    refine ow_if_ne C A4 d3_98 (by decide) (pcY := 107) (by decide) (pcN := 101) rfl (fun hc98 => ?_) (fun hc98 => ?_)
    · skip
      exact kont _ (k + 1) (Nat.le_refl _) (Or.inr (by simpa using hc98)) (fun i h1 h2 => absurd h2 (by omega)) A4
    · skip
      refine ow_iinc C A4 d3_101 rfl (Ls' := #[.val (.ref a), .val (.int kp), .val (.int ((Int32.ofNat (k + 1)) + (-1 : Int32))), s3, s4, s5, s6]) rfl rfl ?_
      refine ow_goto C A4 d3_104 (by decide) (pc' := 86) (by decide) ?_
      rw [own_subn k (by omega)]
      refine ih _ (by omega) A4 ?_
      intro T' k' h1 h2 h3 A'
      exact kont T' k' (by omega) h2 (fun i g1 g2 => if g : i < k then h3 i g1 g else by (have e : i = k := (by omega)); subst e; exact hc98) A'
set_option maxRecDepth 65536 in
set_option maxHeartbeats 40000000 in
theorem rm_fin (l : Launch) (Z : State) (a0 : Array Value) (hw : ∀ d ∈ tables_1, d.before a0 Z = true) (a b : Addr) (kk : ClassId) (lo ra : Int64) (he : Int32) (on : Int64) (bs : List Int32) (N : Nat) (L : Int) (h0 : Heap) (O : Enc Z h0 a b kk lo ra he on bs) (hE : EI lo he on bs N L ra.toInt) (hN : N ≤ 20) (hra : Rok ra) (cs : List Jvm.Cond) :
    OwnCtr l Z (⟨"com/example/phasorwire/phasorwire/RangeEncoder", "finish", "()[B"⟩ : MethodName) prog_64_method_4_code 7 (some (.array .byte)) rmf #[(.ref a)] h0 [a, b] (QFE Z h0 N L ra.toInt) cs := by
  refine ow_ctr pn_3 hw (Ls := #[.val (.ref a), .unset, .unset, .unset, .unset, .unset, .unset]) (fun m => by first | (simp [entryFrame, mkF, argsToLocals, Value.category]; done) | rfl) ?_
  intro p e s m below meth c T0 C A0
  obtain ⟨xE1, xL1, xR1, xH1, xO1, xB1, xN1, xV1, xU1⟩ := O
  have eim := own_EI_mod _ _ _ _ _ _ _ hE
  have hra' := hra
  unfold Rok at hra'
  refine ow_iconst C A0 d3_0 (v := 4) rfl rfl ?_
  refine ow_istoreN C A0 d3_1 (Ls' := #[.val (.ref a), .val (.int (4 : Int32)), .unset, .unset, .unset, .unset, .unset]) rfl rfl ?_
  refine ow_iconst C A0 d3_2 (v := 0) rfl rfl ?_
  refine ow_istoreN C A0 d3_3 (Ls' := #[.val (.ref a), .val (.int (4 : Int32)), .val (.int (0 : Int32)), .unset, .unset, .unset, .unset]) rfl rfl ?_
  refine ow_iloadN C A0 d3_4 rfl rfl ?_
  refine ow_iconst C A0 d3_5 (v := 4) rfl rfl ?_
  refine ow_icmp_ge C A0 d3_6 (by decide) (pcY := 64) (by decide) (pcN := 9) rfl (fun zq => absurd (by decide) zq) (fun _ => ?_)
  refine ow_lconst C A0 d3_9 (v := 1) rfl rfl ?_
  refine ow_bipush C A0 d3_10 (v := 8) rfl rfl ?_
  refine ow_iconst C A0 d3_12 (v := 4) rfl rfl ?_
  refine ow_iloadN C A0 d3_13 rfl rfl ?_
  refine ow_isub C A0 d3_14 rfl ?_
  show OwnWP _ _ _ _ _ _ _ _ _ T0 (mkF m 15 #[.val (.ref a), .val (.int (4 : Int32)), .val (.int (0 : Int32)), .unset, .unset, .unset, .unset] [(.int (4 : Int32)), (.int (8 : Int32)), (.long (1 : Int64))])
  refine ow_imul C A0 d3_15 rfl ?_
  show OwnWP _ _ _ _ _ _ _ _ _ T0 (mkF m 16 #[.val (.ref a), .val (.int (4 : Int32)), .val (.int (0 : Int32)), .unset, .unset, .unset, .unset] [(.int (32 : Int32)), (.long (1 : Int64))])
  refine ow_lshl C A0 d3_16 rfl ?_
  show OwnWP _ _ _ _ _ _ _ _ _ T0 (mkF m 17 #[.val (.ref a), .val (.int (4 : Int32)), .val (.int (0 : Int32)), .unset, .unset, .unset, .unset] [(.long (4294967296 : Int64))])
  refine ow_lstoreN C A0 d3_17 (Ls' := #[.val (.ref a), .val (.int (4 : Int32)), .val (.int (0 : Int32)), .val (.long (4294967296 : Int64)), .second, .unset, .unset]) rfl rfl ?_
  refine ow_aloadN C A0 d3_18 rfl rfl rfl ?_
  refine ow_getF C A0 tw_23 Via.refl xL1 d3_19 rfl ?_
  intro T2 A3
  refine ow_lloadN C A3 d3_22 rfl rfl ?_
  refine ow_ladd C A3 d3_23 rfl ?_
  refine ow_lconst C A3 d3_24 (v := 1) rfl rfl ?_
  refine ow_lsub C A3 d3_25 rfl ?_
  refine ow_lloadN C A3 d3_26 rfl rfl ?_
  refine ow_ldiv C A3 d3_27 (by decide) rfl ?_
  refine ow_lloadN C A3 d3_28 rfl rfl ?_
  refine ow_lmul C A3 d3_29 rfl ?_
  refine ow_lstore C A3 d3_30 (Ls' := #[.val (.ref a), .val (.int (4 : Int32)), .val (.int (0 : Int32)), .val (.long (4294967296 : Int64)), .second, .val (.long ((((lo + (4294967296 : Int64)) - (1 : Int64)) / (4294967296 : Int64)) * (4294967296 : Int64))), .second]) rfl rfl ?_
  refine ow_lload C A3 d3_32 rfl rfl ?_
  refine ow_aloadN C A3 d3_34 rfl rfl rfl ?_
  refine ow_getF C A3 tw_23 Via.refl xL1 d3_35 rfl ?_
  intro T4 A5
  refine ow_aloadN C A5 d3_38 rfl rfl rfl ?_
  refine ow_getF C A5 tw_12 Via.refl xR1 d3_39 rfl ?_
  intro T6 A7
  refine ow_ladd C A7 d3_42 rfl ?_
  refine ow_lcmp_ge C A7 d3_43 rfl d3_44 (by decide) (pcY := 58) (by decide) (pcN := 47) rfl (fun hc43 => ?_) (fun hc43 => ?_)
  · skip
    have vc8 : ¬ (((-lo.toInt) % 4294967296 < ra.toInt)) := fun z => hc43 ((own_vc32 lo ra ⟨by omega, by omega⟩ hra).mpr z)
    refine ow_iinc C A7 d3_58 rfl (Ls' := #[.val (.ref a), .val (.int (4 : Int32)), .val (.int (1 : Int32)), .val (.long (4294967296 : Int64)), .second, .val (.long ((((lo + (4294967296 : Int64)) - (1 : Int64)) / (4294967296 : Int64)) * (4294967296 : Int64))), .second]) rfl rfl ?_
    refine ow_goto C A7 d3_61 (by decide) (pc' := 4) (by decide) ?_
    refine ow_iloadN C A7 d3_4 rfl rfl ?_
    refine ow_iconst C A7 d3_5 (v := 4) rfl rfl ?_
    refine ow_icmp_ge C A7 d3_6 (by decide) (pcY := 64) (by decide) (pcN := 9) rfl (fun zq => absurd (by decide) zq) (fun _ => ?_)
    refine ow_lconst C A7 d3_9 (v := 1) rfl rfl ?_
    refine ow_bipush C A7 d3_10 (v := 8) rfl rfl ?_
    refine ow_iconst C A7 d3_12 (v := 4) rfl rfl ?_
    refine ow_iloadN C A7 d3_13 rfl rfl ?_
    refine ow_isub C A7 d3_14 rfl ?_
    show OwnWP _ _ _ _ _ _ _ _ _ T6 (mkF m 15 #[.val (.ref a), .val (.int (4 : Int32)), .val (.int (1 : Int32)), .val (.long (4294967296 : Int64)), .second, .val (.long ((((lo + (4294967296 : Int64)) - (1 : Int64)) / (4294967296 : Int64)) * (4294967296 : Int64))), .second] [(.int (3 : Int32)), (.int (8 : Int32)), (.long (1 : Int64))])
    refine ow_imul C A7 d3_15 rfl ?_
    show OwnWP _ _ _ _ _ _ _ _ _ T6 (mkF m 16 #[.val (.ref a), .val (.int (4 : Int32)), .val (.int (1 : Int32)), .val (.long (4294967296 : Int64)), .second, .val (.long ((((lo + (4294967296 : Int64)) - (1 : Int64)) / (4294967296 : Int64)) * (4294967296 : Int64))), .second] [(.int (24 : Int32)), (.long (1 : Int64))])
    refine ow_lshl C A7 d3_16 rfl ?_
    show OwnWP _ _ _ _ _ _ _ _ _ T6 (mkF m 17 #[.val (.ref a), .val (.int (4 : Int32)), .val (.int (1 : Int32)), .val (.long (4294967296 : Int64)), .second, .val (.long ((((lo + (4294967296 : Int64)) - (1 : Int64)) / (4294967296 : Int64)) * (4294967296 : Int64))), .second] [(.long (16777216 : Int64))])
    refine ow_lstoreN C A7 d3_17 (Ls' := #[.val (.ref a), .val (.int (4 : Int32)), .val (.int (1 : Int32)), .val (.long (16777216 : Int64)), .second, .val (.long ((((lo + (4294967296 : Int64)) - (1 : Int64)) / (4294967296 : Int64)) * (4294967296 : Int64))), .second]) rfl rfl ?_
    refine ow_aloadN C A7 d3_18 rfl rfl rfl ?_
    refine ow_getF C A7 tw_23 Via.refl xL1 d3_19 rfl ?_
    intro T9 A10
    refine ow_lloadN C A10 d3_22 rfl rfl ?_
    refine ow_ladd C A10 d3_23 rfl ?_
    refine ow_lconst C A10 d3_24 (v := 1) rfl rfl ?_
    refine ow_lsub C A10 d3_25 rfl ?_
    refine ow_lloadN C A10 d3_26 rfl rfl ?_
    refine ow_ldiv C A10 d3_27 (by decide) rfl ?_
    refine ow_lloadN C A10 d3_28 rfl rfl ?_
    refine ow_lmul C A10 d3_29 rfl ?_
    refine ow_lstore C A10 d3_30 (Ls' := #[.val (.ref a), .val (.int (4 : Int32)), .val (.int (1 : Int32)), .val (.long (16777216 : Int64)), .second, .val (.long ((((lo + (16777216 : Int64)) - (1 : Int64)) / (16777216 : Int64)) * (16777216 : Int64))), .second]) rfl rfl ?_
    refine ow_lload C A10 d3_32 rfl rfl ?_
    refine ow_aloadN C A10 d3_34 rfl rfl rfl ?_
    refine ow_getF C A10 tw_23 Via.refl xL1 d3_35 rfl ?_
    intro T11 A12
    refine ow_aloadN C A12 d3_38 rfl rfl rfl ?_
    refine ow_getF C A12 tw_12 Via.refl xR1 d3_39 rfl ?_
    intro T13 A14
    refine ow_ladd C A14 d3_42 rfl ?_
    refine ow_lcmp_ge C A14 d3_43 rfl d3_44 (by decide) (pcY := 58) (by decide) (pcN := 47) rfl (fun hc15 => ?_) (fun hc15 => ?_)
    · skip
      have vc16 : ¬ (((-lo.toInt) % 16777216 < ra.toInt)) := fun z => hc15 ((own_vc24 lo ra ⟨by omega, by omega⟩ hra).mpr z)
      refine ow_iinc C A14 d3_58 rfl (Ls' := #[.val (.ref a), .val (.int (4 : Int32)), .val (.int (2 : Int32)), .val (.long (16777216 : Int64)), .second, .val (.long ((((lo + (16777216 : Int64)) - (1 : Int64)) / (16777216 : Int64)) * (16777216 : Int64))), .second]) rfl rfl ?_
      refine ow_goto C A14 d3_61 (by decide) (pc' := 4) (by decide) ?_
      refine ow_iloadN C A14 d3_4 rfl rfl ?_
      refine ow_iconst C A14 d3_5 (v := 4) rfl rfl ?_
      refine ow_icmp_ge C A14 d3_6 (by decide) (pcY := 64) (by decide) (pcN := 9) rfl (fun zq => absurd (by decide) zq) (fun _ => ?_)
      refine ow_lconst C A14 d3_9 (v := 1) rfl rfl ?_
      refine ow_bipush C A14 d3_10 (v := 8) rfl rfl ?_
      refine ow_iconst C A14 d3_12 (v := 4) rfl rfl ?_
      refine ow_iloadN C A14 d3_13 rfl rfl ?_
      refine ow_isub C A14 d3_14 rfl ?_
      show OwnWP _ _ _ _ _ _ _ _ _ T13 (mkF m 15 #[.val (.ref a), .val (.int (4 : Int32)), .val (.int (2 : Int32)), .val (.long (16777216 : Int64)), .second, .val (.long ((((lo + (16777216 : Int64)) - (1 : Int64)) / (16777216 : Int64)) * (16777216 : Int64))), .second] [(.int (2 : Int32)), (.int (8 : Int32)), (.long (1 : Int64))])
      refine ow_imul C A14 d3_15 rfl ?_
      show OwnWP _ _ _ _ _ _ _ _ _ T13 (mkF m 16 #[.val (.ref a), .val (.int (4 : Int32)), .val (.int (2 : Int32)), .val (.long (16777216 : Int64)), .second, .val (.long ((((lo + (16777216 : Int64)) - (1 : Int64)) / (16777216 : Int64)) * (16777216 : Int64))), .second] [(.int (16 : Int32)), (.long (1 : Int64))])
      refine ow_lshl C A14 d3_16 rfl ?_
      show OwnWP _ _ _ _ _ _ _ _ _ T13 (mkF m 17 #[.val (.ref a), .val (.int (4 : Int32)), .val (.int (2 : Int32)), .val (.long (16777216 : Int64)), .second, .val (.long ((((lo + (16777216 : Int64)) - (1 : Int64)) / (16777216 : Int64)) * (16777216 : Int64))), .second] [(.long (65536 : Int64))])
      refine ow_lstoreN C A14 d3_17 (Ls' := #[.val (.ref a), .val (.int (4 : Int32)), .val (.int (2 : Int32)), .val (.long (65536 : Int64)), .second, .val (.long ((((lo + (16777216 : Int64)) - (1 : Int64)) / (16777216 : Int64)) * (16777216 : Int64))), .second]) rfl rfl ?_
      refine ow_aloadN C A14 d3_18 rfl rfl rfl ?_
      refine ow_getF C A14 tw_23 Via.refl xL1 d3_19 rfl ?_
      intro T17 A18
      refine ow_lloadN C A18 d3_22 rfl rfl ?_
      refine ow_ladd C A18 d3_23 rfl ?_
      refine ow_lconst C A18 d3_24 (v := 1) rfl rfl ?_
      refine ow_lsub C A18 d3_25 rfl ?_
      refine ow_lloadN C A18 d3_26 rfl rfl ?_
      refine ow_ldiv C A18 d3_27 (by decide) rfl ?_
      refine ow_lloadN C A18 d3_28 rfl rfl ?_
      refine ow_lmul C A18 d3_29 rfl ?_
      refine ow_lstore C A18 d3_30 (Ls' := #[.val (.ref a), .val (.int (4 : Int32)), .val (.int (2 : Int32)), .val (.long (65536 : Int64)), .second, .val (.long ((((lo + (65536 : Int64)) - (1 : Int64)) / (65536 : Int64)) * (65536 : Int64))), .second]) rfl rfl ?_
      refine ow_lload C A18 d3_32 rfl rfl ?_
      refine ow_aloadN C A18 d3_34 rfl rfl rfl ?_
      refine ow_getF C A18 tw_23 Via.refl xL1 d3_35 rfl ?_
      intro T19 A20
      refine ow_aloadN C A20 d3_38 rfl rfl rfl ?_
      refine ow_getF C A20 tw_12 Via.refl xR1 d3_39 rfl ?_
      intro T21 A22
      refine ow_ladd C A22 d3_42 rfl ?_
      refine ow_lcmp_ge C A22 d3_43 rfl d3_44 (by decide) (pcY := 58) (by decide) (pcN := 47) rfl (fun hc23 => ?_) (fun hc23 => ?_)
      · skip
        have vc24 : ¬ (((-lo.toInt) % 65536 < ra.toInt)) := fun z => hc23 ((own_vc16 lo ra ⟨by omega, by omega⟩ hra).mpr z)
        refine ow_iinc C A22 d3_58 rfl (Ls' := #[.val (.ref a), .val (.int (4 : Int32)), .val (.int (3 : Int32)), .val (.long (65536 : Int64)), .second, .val (.long ((((lo + (65536 : Int64)) - (1 : Int64)) / (65536 : Int64)) * (65536 : Int64))), .second]) rfl rfl ?_
        refine ow_goto C A22 d3_61 (by decide) (pc' := 4) (by decide) ?_
        refine ow_iloadN C A22 d3_4 rfl rfl ?_
        refine ow_iconst C A22 d3_5 (v := 4) rfl rfl ?_
        refine ow_icmp_ge C A22 d3_6 (by decide) (pcY := 64) (by decide) (pcN := 9) rfl (fun zq => absurd (by decide) zq) (fun _ => ?_)
        refine ow_lconst C A22 d3_9 (v := 1) rfl rfl ?_
        refine ow_bipush C A22 d3_10 (v := 8) rfl rfl ?_
        refine ow_iconst C A22 d3_12 (v := 4) rfl rfl ?_
        refine ow_iloadN C A22 d3_13 rfl rfl ?_
        refine ow_isub C A22 d3_14 rfl ?_
        show OwnWP _ _ _ _ _ _ _ _ _ T21 (mkF m 15 #[.val (.ref a), .val (.int (4 : Int32)), .val (.int (3 : Int32)), .val (.long (65536 : Int64)), .second, .val (.long ((((lo + (65536 : Int64)) - (1 : Int64)) / (65536 : Int64)) * (65536 : Int64))), .second] [(.int (1 : Int32)), (.int (8 : Int32)), (.long (1 : Int64))])
        refine ow_imul C A22 d3_15 rfl ?_
        show OwnWP _ _ _ _ _ _ _ _ _ T21 (mkF m 16 #[.val (.ref a), .val (.int (4 : Int32)), .val (.int (3 : Int32)), .val (.long (65536 : Int64)), .second, .val (.long ((((lo + (65536 : Int64)) - (1 : Int64)) / (65536 : Int64)) * (65536 : Int64))), .second] [(.int (8 : Int32)), (.long (1 : Int64))])
        refine ow_lshl C A22 d3_16 rfl ?_
        show OwnWP _ _ _ _ _ _ _ _ _ T21 (mkF m 17 #[.val (.ref a), .val (.int (4 : Int32)), .val (.int (3 : Int32)), .val (.long (65536 : Int64)), .second, .val (.long ((((lo + (65536 : Int64)) - (1 : Int64)) / (65536 : Int64)) * (65536 : Int64))), .second] [(.long (256 : Int64))])
        refine ow_lstoreN C A22 d3_17 (Ls' := #[.val (.ref a), .val (.int (4 : Int32)), .val (.int (3 : Int32)), .val (.long (256 : Int64)), .second, .val (.long ((((lo + (65536 : Int64)) - (1 : Int64)) / (65536 : Int64)) * (65536 : Int64))), .second]) rfl rfl ?_
        refine ow_aloadN C A22 d3_18 rfl rfl rfl ?_
        refine ow_getF C A22 tw_23 Via.refl xL1 d3_19 rfl ?_
        intro T25 A26
        refine ow_lloadN C A26 d3_22 rfl rfl ?_
        refine ow_ladd C A26 d3_23 rfl ?_
        refine ow_lconst C A26 d3_24 (v := 1) rfl rfl ?_
        refine ow_lsub C A26 d3_25 rfl ?_
        refine ow_lloadN C A26 d3_26 rfl rfl ?_
        refine ow_ldiv C A26 d3_27 (by decide) rfl ?_
        refine ow_lloadN C A26 d3_28 rfl rfl ?_
        refine ow_lmul C A26 d3_29 rfl ?_
        refine ow_lstore C A26 d3_30 (Ls' := #[.val (.ref a), .val (.int (4 : Int32)), .val (.int (3 : Int32)), .val (.long (256 : Int64)), .second, .val (.long ((((lo + (256 : Int64)) - (1 : Int64)) / (256 : Int64)) * (256 : Int64))), .second]) rfl rfl ?_
        refine ow_lload C A26 d3_32 rfl rfl ?_
        refine ow_aloadN C A26 d3_34 rfl rfl rfl ?_
        refine ow_getF C A26 tw_23 Via.refl xL1 d3_35 rfl ?_
        intro T27 A28
        refine ow_aloadN C A28 d3_38 rfl rfl rfl ?_
        refine ow_getF C A28 tw_12 Via.refl xR1 d3_39 rfl ?_
        intro T29 A30
        refine ow_ladd C A30 d3_42 rfl ?_
        refine ow_lcmp_ge C A30 d3_43 rfl d3_44 (by decide) (pcY := 58) (by decide) (pcN := 47) rfl (fun hc31 => ?_) (fun hc31 => ?_)
        · skip
          have vc32 : ¬ (((-lo.toInt) % 256 < ra.toInt)) := fun z => hc31 ((own_vc8 lo ra ⟨by omega, by omega⟩ hra).mpr z)
          refine ow_iinc C A30 d3_58 rfl (Ls' := #[.val (.ref a), .val (.int (4 : Int32)), .val (.int (4 : Int32)), .val (.long (256 : Int64)), .second, .val (.long ((((lo + (256 : Int64)) - (1 : Int64)) / (256 : Int64)) * (256 : Int64))), .second]) rfl rfl ?_
          refine ow_goto C A30 d3_61 (by decide) (pc' := 4) (by decide) ?_
          refine ow_iloadN C A30 d3_4 rfl rfl ?_
          refine ow_iconst C A30 d3_5 (v := 4) rfl rfl ?_
          refine ow_icmp_ge C A30 d3_6 (by decide) (pcY := 64) (by decide) (pcN := 9) rfl (fun _ => ?_) (fun zq => absurd zq (by decide))
          have elo : lo.toInt = lo.toInt + 0 := by omega
          have en : own_end L ra.toInt = 0 := by rw [own_end_lo L lo.toInt _ eim.1]; unfold own_end; rw [if_neg (by omega), if_neg (by omega), if_neg (by omega), if_neg (by omega)]
          have E33 := own_EI_sub lo lo he on bs N L ra.toInt 0 1 hE (by omega) elo (by omega) (by omega)
          refine ow_iconst C A30 d3_64 (v := 0) rfl rfl ?_
          refine ow_istoreN C A30 d3_65 (Ls' := #[.val (.ref a), .val (.int (4 : Int32)), .val (.int (0 : Int32)), .val (.long (256 : Int64)), .second, .val (.long ((((lo + (256 : Int64)) - (1 : Int64)) / (256 : Int64)) * (256 : Int64))), .second]) rfl rfl ?_
          refine ow_iloadN C A30 d3_66 rfl rfl ?_
          refine ow_iloadN C A30 d3_67 rfl rfl ?_
          refine ow_icmp_gt C A30 d3_68 (by decide) (pcY := 81) (by decide) (pcN := 71) rfl (fun zq => absurd zq (by decide)) (fun _ => ?_)
          refine ow_aloadN C A30 d3_71 rfl rfl rfl ?_
          refine ow_callP C A30 (argsL := []) xE1 (rm_shE l Z a0 hw a b kk lo ra he on bs N (L + 0) 1 h0 ⟨xE1, xL1, xR1, xH1, xO1, xB1, xN1, xV1, xU1⟩ E33 (by omega) (by omega) []) tw_25 tw_27 tw_3 tw_26 tw_4 tw_28 (by decide) (allS (Or.inl (List.mem_of_getElem? (i := 0) rfl)) (allS (Or.inl (List.mem_of_getElem? (i := 1) rfl)) all0)) (by decide) (by decide) (ck' := 0) (sk' := 0) rfl rfl (by decide) (by decide) rfl (lenOf pd_2 rfl) (S := []) rfl (W := 0) (Nat.le_of_eq rfl) d3_72 rfl ?_
          intro T34 v34 K34 hQ34 A34
          obtain ⟨rfl, lo34, he34, on34, bs34, O34, I34, l34⟩ := hQ34
          show OwnWP _ _ _ _ _ _ _ _ _ T34 (mkF m 75 #[.val (.ref a), .val (.int (4 : Int32)), .val (.int (0 : Int32)), .val (.long (256 : Int64)), .second, .val (.long ((((lo + (256 : Int64)) - (1 : Int64)) / (256 : Int64)) * (256 : Int64))), .second] [])
          obtain ⟨xE35, xL35, xR35, xH35, xO35, xB35, xN35, xV35, xU35⟩ := O34
          have J34 := own_EI_sub lo34 lo34 he34 on34 bs34 _ _ _ 0 1 I34 (by omega) (by omega) (by omega) (by omega)
          rw [Int.add_zero] at J34
          refine ow_iinc C A34 d3_75 rfl (Ls' := #[.val (.ref a), .val (.int (4 : Int32)), .val (.int (1 : Int32)), .val (.long (256 : Int64)), .second, .val (.long ((((lo + (256 : Int64)) - (1 : Int64)) / (256 : Int64)) * (256 : Int64))), .second]) rfl rfl ?_
          refine ow_goto C A34 d3_78 (by decide) (pc' := 66) (by decide) ?_
          refine ow_iloadN C A34 d3_66 rfl rfl ?_
          refine ow_iloadN C A34 d3_67 rfl rfl ?_
          refine ow_icmp_gt C A34 d3_68 (by decide) (pcY := 81) (by decide) (pcN := 71) rfl (fun zq => absurd zq (by decide)) (fun _ => ?_)
          refine ow_aloadN C A34 d3_71 rfl rfl rfl ?_
          refine ow_callP C A34 (argsL := []) xE35 (rm_shE l Z a0 hw a b kk lo34 ra he34 on34 bs34 (N + 1) (256 * (L + 0)) 1 T34.heap ⟨xE35, xL35, xR35, xH35, xO35, xB35, xN35, xV35, xU35⟩ J34 (by omega) (by omega) []) tw_25 tw_27 tw_3 tw_26 tw_4 tw_28 (by decide) (allS (Or.inl (List.mem_of_getElem? (i := 0) rfl)) (allS (Or.inl (List.mem_of_getElem? (i := 1) rfl)) all0)) (by decide) (by decide) (ck' := 0) (sk' := 0) rfl rfl (by decide) (by decide) rfl (lenOf pd_2 rfl) (S := []) rfl (W := 0) (Nat.le_of_eq rfl) d3_72 rfl ?_
          intro T36 v36 K36 hQ36 A36
          obtain ⟨rfl, lo36, he36, on36, bs36, O36, I36, l36⟩ := hQ36
          show OwnWP _ _ _ _ _ _ _ _ _ T36 (mkF m 75 #[.val (.ref a), .val (.int (4 : Int32)), .val (.int (1 : Int32)), .val (.long (256 : Int64)), .second, .val (.long ((((lo + (256 : Int64)) - (1 : Int64)) / (256 : Int64)) * (256 : Int64))), .second] [])
          obtain ⟨xE37, xL37, xR37, xH37, xO37, xB37, xN37, xV37, xU37⟩ := O36
          have J36 := own_EI_sub lo36 lo36 he36 on36 bs36 _ _ _ 0 1 I36 (by omega) (by omega) (by omega) (by omega)
          rw [Int.add_zero] at J36
          refine ow_iinc C A36 d3_75 rfl (Ls' := #[.val (.ref a), .val (.int (4 : Int32)), .val (.int (2 : Int32)), .val (.long (256 : Int64)), .second, .val (.long ((((lo + (256 : Int64)) - (1 : Int64)) / (256 : Int64)) * (256 : Int64))), .second]) rfl rfl ?_
          refine ow_goto C A36 d3_78 (by decide) (pc' := 66) (by decide) ?_
          refine ow_iloadN C A36 d3_66 rfl rfl ?_
          refine ow_iloadN C A36 d3_67 rfl rfl ?_
          refine ow_icmp_gt C A36 d3_68 (by decide) (pcY := 81) (by decide) (pcN := 71) rfl (fun zq => absurd zq (by decide)) (fun _ => ?_)
          refine ow_aloadN C A36 d3_71 rfl rfl rfl ?_
          refine ow_callP C A36 (argsL := []) xE37 (rm_shE l Z a0 hw a b kk lo36 ra he36 on36 bs36 ((N + 1) + 1) (256 * (256 * (L + 0))) 1 T36.heap ⟨xE37, xL37, xR37, xH37, xO37, xB37, xN37, xV37, xU37⟩ J36 (by omega) (by omega) []) tw_25 tw_27 tw_3 tw_26 tw_4 tw_28 (by decide) (allS (Or.inl (List.mem_of_getElem? (i := 0) rfl)) (allS (Or.inl (List.mem_of_getElem? (i := 1) rfl)) all0)) (by decide) (by decide) (ck' := 0) (sk' := 0) rfl rfl (by decide) (by decide) rfl (lenOf pd_2 rfl) (S := []) rfl (W := 0) (Nat.le_of_eq rfl) d3_72 rfl ?_
          intro T38 v38 K38 hQ38 A38
          obtain ⟨rfl, lo38, he38, on38, bs38, O38, I38, l38⟩ := hQ38
          show OwnWP _ _ _ _ _ _ _ _ _ T38 (mkF m 75 #[.val (.ref a), .val (.int (4 : Int32)), .val (.int (2 : Int32)), .val (.long (256 : Int64)), .second, .val (.long ((((lo + (256 : Int64)) - (1 : Int64)) / (256 : Int64)) * (256 : Int64))), .second] [])
          obtain ⟨xE39, xL39, xR39, xH39, xO39, xB39, xN39, xV39, xU39⟩ := O38
          have J38 := own_EI_sub lo38 lo38 he38 on38 bs38 _ _ _ 0 1 I38 (by omega) (by omega) (by omega) (by omega)
          rw [Int.add_zero] at J38
          refine ow_iinc C A38 d3_75 rfl (Ls' := #[.val (.ref a), .val (.int (4 : Int32)), .val (.int (3 : Int32)), .val (.long (256 : Int64)), .second, .val (.long ((((lo + (256 : Int64)) - (1 : Int64)) / (256 : Int64)) * (256 : Int64))), .second]) rfl rfl ?_
          refine ow_goto C A38 d3_78 (by decide) (pc' := 66) (by decide) ?_
          refine ow_iloadN C A38 d3_66 rfl rfl ?_
          refine ow_iloadN C A38 d3_67 rfl rfl ?_
          refine ow_icmp_gt C A38 d3_68 (by decide) (pcY := 81) (by decide) (pcN := 71) rfl (fun zq => absurd zq (by decide)) (fun _ => ?_)
          refine ow_aloadN C A38 d3_71 rfl rfl rfl ?_
          refine ow_callP C A38 (argsL := []) xE39 (rm_shE l Z a0 hw a b kk lo38 ra he38 on38 bs38 (((N + 1) + 1) + 1) (256 * (256 * (256 * (L + 0)))) 1 T38.heap ⟨xE39, xL39, xR39, xH39, xO39, xB39, xN39, xV39, xU39⟩ J38 (by omega) (by omega) []) tw_25 tw_27 tw_3 tw_26 tw_4 tw_28 (by decide) (allS (Or.inl (List.mem_of_getElem? (i := 0) rfl)) (allS (Or.inl (List.mem_of_getElem? (i := 1) rfl)) all0)) (by decide) (by decide) (ck' := 0) (sk' := 0) rfl rfl (by decide) (by decide) rfl (lenOf pd_2 rfl) (S := []) rfl (W := 0) (Nat.le_of_eq rfl) d3_72 rfl ?_
          intro T40 v40 K40 hQ40 A40
          obtain ⟨rfl, lo40, he40, on40, bs40, O40, I40, l40⟩ := hQ40
          show OwnWP _ _ _ _ _ _ _ _ _ T40 (mkF m 75 #[.val (.ref a), .val (.int (4 : Int32)), .val (.int (3 : Int32)), .val (.long (256 : Int64)), .second, .val (.long ((((lo + (256 : Int64)) - (1 : Int64)) / (256 : Int64)) * (256 : Int64))), .second] [])
          obtain ⟨xE41, xL41, xR41, xH41, xO41, xB41, xN41, xV41, xU41⟩ := O40
          have J40 := own_EI_sub lo40 lo40 he40 on40 bs40 _ _ _ 0 1 I40 (by omega) (by omega) (by omega) (by omega)
          rw [Int.add_zero] at J40
          refine ow_iinc C A40 d3_75 rfl (Ls' := #[.val (.ref a), .val (.int (4 : Int32)), .val (.int (4 : Int32)), .val (.long (256 : Int64)), .second, .val (.long ((((lo + (256 : Int64)) - (1 : Int64)) / (256 : Int64)) * (256 : Int64))), .second]) rfl rfl ?_
          refine ow_goto C A40 d3_78 (by decide) (pc' := 66) (by decide) ?_
          refine ow_iloadN C A40 d3_66 rfl rfl ?_
          refine ow_iloadN C A40 d3_67 rfl rfl ?_
          refine ow_icmp_gt C A40 d3_68 (by decide) (pcY := 81) (by decide) (pcN := 71) rfl (fun zq => absurd zq (by decide)) (fun _ => ?_)
          refine ow_aloadN C A40 d3_71 rfl rfl rfl ?_
          refine ow_callP C A40 (argsL := []) xE41 (rm_shE l Z a0 hw a b kk lo40 ra he40 on40 bs40 ((((N + 1) + 1) + 1) + 1) (256 * (256 * (256 * (256 * (L + 0))))) 1 T40.heap ⟨xE41, xL41, xR41, xH41, xO41, xB41, xN41, xV41, xU41⟩ J40 (by omega) (by omega) []) tw_25 tw_27 tw_3 tw_26 tw_4 tw_28 (by decide) (allS (Or.inl (List.mem_of_getElem? (i := 0) rfl)) (allS (Or.inl (List.mem_of_getElem? (i := 1) rfl)) all0)) (by decide) (by decide) (ck' := 0) (sk' := 0) rfl rfl (by decide) (by decide) rfl (lenOf pd_2 rfl) (S := []) rfl (W := 0) (Nat.le_of_eq rfl) d3_72 rfl ?_
          intro T42 v42 K42 hQ42 A42
          obtain ⟨rfl, lo42, he42, on42, bs42, O42, I42, l42⟩ := hQ42
          show OwnWP _ _ _ _ _ _ _ _ _ T42 (mkF m 75 #[.val (.ref a), .val (.int (4 : Int32)), .val (.int (4 : Int32)), .val (.long (256 : Int64)), .second, .val (.long ((((lo + (256 : Int64)) - (1 : Int64)) / (256 : Int64)) * (256 : Int64))), .second] [])
          obtain ⟨xE43, xL43, xR43, xH43, xO43, xB43, xN43, xV43, xU43⟩ := O42
          have J42 := own_EI_sub lo42 lo42 he42 on42 bs42 _ _ _ 0 1 I42 (by omega) (by omega) (by omega) (by omega)
          rw [Int.add_zero] at J42
          refine ow_iinc C A42 d3_75 rfl (Ls' := #[.val (.ref a), .val (.int (4 : Int32)), .val (.int (5 : Int32)), .val (.long (256 : Int64)), .second, .val (.long ((((lo + (256 : Int64)) - (1 : Int64)) / (256 : Int64)) * (256 : Int64))), .second]) rfl rfl ?_
          refine ow_goto C A42 d3_78 (by decide) (pc' := 66) (by decide) ?_
          refine ow_iloadN C A42 d3_66 rfl rfl ?_
          refine ow_iloadN C A42 d3_67 rfl rfl ?_
          refine ow_icmp_gt C A42 d3_68 (by decide) (pcY := 81) (by decide) (pcN := 71) rfl (fun _ => ?_) (fun zq => absurd (by decide) zq)
          refine ow_aloadN C A42 d3_81 rfl rfl rfl ?_
          refine ow_getF C A42 tw_33 Via.refl xN43 d3_82 rfl ?_
          intro T44 A45
          refine ow_istoreN C A45 d3_85 (Ls' := #[.val (.ref a), .val (.int (4 : Int32)), .val (.int (Int32.ofNat (bs42).length)), .val (.long (256 : Int64)), .second, .val (.long ((((lo + (256 : Int64)) - (1 : Int64)) / (256 : Int64)) * (256 : Int64))), .second]) rfl rfl ?_
          have F46 := own_EI_fin _ _ _ _ (N + 4) _ _ ((L + 0) / 1) J42 l42 (by omega)
          have O946 : Enc Z T42.heap a b kk lo42 ra he42 on42 bs42 := ⟨xE43, xL43, xR43, xH43, xO43, xB43, xN43, xV43, xU43⟩
          have hlb46 := F46.1
          refine fin_loop hw C a b kk lo42 ra he42 on42 bs42 (4 : Int32) (.val (.long (256 : Int64))) (.second) (.val (.long ((((lo + (256 : Int64)) - (1 : Int64)) / (256 : Int64)) * (256 : Int64)))) (.second) O946 (by omega) bs42.length _ (Nat.le_refl _) A45 ?_
          intro T46 k46 hk46 ha46 hb46 A46
          refine ow_aloadN C A46 d3_107 rfl rfl rfl ?_
          refine ow_getF C A46 tw_16 Via.refl xB43 d3_108 rfl ?_
          intro T47 A48
          refine ow_iloadN C A48 d3_111 rfl rfl ?_
          have hk32 : k46 < 32 := by omega
          have ib := own_inb k46 hk32
          have cl := own_cl k46 (by omega)
          have mn := own_mn k46 hk32
          refine ow_callS C A48 (argsL := [(.ref b), (.int (Int32.ofNat k46))]) (rm_copy l Z a0 hw b kk (32 : Int32) (Int32.ofNat k46) k46 (bs42.map Value.int) T42.heap xV43 (own_lt32c _ hk32) ib.1 (by rw [cl]; omega) (by rw [mn]; exact ib.1) (by rw [mn]; exact cl) (by rw [mn, cl]; show 0 + k46 ≤ 32; omega) (by rw [mn, cl]; show 0 + k46 ≤ k46; omega) []) tw_35 tw_36 tw_37 tw_38 (by decide) all0 (by decide) (by decide) (ck' := 1) (sk' := 32) rfl rfl (by decide) (by decide) rfl (lenOf pd_3 rfl) (S := []) rfl (W := 0) (Nat.le_of_eq rfl) d3_112 rfl ?_
          intro T49 v49 K49 hQ49 A49
          obtain ⟨rr49, kr49, rfl, gr49, yR49⟩ := hQ49
          show OwnWP _ _ _ _ _ _ _ _ _ T49 (mkF m 115 #[.val (.ref a), .val (.int (4 : Int32)), .val (.int (Int32.ofNat k46)), .val (.long (256 : Int64)), .second, .val (.long ((((lo + (256 : Int64)) - (1 : Int64)) / (256 : Int64)) * (256 : Int64))), .second] [(.ref rr49)])
          refine ow_areturn C A49 (t := (.array .byte)) rfl rfl rfl d3_115 (by decide) (by decide) ?_
          have S9 := own_strip bs42 k46 (N + 4) (by omega) ha46 hb46 F46.2.2
          have D9 := own_finD bs42 N 4 ((L + 0) / 1) F46.1 (by decide) F46.2.1
          have p9 : (256 : Int) ^ (4 - 4) = 1 := rfl
          rw [p9] at D9
          rw [own_take_map bs42 k46 (by omega)] at yR49
          have g9 := Nat.le_trans (ow_le A48) gr49
          refine ⟨rr49, kr49, bs42.take k46, rfl, g9, ?_, S9.1, S9.2.1, by rw [S9.2.2.1]; omega, ?_⟩
          · rw [S9.2.2.1]; exact yR49
          · rw [S9.2.2.2, D9, en]; omega
        · skip
          have vc50 : ((-lo.toInt) % 256 < ra.toInt) := (own_vc8 lo ra ⟨by omega, by omega⟩ hra).mp hc31
          refine ow_aloadN C A30 d3_47 rfl rfl rfl ?_
          refine ow_lload C A30 d3_48 rfl rfl ?_
          refine ow_putF C A30 tw_23 Via.refl xL1 xE1 tw_24 tw_3 (ty := .long) (by decide) rfl rfl (Or.inl (List.mem_of_getElem? (i := 0) rfl)) d3_50 rfl ?_
          intro T51 h53 W54 A52
          have f55 := xL1.same W54
          refine ow_iloadN C A52 d3_53 rfl rfl ?_
          refine ow_istoreN C A52 d3_54 (Ls' := #[.val (.ref a), .val (.int (3 : Int32)), .val (.int (3 : Int32)), .val (.long (256 : Int64)), .second, .val (.long ((((lo + (256 : Int64)) - (1 : Int64)) / (256 : Int64)) * (256 : Int64))), .second]) rfl rfl ?_
          refine ow_goto C A52 d3_55 (by decide) (pc' := 64) (by decide) ?_
          have elv56 := own_val8 lo ⟨by omega, by omega⟩
          obtain ⟨lv56, hlv56⟩ : ∃ z, z = ((((lo + (256 : Int64)) - (1 : Int64)) / (256 : Int64)) * (256 : Int64)) := ⟨_, rfl⟩
          have f57 : Fld Z h53 a "com/example/phasorwire/phasorwire/RangeEncoder" "low" "J" (.long lv56) := by have q := f55; rw [hlv56]; exact q
          rw [← hlv56] at elv56
          have en : own_end L ra.toInt = ((-lo.toInt) % 256) := by rw [own_end_lo L lo.toInt _ eim.1]; unfold own_end; rw [if_neg (by omega), if_neg (by omega), if_neg (by omega), if_pos (by omega)]
          have E56 := own_EI_sub lo lv56 he on bs N L ra.toInt ((-lo.toInt) % 256) 1 hE (by omega) elv56 (by omega) (by omega)
          refine ow_iconst C A52 d3_64 (v := 0) rfl rfl ?_
          refine ow_istoreN C A52 d3_65 (Ls' := #[.val (.ref a), .val (.int (3 : Int32)), .val (.int (0 : Int32)), .val (.long (256 : Int64)), .second, .val (.long ((((lo + (256 : Int64)) - (1 : Int64)) / (256 : Int64)) * (256 : Int64))), .second]) rfl rfl ?_
          refine ow_iloadN C A52 d3_66 rfl rfl ?_
          refine ow_iloadN C A52 d3_67 rfl rfl ?_
          refine ow_icmp_gt C A52 d3_68 (by decide) (pcY := 81) (by decide) (pcN := 71) rfl (fun zq => absurd zq (by decide)) (fun _ => ?_)
          refine ow_aloadN C A52 d3_71 rfl rfl rfl ?_
          have f58 := (xE1.wr W54)
          have f59 := (xR1.other W54 (Or.inr (sn_25 hw)))
          have f60 := (xH1.other W54 (Or.inr (sn_26 hw)))
          have f61 := (xO1.other W54 (Or.inr (sn_27 hw)))
          have f62 := (xB1.other W54 (Or.inr (sn_28 hw)))
          have f63 := (xN1.other W54 (Or.inr (sn_29 hw)))
          have f64 := (xV1.other W54 (Ne.symm xU1))
          refine ow_callP C A52 (argsL := []) f58 (rm_shE l Z a0 hw a b kk lv56 ra he on bs N (L + ((-lo.toInt) % 256)) 1 h53 ⟨f58, f57, f59, f60, f61, f62, f63, f64, xU1⟩ E56 (by omega) (by omega) []) tw_25 tw_27 tw_3 tw_26 tw_4 tw_28 (by decide) (allS (Or.inl (List.mem_of_getElem? (i := 0) rfl)) (allS (Or.inl (List.mem_of_getElem? (i := 1) rfl)) all0)) (by decide) (by decide) (ck' := 0) (sk' := 0) rfl rfl (by decide) (by decide) rfl (lenOf pd_2 rfl) (S := []) rfl (W := 0) (Nat.le_of_eq rfl) d3_72 rfl ?_
          intro T65 v65 K65 hQ65 A65
          obtain ⟨rfl, lo65, he65, on65, bs65, O65, I65, l65⟩ := hQ65
          show OwnWP _ _ _ _ _ _ _ _ _ T65 (mkF m 75 #[.val (.ref a), .val (.int (3 : Int32)), .val (.int (0 : Int32)), .val (.long (256 : Int64)), .second, .val (.long ((((lo + (256 : Int64)) - (1 : Int64)) / (256 : Int64)) * (256 : Int64))), .second] [])
          obtain ⟨xE66, xL66, xR66, xH66, xO66, xB66, xN66, xV66, xU66⟩ := O65
          have J65 := own_EI_sub lo65 lo65 he65 on65 bs65 _ _ _ 0 1 I65 (by omega) (by omega) (by omega) (by omega)
          rw [Int.add_zero] at J65
          refine ow_iinc C A65 d3_75 rfl (Ls' := #[.val (.ref a), .val (.int (3 : Int32)), .val (.int (1 : Int32)), .val (.long (256 : Int64)), .second, .val (.long ((((lo + (256 : Int64)) - (1 : Int64)) / (256 : Int64)) * (256 : Int64))), .second]) rfl rfl ?_
          refine ow_goto C A65 d3_78 (by decide) (pc' := 66) (by decide) ?_
          refine ow_iloadN C A65 d3_66 rfl rfl ?_
          refine ow_iloadN C A65 d3_67 rfl rfl ?_
          refine ow_icmp_gt C A65 d3_68 (by decide) (pcY := 81) (by decide) (pcN := 71) rfl (fun zq => absurd zq (by decide)) (fun _ => ?_)
          refine ow_aloadN C A65 d3_71 rfl rfl rfl ?_
          refine ow_callP C A65 (argsL := []) xE66 (rm_shE l Z a0 hw a b kk lo65 ra he65 on65 bs65 (N + 1) (256 * (L + ((-lo.toInt) % 256))) 1 T65.heap ⟨xE66, xL66, xR66, xH66, xO66, xB66, xN66, xV66, xU66⟩ J65 (by omega) (by omega) []) tw_25 tw_27 tw_3 tw_26 tw_4 tw_28 (by decide) (allS (Or.inl (List.mem_of_getElem? (i := 0) rfl)) (allS (Or.inl (List.mem_of_getElem? (i := 1) rfl)) all0)) (by decide) (by decide) (ck' := 0) (sk' := 0) rfl rfl (by decide) (by decide) rfl (lenOf pd_2 rfl) (S := []) rfl (W := 0) (Nat.le_of_eq rfl) d3_72 rfl ?_
          intro T67 v67 K67 hQ67 A67
          obtain ⟨rfl, lo67, he67, on67, bs67, O67, I67, l67⟩ := hQ67
          show OwnWP _ _ _ _ _ _ _ _ _ T67 (mkF m 75 #[.val (.ref a), .val (.int (3 : Int32)), .val (.int (1 : Int32)), .val (.long (256 : Int64)), .second, .val (.long ((((lo + (256 : Int64)) - (1 : Int64)) / (256 : Int64)) * (256 : Int64))), .second] [])
          obtain ⟨xE68, xL68, xR68, xH68, xO68, xB68, xN68, xV68, xU68⟩ := O67
          have J67 := own_EI_sub lo67 lo67 he67 on67 bs67 _ _ _ 0 1 I67 (by omega) (by omega) (by omega) (by omega)
          rw [Int.add_zero] at J67
          refine ow_iinc C A67 d3_75 rfl (Ls' := #[.val (.ref a), .val (.int (3 : Int32)), .val (.int (2 : Int32)), .val (.long (256 : Int64)), .second, .val (.long ((((lo + (256 : Int64)) - (1 : Int64)) / (256 : Int64)) * (256 : Int64))), .second]) rfl rfl ?_
          refine ow_goto C A67 d3_78 (by decide) (pc' := 66) (by decide) ?_
          refine ow_iloadN C A67 d3_66 rfl rfl ?_
          refine ow_iloadN C A67 d3_67 rfl rfl ?_
          refine ow_icmp_gt C A67 d3_68 (by decide) (pcY := 81) (by decide) (pcN := 71) rfl (fun zq => absurd zq (by decide)) (fun _ => ?_)
          refine ow_aloadN C A67 d3_71 rfl rfl rfl ?_
          refine ow_callP C A67 (argsL := []) xE68 (rm_shE l Z a0 hw a b kk lo67 ra he67 on67 bs67 ((N + 1) + 1) (256 * (256 * (L + ((-lo.toInt) % 256)))) 1 T67.heap ⟨xE68, xL68, xR68, xH68, xO68, xB68, xN68, xV68, xU68⟩ J67 (by omega) (by omega) []) tw_25 tw_27 tw_3 tw_26 tw_4 tw_28 (by decide) (allS (Or.inl (List.mem_of_getElem? (i := 0) rfl)) (allS (Or.inl (List.mem_of_getElem? (i := 1) rfl)) all0)) (by decide) (by decide) (ck' := 0) (sk' := 0) rfl rfl (by decide) (by decide) rfl (lenOf pd_2 rfl) (S := []) rfl (W := 0) (Nat.le_of_eq rfl) d3_72 rfl ?_
          intro T69 v69 K69 hQ69 A69
          obtain ⟨rfl, lo69, he69, on69, bs69, O69, I69, l69⟩ := hQ69
          show OwnWP _ _ _ _ _ _ _ _ _ T69 (mkF m 75 #[.val (.ref a), .val (.int (3 : Int32)), .val (.int (2 : Int32)), .val (.long (256 : Int64)), .second, .val (.long ((((lo + (256 : Int64)) - (1 : Int64)) / (256 : Int64)) * (256 : Int64))), .second] [])
          obtain ⟨xE70, xL70, xR70, xH70, xO70, xB70, xN70, xV70, xU70⟩ := O69
          have J69 := own_EI_sub lo69 lo69 he69 on69 bs69 _ _ _ 0 1 I69 (by omega) (by omega) (by omega) (by omega)
          rw [Int.add_zero] at J69
          refine ow_iinc C A69 d3_75 rfl (Ls' := #[.val (.ref a), .val (.int (3 : Int32)), .val (.int (3 : Int32)), .val (.long (256 : Int64)), .second, .val (.long ((((lo + (256 : Int64)) - (1 : Int64)) / (256 : Int64)) * (256 : Int64))), .second]) rfl rfl ?_
          refine ow_goto C A69 d3_78 (by decide) (pc' := 66) (by decide) ?_
          refine ow_iloadN C A69 d3_66 rfl rfl ?_
          refine ow_iloadN C A69 d3_67 rfl rfl ?_
          refine ow_icmp_gt C A69 d3_68 (by decide) (pcY := 81) (by decide) (pcN := 71) rfl (fun zq => absurd zq (by decide)) (fun _ => ?_)
          refine ow_aloadN C A69 d3_71 rfl rfl rfl ?_
          refine ow_callP C A69 (argsL := []) xE70 (rm_shE l Z a0 hw a b kk lo69 ra he69 on69 bs69 (((N + 1) + 1) + 1) (256 * (256 * (256 * (L + ((-lo.toInt) % 256))))) 1 T69.heap ⟨xE70, xL70, xR70, xH70, xO70, xB70, xN70, xV70, xU70⟩ J69 (by omega) (by omega) []) tw_25 tw_27 tw_3 tw_26 tw_4 tw_28 (by decide) (allS (Or.inl (List.mem_of_getElem? (i := 0) rfl)) (allS (Or.inl (List.mem_of_getElem? (i := 1) rfl)) all0)) (by decide) (by decide) (ck' := 0) (sk' := 0) rfl rfl (by decide) (by decide) rfl (lenOf pd_2 rfl) (S := []) rfl (W := 0) (Nat.le_of_eq rfl) d3_72 rfl ?_
          intro T71 v71 K71 hQ71 A71
          obtain ⟨rfl, lo71, he71, on71, bs71, O71, I71, l71⟩ := hQ71
          show OwnWP _ _ _ _ _ _ _ _ _ T71 (mkF m 75 #[.val (.ref a), .val (.int (3 : Int32)), .val (.int (3 : Int32)), .val (.long (256 : Int64)), .second, .val (.long ((((lo + (256 : Int64)) - (1 : Int64)) / (256 : Int64)) * (256 : Int64))), .second] [])
          obtain ⟨xE72, xL72, xR72, xH72, xO72, xB72, xN72, xV72, xU72⟩ := O71
          have J71 := own_EI_sub lo71 lo71 he71 on71 bs71 _ _ _ 0 1 I71 (by omega) (by omega) (by omega) (by omega)
          rw [Int.add_zero] at J71
          refine ow_iinc C A71 d3_75 rfl (Ls' := #[.val (.ref a), .val (.int (3 : Int32)), .val (.int (4 : Int32)), .val (.long (256 : Int64)), .second, .val (.long ((((lo + (256 : Int64)) - (1 : Int64)) / (256 : Int64)) * (256 : Int64))), .second]) rfl rfl ?_
          refine ow_goto C A71 d3_78 (by decide) (pc' := 66) (by decide) ?_
          refine ow_iloadN C A71 d3_66 rfl rfl ?_
          refine ow_iloadN C A71 d3_67 rfl rfl ?_
          refine ow_icmp_gt C A71 d3_68 (by decide) (pcY := 81) (by decide) (pcN := 71) rfl (fun _ => ?_) (fun zq => absurd (by decide) zq)
          refine ow_aloadN C A71 d3_81 rfl rfl rfl ?_
          refine ow_getF C A71 tw_33 Via.refl xN72 d3_82 rfl ?_
          intro T73 A74
          refine ow_istoreN C A74 d3_85 (Ls' := #[.val (.ref a), .val (.int (3 : Int32)), .val (.int (Int32.ofNat (bs71).length)), .val (.long (256 : Int64)), .second, .val (.long ((((lo + (256 : Int64)) - (1 : Int64)) / (256 : Int64)) * (256 : Int64))), .second]) rfl rfl ?_
          have F75 := own_EI_fin _ _ _ _ (N + 3) _ _ ((L + ((-lo.toInt) % 256)) / 256) J71 l71 (by omega)
          have O975 : Enc Z T71.heap a b kk lo71 ra he71 on71 bs71 := ⟨xE72, xL72, xR72, xH72, xO72, xB72, xN72, xV72, xU72⟩
          have hlb75 := F75.1
          refine fin_loop hw C a b kk lo71 ra he71 on71 bs71 (3 : Int32) (.val (.long (256 : Int64))) (.second) (.val (.long ((((lo + (256 : Int64)) - (1 : Int64)) / (256 : Int64)) * (256 : Int64)))) (.second) O975 (by omega) bs71.length _ (Nat.le_refl _) A74 ?_
          intro T75 k75 hk75 ha75 hb75 A75
          refine ow_aloadN C A75 d3_107 rfl rfl rfl ?_
          refine ow_getF C A75 tw_16 Via.refl xB72 d3_108 rfl ?_
          intro T76 A77
          refine ow_iloadN C A77 d3_111 rfl rfl ?_
          have hk32 : k75 < 32 := by omega
          have ib := own_inb k75 hk32
          have cl := own_cl k75 (by omega)
          have mn := own_mn k75 hk32
          refine ow_callS C A77 (argsL := [(.ref b), (.int (Int32.ofNat k75))]) (rm_copy l Z a0 hw b kk (32 : Int32) (Int32.ofNat k75) k75 (bs71.map Value.int) T71.heap xV72 (own_lt32c _ hk32) ib.1 (by rw [cl]; omega) (by rw [mn]; exact ib.1) (by rw [mn]; exact cl) (by rw [mn, cl]; show 0 + k75 ≤ 32; omega) (by rw [mn, cl]; show 0 + k75 ≤ k75; omega) []) tw_35 tw_36 tw_37 tw_38 (by decide) all0 (by decide) (by decide) (ck' := 1) (sk' := 32) rfl rfl (by decide) (by decide) rfl (lenOf pd_3 rfl) (S := []) rfl (W := 0) (Nat.le_of_eq rfl) d3_112 rfl ?_
          intro T78 v78 K78 hQ78 A78
          obtain ⟨rr78, kr78, rfl, gr78, yR78⟩ := hQ78
          show OwnWP _ _ _ _ _ _ _ _ _ T78 (mkF m 115 #[.val (.ref a), .val (.int (3 : Int32)), .val (.int (Int32.ofNat k75)), .val (.long (256 : Int64)), .second, .val (.long ((((lo + (256 : Int64)) - (1 : Int64)) / (256 : Int64)) * (256 : Int64))), .second] [(.ref rr78)])
          refine ow_areturn C A78 (t := (.array .byte)) rfl rfl rfl d3_115 (by decide) (by decide) ?_
          have S9 := own_strip bs71 k75 (N + 4) (by omega) ha75 hb75 F75.2.2
          have D9 := own_finD bs71 N 3 ((L + ((-lo.toInt) % 256)) / 256) F75.1 (by decide) F75.2.1
          have p9 : (256 : Int) ^ (4 - 3) = 256 := rfl
          rw [p9] at D9
          rw [own_take_map bs71 k75 (by omega)] at yR78
          have g9 := Nat.le_trans (ow_le A77) gr78
          refine ⟨rr78, kr78, bs71.take k75, rfl, g9, ?_, S9.1, S9.2.1, by rw [S9.2.2.1]; omega, ?_⟩
          · rw [S9.2.2.1]; exact yR78
          · rw [S9.2.2.2, D9, en]; omega
      · skip
        have vc79 : ((-lo.toInt) % 65536 < ra.toInt) := (own_vc16 lo ra ⟨by omega, by omega⟩ hra).mp hc23
        refine ow_aloadN C A22 d3_47 rfl rfl rfl ?_
        refine ow_lload C A22 d3_48 rfl rfl ?_
        refine ow_putF C A22 tw_23 Via.refl xL1 xE1 tw_24 tw_3 (ty := .long) (by decide) rfl rfl (Or.inl (List.mem_of_getElem? (i := 0) rfl)) d3_50 rfl ?_
        intro T80 h82 W83 A81
        have f84 := xL1.same W83
        refine ow_iloadN C A81 d3_53 rfl rfl ?_
        refine ow_istoreN C A81 d3_54 (Ls' := #[.val (.ref a), .val (.int (2 : Int32)), .val (.int (2 : Int32)), .val (.long (65536 : Int64)), .second, .val (.long ((((lo + (65536 : Int64)) - (1 : Int64)) / (65536 : Int64)) * (65536 : Int64))), .second]) rfl rfl ?_
        refine ow_goto C A81 d3_55 (by decide) (pc' := 64) (by decide) ?_
        have elv85 := own_val16 lo ⟨by omega, by omega⟩
        obtain ⟨lv85, hlv85⟩ : ∃ z, z = ((((lo + (65536 : Int64)) - (1 : Int64)) / (65536 : Int64)) * (65536 : Int64)) := ⟨_, rfl⟩
        have f86 : Fld Z h82 a "com/example/phasorwire/phasorwire/RangeEncoder" "low" "J" (.long lv85) := by have q := f84; rw [hlv85]; exact q
        rw [← hlv85] at elv85
        have en : own_end L ra.toInt = ((-lo.toInt) % 65536) := by rw [own_end_lo L lo.toInt _ eim.1]; unfold own_end; rw [if_neg (by omega), if_neg (by omega), if_pos (by omega)]
        have E85 := own_EI_sub lo lv85 he on bs N L ra.toInt ((-lo.toInt) % 65536) 1 hE (by omega) elv85 (by omega) (by omega)
        refine ow_iconst C A81 d3_64 (v := 0) rfl rfl ?_
        refine ow_istoreN C A81 d3_65 (Ls' := #[.val (.ref a), .val (.int (2 : Int32)), .val (.int (0 : Int32)), .val (.long (65536 : Int64)), .second, .val (.long ((((lo + (65536 : Int64)) - (1 : Int64)) / (65536 : Int64)) * (65536 : Int64))), .second]) rfl rfl ?_
        refine ow_iloadN C A81 d3_66 rfl rfl ?_
        refine ow_iloadN C A81 d3_67 rfl rfl ?_
        refine ow_icmp_gt C A81 d3_68 (by decide) (pcY := 81) (by decide) (pcN := 71) rfl (fun zq => absurd zq (by decide)) (fun _ => ?_)
        refine ow_aloadN C A81 d3_71 rfl rfl rfl ?_
        have f87 := (xE1.wr W83)
        have f88 := (xR1.other W83 (Or.inr (sn_25 hw)))
        have f89 := (xH1.other W83 (Or.inr (sn_26 hw)))
        have f90 := (xO1.other W83 (Or.inr (sn_27 hw)))
        have f91 := (xB1.other W83 (Or.inr (sn_28 hw)))
        have f92 := (xN1.other W83 (Or.inr (sn_29 hw)))
        have f93 := (xV1.other W83 (Ne.symm xU1))
        refine ow_callP C A81 (argsL := []) f87 (rm_shE l Z a0 hw a b kk lv85 ra he on bs N (L + ((-lo.toInt) % 65536)) 1 h82 ⟨f87, f86, f88, f89, f90, f91, f92, f93, xU1⟩ E85 (by omega) (by omega) []) tw_25 tw_27 tw_3 tw_26 tw_4 tw_28 (by decide) (allS (Or.inl (List.mem_of_getElem? (i := 0) rfl)) (allS (Or.inl (List.mem_of_getElem? (i := 1) rfl)) all0)) (by decide) (by decide) (ck' := 0) (sk' := 0) rfl rfl (by decide) (by decide) rfl (lenOf pd_2 rfl) (S := []) rfl (W := 0) (Nat.le_of_eq rfl) d3_72 rfl ?_
        intro T94 v94 K94 hQ94 A94
        obtain ⟨rfl, lo94, he94, on94, bs94, O94, I94, l94⟩ := hQ94
        show OwnWP _ _ _ _ _ _ _ _ _ T94 (mkF m 75 #[.val (.ref a), .val (.int (2 : Int32)), .val (.int (0 : Int32)), .val (.long (65536 : Int64)), .second, .val (.long ((((lo + (65536 : Int64)) - (1 : Int64)) / (65536 : Int64)) * (65536 : Int64))), .second] [])
        obtain ⟨xE95, xL95, xR95, xH95, xO95, xB95, xN95, xV95, xU95⟩ := O94
        have J94 := own_EI_sub lo94 lo94 he94 on94 bs94 _ _ _ 0 1 I94 (by omega) (by omega) (by omega) (by omega)
        rw [Int.add_zero] at J94
        refine ow_iinc C A94 d3_75 rfl (Ls' := #[.val (.ref a), .val (.int (2 : Int32)), .val (.int (1 : Int32)), .val (.long (65536 : Int64)), .second, .val (.long ((((lo + (65536 : Int64)) - (1 : Int64)) / (65536 : Int64)) * (65536 : Int64))), .second]) rfl rfl ?_
        refine ow_goto C A94 d3_78 (by decide) (pc' := 66) (by decide) ?_
        refine ow_iloadN C A94 d3_66 rfl rfl ?_
        refine ow_iloadN C A94 d3_67 rfl rfl ?_
        refine ow_icmp_gt C A94 d3_68 (by decide) (pcY := 81) (by decide) (pcN := 71) rfl (fun zq => absurd zq (by decide)) (fun _ => ?_)
        refine ow_aloadN C A94 d3_71 rfl rfl rfl ?_
        refine ow_callP C A94 (argsL := []) xE95 (rm_shE l Z a0 hw a b kk lo94 ra he94 on94 bs94 (N + 1) (256 * (L + ((-lo.toInt) % 65536))) 1 T94.heap ⟨xE95, xL95, xR95, xH95, xO95, xB95, xN95, xV95, xU95⟩ J94 (by omega) (by omega) []) tw_25 tw_27 tw_3 tw_26 tw_4 tw_28 (by decide) (allS (Or.inl (List.mem_of_getElem? (i := 0) rfl)) (allS (Or.inl (List.mem_of_getElem? (i := 1) rfl)) all0)) (by decide) (by decide) (ck' := 0) (sk' := 0) rfl rfl (by decide) (by decide) rfl (lenOf pd_2 rfl) (S := []) rfl (W := 0) (Nat.le_of_eq rfl) d3_72 rfl ?_
        intro T96 v96 K96 hQ96 A96
        obtain ⟨rfl, lo96, he96, on96, bs96, O96, I96, l96⟩ := hQ96
        show OwnWP _ _ _ _ _ _ _ _ _ T96 (mkF m 75 #[.val (.ref a), .val (.int (2 : Int32)), .val (.int (1 : Int32)), .val (.long (65536 : Int64)), .second, .val (.long ((((lo + (65536 : Int64)) - (1 : Int64)) / (65536 : Int64)) * (65536 : Int64))), .second] [])
        obtain ⟨xE97, xL97, xR97, xH97, xO97, xB97, xN97, xV97, xU97⟩ := O96
        have J96 := own_EI_sub lo96 lo96 he96 on96 bs96 _ _ _ 0 1 I96 (by omega) (by omega) (by omega) (by omega)
        rw [Int.add_zero] at J96
        refine ow_iinc C A96 d3_75 rfl (Ls' := #[.val (.ref a), .val (.int (2 : Int32)), .val (.int (2 : Int32)), .val (.long (65536 : Int64)), .second, .val (.long ((((lo + (65536 : Int64)) - (1 : Int64)) / (65536 : Int64)) * (65536 : Int64))), .second]) rfl rfl ?_
        refine ow_goto C A96 d3_78 (by decide) (pc' := 66) (by decide) ?_
        refine ow_iloadN C A96 d3_66 rfl rfl ?_
        refine ow_iloadN C A96 d3_67 rfl rfl ?_
        refine ow_icmp_gt C A96 d3_68 (by decide) (pcY := 81) (by decide) (pcN := 71) rfl (fun zq => absurd zq (by decide)) (fun _ => ?_)
        refine ow_aloadN C A96 d3_71 rfl rfl rfl ?_
        refine ow_callP C A96 (argsL := []) xE97 (rm_shE l Z a0 hw a b kk lo96 ra he96 on96 bs96 ((N + 1) + 1) (256 * (256 * (L + ((-lo.toInt) % 65536)))) 1 T96.heap ⟨xE97, xL97, xR97, xH97, xO97, xB97, xN97, xV97, xU97⟩ J96 (by omega) (by omega) []) tw_25 tw_27 tw_3 tw_26 tw_4 tw_28 (by decide) (allS (Or.inl (List.mem_of_getElem? (i := 0) rfl)) (allS (Or.inl (List.mem_of_getElem? (i := 1) rfl)) all0)) (by decide) (by decide) (ck' := 0) (sk' := 0) rfl rfl (by decide) (by decide) rfl (lenOf pd_2 rfl) (S := []) rfl (W := 0) (Nat.le_of_eq rfl) d3_72 rfl ?_
        intro T98 v98 K98 hQ98 A98
        obtain ⟨rfl, lo98, he98, on98, bs98, O98, I98, l98⟩ := hQ98
        show OwnWP _ _ _ _ _ _ _ _ _ T98 (mkF m 75 #[.val (.ref a), .val (.int (2 : Int32)), .val (.int (2 : Int32)), .val (.long (65536 : Int64)), .second, .val (.long ((((lo + (65536 : Int64)) - (1 : Int64)) / (65536 : Int64)) * (65536 : Int64))), .second] [])
        obtain ⟨xE99, xL99, xR99, xH99, xO99, xB99, xN99, xV99, xU99⟩ := O98
        have J98 := own_EI_sub lo98 lo98 he98 on98 bs98 _ _ _ 0 1 I98 (by omega) (by omega) (by omega) (by omega)
        rw [Int.add_zero] at J98
        refine ow_iinc C A98 d3_75 rfl (Ls' := #[.val (.ref a), .val (.int (2 : Int32)), .val (.int (3 : Int32)), .val (.long (65536 : Int64)), .second, .val (.long ((((lo + (65536 : Int64)) - (1 : Int64)) / (65536 : Int64)) * (65536 : Int64))), .second]) rfl rfl ?_
        refine ow_goto C A98 d3_78 (by decide) (pc' := 66) (by decide) ?_
        refine ow_iloadN C A98 d3_66 rfl rfl ?_
        refine ow_iloadN C A98 d3_67 rfl rfl ?_
        refine ow_icmp_gt C A98 d3_68 (by decide) (pcY := 81) (by decide) (pcN := 71) rfl (fun _ => ?_) (fun zq => absurd (by decide) zq)
        refine ow_aloadN C A98 d3_81 rfl rfl rfl ?_
        refine ow_getF C A98 tw_33 Via.refl xN99 d3_82 rfl ?_
        intro T100 A101
        refine ow_istoreN C A101 d3_85 (Ls' := #[.val (.ref a), .val (.int (2 : Int32)), .val (.int (Int32.ofNat (bs98).length)), .val (.long (65536 : Int64)), .second, .val (.long ((((lo + (65536 : Int64)) - (1 : Int64)) / (65536 : Int64)) * (65536 : Int64))), .second]) rfl rfl ?_
        have F102 := own_EI_fin _ _ _ _ (N + 2) _ _ ((L + ((-lo.toInt) % 65536)) / 65536) J98 l98 (by omega)
        have O9102 : Enc Z T98.heap a b kk lo98 ra he98 on98 bs98 := ⟨xE99, xL99, xR99, xH99, xO99, xB99, xN99, xV99, xU99⟩
        have hlb102 := F102.1
        refine fin_loop hw C a b kk lo98 ra he98 on98 bs98 (2 : Int32) (.val (.long (65536 : Int64))) (.second) (.val (.long ((((lo + (65536 : Int64)) - (1 : Int64)) / (65536 : Int64)) * (65536 : Int64)))) (.second) O9102 (by omega) bs98.length _ (Nat.le_refl _) A101 ?_
        intro T102 k102 hk102 ha102 hb102 A102
        refine ow_aloadN C A102 d3_107 rfl rfl rfl ?_
        refine ow_getF C A102 tw_16 Via.refl xB99 d3_108 rfl ?_
        intro T103 A104
        refine ow_iloadN C A104 d3_111 rfl rfl ?_
        have hk32 : k102 < 32 := by omega
        have ib := own_inb k102 hk32
        have cl := own_cl k102 (by omega)
        have mn := own_mn k102 hk32
        refine ow_callS C A104 (argsL := [(.ref b), (.int (Int32.ofNat k102))]) (rm_copy l Z a0 hw b kk (32 : Int32) (Int32.ofNat k102) k102 (bs98.map Value.int) T98.heap xV99 (own_lt32c _ hk32) ib.1 (by rw [cl]; omega) (by rw [mn]; exact ib.1) (by rw [mn]; exact cl) (by rw [mn, cl]; show 0 + k102 ≤ 32; omega) (by rw [mn, cl]; show 0 + k102 ≤ k102; omega) []) tw_35 tw_36 tw_37 tw_38 (by decide) all0 (by decide) (by decide) (ck' := 1) (sk' := 32) rfl rfl (by decide) (by decide) rfl (lenOf pd_3 rfl) (S := []) rfl (W := 0) (Nat.le_of_eq rfl) d3_112 rfl ?_
        intro T105 v105 K105 hQ105 A105
        obtain ⟨rr105, kr105, rfl, gr105, yR105⟩ := hQ105
        show OwnWP _ _ _ _ _ _ _ _ _ T105 (mkF m 115 #[.val (.ref a), .val (.int (2 : Int32)), .val (.int (Int32.ofNat k102)), .val (.long (65536 : Int64)), .second, .val (.long ((((lo + (65536 : Int64)) - (1 : Int64)) / (65536 : Int64)) * (65536 : Int64))), .second] [(.ref rr105)])
        refine ow_areturn C A105 (t := (.array .byte)) rfl rfl rfl d3_115 (by decide) (by decide) ?_
        have S9 := own_strip bs98 k102 (N + 4) (by omega) ha102 hb102 F102.2.2
        have D9 := own_finD bs98 N 2 ((L + ((-lo.toInt) % 65536)) / 65536) F102.1 (by decide) F102.2.1
        have p9 : (256 : Int) ^ (4 - 2) = 65536 := rfl
        rw [p9] at D9
        rw [own_take_map bs98 k102 (by omega)] at yR105
        have g9 := Nat.le_trans (ow_le A104) gr105
        refine ⟨rr105, kr105, bs98.take k102, rfl, g9, ?_, S9.1, S9.2.1, by rw [S9.2.2.1]; omega, ?_⟩
        · rw [S9.2.2.1]; exact yR105
        · rw [S9.2.2.2, D9, en]; omega
    · skip
      have vc106 : ((-lo.toInt) % 16777216 < ra.toInt) := (own_vc24 lo ra ⟨by omega, by omega⟩ hra).mp hc15
      refine ow_aloadN C A14 d3_47 rfl rfl rfl ?_
      refine ow_lload C A14 d3_48 rfl rfl ?_
      refine ow_putF C A14 tw_23 Via.refl xL1 xE1 tw_24 tw_3 (ty := .long) (by decide) rfl rfl (Or.inl (List.mem_of_getElem? (i := 0) rfl)) d3_50 rfl ?_
      intro T107 h109 W110 A108
      have f111 := xL1.same W110
      refine ow_iloadN C A108 d3_53 rfl rfl ?_
      refine ow_istoreN C A108 d3_54 (Ls' := #[.val (.ref a), .val (.int (1 : Int32)), .val (.int (1 : Int32)), .val (.long (16777216 : Int64)), .second, .val (.long ((((lo + (16777216 : Int64)) - (1 : Int64)) / (16777216 : Int64)) * (16777216 : Int64))), .second]) rfl rfl ?_
      refine ow_goto C A108 d3_55 (by decide) (pc' := 64) (by decide) ?_
      have elv112 := own_val24 lo ⟨by omega, by omega⟩
      obtain ⟨lv112, hlv112⟩ : ∃ z, z = ((((lo + (16777216 : Int64)) - (1 : Int64)) / (16777216 : Int64)) * (16777216 : Int64)) := ⟨_, rfl⟩
      have f113 : Fld Z h109 a "com/example/phasorwire/phasorwire/RangeEncoder" "low" "J" (.long lv112) := by have q := f111; rw [hlv112]; exact q
      rw [← hlv112] at elv112
      have en : own_end L ra.toInt = ((-lo.toInt) % 16777216) := by rw [own_end_lo L lo.toInt _ eim.1]; unfold own_end; rw [if_neg (by omega), if_pos (by omega)]
      have E112 := own_EI_sub lo lv112 he on bs N L ra.toInt ((-lo.toInt) % 16777216) 1 hE (by omega) elv112 (by omega) (by omega)
      refine ow_iconst C A108 d3_64 (v := 0) rfl rfl ?_
      refine ow_istoreN C A108 d3_65 (Ls' := #[.val (.ref a), .val (.int (1 : Int32)), .val (.int (0 : Int32)), .val (.long (16777216 : Int64)), .second, .val (.long ((((lo + (16777216 : Int64)) - (1 : Int64)) / (16777216 : Int64)) * (16777216 : Int64))), .second]) rfl rfl ?_
      refine ow_iloadN C A108 d3_66 rfl rfl ?_
      refine ow_iloadN C A108 d3_67 rfl rfl ?_
      refine ow_icmp_gt C A108 d3_68 (by decide) (pcY := 81) (by decide) (pcN := 71) rfl (fun zq => absurd zq (by decide)) (fun _ => ?_)
      refine ow_aloadN C A108 d3_71 rfl rfl rfl ?_
      have f114 := (xE1.wr W110)
      have f115 := (xR1.other W110 (Or.inr (sn_25 hw)))
      have f116 := (xH1.other W110 (Or.inr (sn_26 hw)))
      have f117 := (xO1.other W110 (Or.inr (sn_27 hw)))
      have f118 := (xB1.other W110 (Or.inr (sn_28 hw)))
      have f119 := (xN1.other W110 (Or.inr (sn_29 hw)))
      have f120 := (xV1.other W110 (Ne.symm xU1))
      refine ow_callP C A108 (argsL := []) f114 (rm_shE l Z a0 hw a b kk lv112 ra he on bs N (L + ((-lo.toInt) % 16777216)) 1 h109 ⟨f114, f113, f115, f116, f117, f118, f119, f120, xU1⟩ E112 (by omega) (by omega) []) tw_25 tw_27 tw_3 tw_26 tw_4 tw_28 (by decide) (allS (Or.inl (List.mem_of_getElem? (i := 0) rfl)) (allS (Or.inl (List.mem_of_getElem? (i := 1) rfl)) all0)) (by decide) (by decide) (ck' := 0) (sk' := 0) rfl rfl (by decide) (by decide) rfl (lenOf pd_2 rfl) (S := []) rfl (W := 0) (Nat.le_of_eq rfl) d3_72 rfl ?_
      intro T121 v121 K121 hQ121 A121
      obtain ⟨rfl, lo121, he121, on121, bs121, O121, I121, l121⟩ := hQ121
      show OwnWP _ _ _ _ _ _ _ _ _ T121 (mkF m 75 #[.val (.ref a), .val (.int (1 : Int32)), .val (.int (0 : Int32)), .val (.long (16777216 : Int64)), .second, .val (.long ((((lo + (16777216 : Int64)) - (1 : Int64)) / (16777216 : Int64)) * (16777216 : Int64))), .second] [])
      obtain ⟨xE122, xL122, xR122, xH122, xO122, xB122, xN122, xV122, xU122⟩ := O121
      have J121 := own_EI_sub lo121 lo121 he121 on121 bs121 _ _ _ 0 1 I121 (by omega) (by omega) (by omega) (by omega)
      rw [Int.add_zero] at J121
      refine ow_iinc C A121 d3_75 rfl (Ls' := #[.val (.ref a), .val (.int (1 : Int32)), .val (.int (1 : Int32)), .val (.long (16777216 : Int64)), .second, .val (.long ((((lo + (16777216 : Int64)) - (1 : Int64)) / (16777216 : Int64)) * (16777216 : Int64))), .second]) rfl rfl ?_
      refine ow_goto C A121 d3_78 (by decide) (pc' := 66) (by decide) ?_
      refine ow_iloadN C A121 d3_66 rfl rfl ?_
      refine ow_iloadN C A121 d3_67 rfl rfl ?_
      refine ow_icmp_gt C A121 d3_68 (by decide) (pcY := 81) (by decide) (pcN := 71) rfl (fun zq => absurd zq (by decide)) (fun _ => ?_)
      refine ow_aloadN C A121 d3_71 rfl rfl rfl ?_
      refine ow_callP C A121 (argsL := []) xE122 (rm_shE l Z a0 hw a b kk lo121 ra he121 on121 bs121 (N + 1) (256 * (L + ((-lo.toInt) % 16777216))) 1 T121.heap ⟨xE122, xL122, xR122, xH122, xO122, xB122, xN122, xV122, xU122⟩ J121 (by omega) (by omega) []) tw_25 tw_27 tw_3 tw_26 tw_4 tw_28 (by decide) (allS (Or.inl (List.mem_of_getElem? (i := 0) rfl)) (allS (Or.inl (List.mem_of_getElem? (i := 1) rfl)) all0)) (by decide) (by decide) (ck' := 0) (sk' := 0) rfl rfl (by decide) (by decide) rfl (lenOf pd_2 rfl) (S := []) rfl (W := 0) (Nat.le_of_eq rfl) d3_72 rfl ?_
      intro T123 v123 K123 hQ123 A123
      obtain ⟨rfl, lo123, he123, on123, bs123, O123, I123, l123⟩ := hQ123
      show OwnWP _ _ _ _ _ _ _ _ _ T123 (mkF m 75 #[.val (.ref a), .val (.int (1 : Int32)), .val (.int (1 : Int32)), .val (.long (16777216 : Int64)), .second, .val (.long ((((lo + (16777216 : Int64)) - (1 : Int64)) / (16777216 : Int64)) * (16777216 : Int64))), .second] [])
      obtain ⟨xE124, xL124, xR124, xH124, xO124, xB124, xN124, xV124, xU124⟩ := O123
      have J123 := own_EI_sub lo123 lo123 he123 on123 bs123 _ _ _ 0 1 I123 (by omega) (by omega) (by omega) (by omega)
      rw [Int.add_zero] at J123
      refine ow_iinc C A123 d3_75 rfl (Ls' := #[.val (.ref a), .val (.int (1 : Int32)), .val (.int (2 : Int32)), .val (.long (16777216 : Int64)), .second, .val (.long ((((lo + (16777216 : Int64)) - (1 : Int64)) / (16777216 : Int64)) * (16777216 : Int64))), .second]) rfl rfl ?_
      refine ow_goto C A123 d3_78 (by decide) (pc' := 66) (by decide) ?_
      refine ow_iloadN C A123 d3_66 rfl rfl ?_
      refine ow_iloadN C A123 d3_67 rfl rfl ?_
      refine ow_icmp_gt C A123 d3_68 (by decide) (pcY := 81) (by decide) (pcN := 71) rfl (fun _ => ?_) (fun zq => absurd (by decide) zq)
      refine ow_aloadN C A123 d3_81 rfl rfl rfl ?_
      refine ow_getF C A123 tw_33 Via.refl xN124 d3_82 rfl ?_
      intro T125 A126
      refine ow_istoreN C A126 d3_85 (Ls' := #[.val (.ref a), .val (.int (1 : Int32)), .val (.int (Int32.ofNat (bs123).length)), .val (.long (16777216 : Int64)), .second, .val (.long ((((lo + (16777216 : Int64)) - (1 : Int64)) / (16777216 : Int64)) * (16777216 : Int64))), .second]) rfl rfl ?_
      have F127 := own_EI_fin _ _ _ _ (N + 1) _ _ ((L + ((-lo.toInt) % 16777216)) / 16777216) J123 l123 (by omega)
      have O9127 : Enc Z T123.heap a b kk lo123 ra he123 on123 bs123 := ⟨xE124, xL124, xR124, xH124, xO124, xB124, xN124, xV124, xU124⟩
      have hlb127 := F127.1
      refine fin_loop hw C a b kk lo123 ra he123 on123 bs123 (1 : Int32) (.val (.long (16777216 : Int64))) (.second) (.val (.long ((((lo + (16777216 : Int64)) - (1 : Int64)) / (16777216 : Int64)) * (16777216 : Int64)))) (.second) O9127 (by omega) bs123.length _ (Nat.le_refl _) A126 ?_
      intro T127 k127 hk127 ha127 hb127 A127
      refine ow_aloadN C A127 d3_107 rfl rfl rfl ?_
      refine ow_getF C A127 tw_16 Via.refl xB124 d3_108 rfl ?_
      intro T128 A129
      refine ow_iloadN C A129 d3_111 rfl rfl ?_
      have hk32 : k127 < 32 := by omega
      have ib := own_inb k127 hk32
      have cl := own_cl k127 (by omega)
      have mn := own_mn k127 hk32
      refine ow_callS C A129 (argsL := [(.ref b), (.int (Int32.ofNat k127))]) (rm_copy l Z a0 hw b kk (32 : Int32) (Int32.ofNat k127) k127 (bs123.map Value.int) T123.heap xV124 (own_lt32c _ hk32) ib.1 (by rw [cl]; omega) (by rw [mn]; exact ib.1) (by rw [mn]; exact cl) (by rw [mn, cl]; show 0 + k127 ≤ 32; omega) (by rw [mn, cl]; show 0 + k127 ≤ k127; omega) []) tw_35 tw_36 tw_37 tw_38 (by decide) all0 (by decide) (by decide) (ck' := 1) (sk' := 32) rfl rfl (by decide) (by decide) rfl (lenOf pd_3 rfl) (S := []) rfl (W := 0) (Nat.le_of_eq rfl) d3_112 rfl ?_
      intro T130 v130 K130 hQ130 A130
      obtain ⟨rr130, kr130, rfl, gr130, yR130⟩ := hQ130
      show OwnWP _ _ _ _ _ _ _ _ _ T130 (mkF m 115 #[.val (.ref a), .val (.int (1 : Int32)), .val (.int (Int32.ofNat k127)), .val (.long (16777216 : Int64)), .second, .val (.long ((((lo + (16777216 : Int64)) - (1 : Int64)) / (16777216 : Int64)) * (16777216 : Int64))), .second] [(.ref rr130)])
      refine ow_areturn C A130 (t := (.array .byte)) rfl rfl rfl d3_115 (by decide) (by decide) ?_
      have S9 := own_strip bs123 k127 (N + 4) (by omega) ha127 hb127 F127.2.2
      have D9 := own_finD bs123 N 1 ((L + ((-lo.toInt) % 16777216)) / 16777216) F127.1 (by decide) F127.2.1
      have p9 : (256 : Int) ^ (4 - 1) = 16777216 := rfl
      rw [p9] at D9
      rw [own_take_map bs123 k127 (by omega)] at yR130
      have g9 := Nat.le_trans (ow_le A129) gr130
      refine ⟨rr130, kr130, bs123.take k127, rfl, g9, ?_, S9.1, S9.2.1, by rw [S9.2.2.1]; omega, ?_⟩
      · rw [S9.2.2.1]; exact yR130
      · rw [S9.2.2.2, D9, en]; omega
  · skip
    have vc131 : ((-lo.toInt) % 4294967296 < ra.toInt) := (own_vc32 lo ra ⟨by omega, by omega⟩ hra).mp hc43
    refine ow_aloadN C A7 d3_47 rfl rfl rfl ?_
    refine ow_lload C A7 d3_48 rfl rfl ?_
    refine ow_putF C A7 tw_23 Via.refl xL1 xE1 tw_24 tw_3 (ty := .long) (by decide) rfl rfl (Or.inl (List.mem_of_getElem? (i := 0) rfl)) d3_50 rfl ?_
    intro T132 h134 W135 A133
    have f136 := xL1.same W135
    refine ow_iloadN C A133 d3_53 rfl rfl ?_
    refine ow_istoreN C A133 d3_54 (Ls' := #[.val (.ref a), .val (.int (0 : Int32)), .val (.int (0 : Int32)), .val (.long (4294967296 : Int64)), .second, .val (.long ((((lo + (4294967296 : Int64)) - (1 : Int64)) / (4294967296 : Int64)) * (4294967296 : Int64))), .second]) rfl rfl ?_
    refine ow_goto C A133 d3_55 (by decide) (pc' := 64) (by decide) ?_
    have elv137 := own_val32 lo ⟨by omega, by omega⟩
    obtain ⟨lv137, hlv137⟩ : ∃ z, z = ((((lo + (4294967296 : Int64)) - (1 : Int64)) / (4294967296 : Int64)) * (4294967296 : Int64)) := ⟨_, rfl⟩
    have f138 : Fld Z h134 a "com/example/phasorwire/phasorwire/RangeEncoder" "low" "J" (.long lv137) := by have q := f136; rw [hlv137]; exact q
    rw [← hlv137] at elv137
    have en : own_end L ra.toInt = ((-lo.toInt) % 4294967296) := by rw [own_end_lo L lo.toInt _ eim.1]; unfold own_end; rw [if_pos (by omega)]
    have E137 := own_EI_sub lo lv137 he on bs N L ra.toInt ((-lo.toInt) % 4294967296) 1 hE (by omega) elv137 (by omega) (by omega)
    refine ow_iconst C A133 d3_64 (v := 0) rfl rfl ?_
    refine ow_istoreN C A133 d3_65 (Ls' := #[.val (.ref a), .val (.int (0 : Int32)), .val (.int (0 : Int32)), .val (.long (4294967296 : Int64)), .second, .val (.long ((((lo + (4294967296 : Int64)) - (1 : Int64)) / (4294967296 : Int64)) * (4294967296 : Int64))), .second]) rfl rfl ?_
    refine ow_iloadN C A133 d3_66 rfl rfl ?_
    refine ow_iloadN C A133 d3_67 rfl rfl ?_
    refine ow_icmp_gt C A133 d3_68 (by decide) (pcY := 81) (by decide) (pcN := 71) rfl (fun zq => absurd zq (by decide)) (fun _ => ?_)
    refine ow_aloadN C A133 d3_71 rfl rfl rfl ?_
    have f139 := (xE1.wr W135)
    have f140 := (xR1.other W135 (Or.inr (sn_25 hw)))
    have f141 := (xH1.other W135 (Or.inr (sn_26 hw)))
    have f142 := (xO1.other W135 (Or.inr (sn_27 hw)))
    have f143 := (xB1.other W135 (Or.inr (sn_28 hw)))
    have f144 := (xN1.other W135 (Or.inr (sn_29 hw)))
    have f145 := (xV1.other W135 (Ne.symm xU1))
    refine ow_callP C A133 (argsL := []) f139 (rm_shE l Z a0 hw a b kk lv137 ra he on bs N (L + ((-lo.toInt) % 4294967296)) 1 h134 ⟨f139, f138, f140, f141, f142, f143, f144, f145, xU1⟩ E137 (by omega) (by omega) []) tw_25 tw_27 tw_3 tw_26 tw_4 tw_28 (by decide) (allS (Or.inl (List.mem_of_getElem? (i := 0) rfl)) (allS (Or.inl (List.mem_of_getElem? (i := 1) rfl)) all0)) (by decide) (by decide) (ck' := 0) (sk' := 0) rfl rfl (by decide) (by decide) rfl (lenOf pd_2 rfl) (S := []) rfl (W := 0) (Nat.le_of_eq rfl) d3_72 rfl ?_
    intro T146 v146 K146 hQ146 A146
    obtain ⟨rfl, lo146, he146, on146, bs146, O146, I146, l146⟩ := hQ146
    show OwnWP _ _ _ _ _ _ _ _ _ T146 (mkF m 75 #[.val (.ref a), .val (.int (0 : Int32)), .val (.int (0 : Int32)), .val (.long (4294967296 : Int64)), .second, .val (.long ((((lo + (4294967296 : Int64)) - (1 : Int64)) / (4294967296 : Int64)) * (4294967296 : Int64))), .second] [])
    obtain ⟨xE147, xL147, xR147, xH147, xO147, xB147, xN147, xV147, xU147⟩ := O146
    have J146 := own_EI_sub lo146 lo146 he146 on146 bs146 _ _ _ 0 1 I146 (by omega) (by omega) (by omega) (by omega)
    rw [Int.add_zero] at J146
    refine ow_iinc C A146 d3_75 rfl (Ls' := #[.val (.ref a), .val (.int (0 : Int32)), .val (.int (1 : Int32)), .val (.long (4294967296 : Int64)), .second, .val (.long ((((lo + (4294967296 : Int64)) - (1 : Int64)) / (4294967296 : Int64)) * (4294967296 : Int64))), .second]) rfl rfl ?_
    refine ow_goto C A146 d3_78 (by decide) (pc' := 66) (by decide) ?_
    refine ow_iloadN C A146 d3_66 rfl rfl ?_
    refine ow_iloadN C A146 d3_67 rfl rfl ?_
    refine ow_icmp_gt C A146 d3_68 (by decide) (pcY := 81) (by decide) (pcN := 71) rfl (fun _ => ?_) (fun zq => absurd (by decide) zq)
    refine ow_aloadN C A146 d3_81 rfl rfl rfl ?_
    refine ow_getF C A146 tw_33 Via.refl xN147 d3_82 rfl ?_
    intro T148 A149
    refine ow_istoreN C A149 d3_85 (Ls' := #[.val (.ref a), .val (.int (0 : Int32)), .val (.int (Int32.ofNat (bs146).length)), .val (.long (4294967296 : Int64)), .second, .val (.long ((((lo + (4294967296 : Int64)) - (1 : Int64)) / (4294967296 : Int64)) * (4294967296 : Int64))), .second]) rfl rfl ?_
    have F150 := own_EI_fin _ _ _ _ (N + 0) _ _ ((L + ((-lo.toInt) % 4294967296)) / 4294967296) J146 l146 (by omega)
    have O9150 : Enc Z T146.heap a b kk lo146 ra he146 on146 bs146 := ⟨xE147, xL147, xR147, xH147, xO147, xB147, xN147, xV147, xU147⟩
    have hlb150 := F150.1
    refine fin_loop hw C a b kk lo146 ra he146 on146 bs146 (0 : Int32) (.val (.long (4294967296 : Int64))) (.second) (.val (.long ((((lo + (4294967296 : Int64)) - (1 : Int64)) / (4294967296 : Int64)) * (4294967296 : Int64)))) (.second) O9150 (by omega) bs146.length _ (Nat.le_refl _) A149 ?_
    intro T150 k150 hk150 ha150 hb150 A150
    refine ow_aloadN C A150 d3_107 rfl rfl rfl ?_
    refine ow_getF C A150 tw_16 Via.refl xB147 d3_108 rfl ?_
    intro T151 A152
    refine ow_iloadN C A152 d3_111 rfl rfl ?_
    have hk32 : k150 < 32 := by omega
    have ib := own_inb k150 hk32
    have cl := own_cl k150 (by omega)
    have mn := own_mn k150 hk32
    refine ow_callS C A152 (argsL := [(.ref b), (.int (Int32.ofNat k150))]) (rm_copy l Z a0 hw b kk (32 : Int32) (Int32.ofNat k150) k150 (bs146.map Value.int) T146.heap xV147 (own_lt32c _ hk32) ib.1 (by rw [cl]; omega) (by rw [mn]; exact ib.1) (by rw [mn]; exact cl) (by rw [mn, cl]; show 0 + k150 ≤ 32; omega) (by rw [mn, cl]; show 0 + k150 ≤ k150; omega) []) tw_35 tw_36 tw_37 tw_38 (by decide) all0 (by decide) (by decide) (ck' := 1) (sk' := 32) rfl rfl (by decide) (by decide) rfl (lenOf pd_3 rfl) (S := []) rfl (W := 0) (Nat.le_of_eq rfl) d3_112 rfl ?_
    intro T153 v153 K153 hQ153 A153
    obtain ⟨rr153, kr153, rfl, gr153, yR153⟩ := hQ153
    show OwnWP _ _ _ _ _ _ _ _ _ T153 (mkF m 115 #[.val (.ref a), .val (.int (0 : Int32)), .val (.int (Int32.ofNat k150)), .val (.long (4294967296 : Int64)), .second, .val (.long ((((lo + (4294967296 : Int64)) - (1 : Int64)) / (4294967296 : Int64)) * (4294967296 : Int64))), .second] [(.ref rr153)])
    refine ow_areturn C A153 (t := (.array .byte)) rfl rfl rfl d3_115 (by decide) (by decide) ?_
    have S9 := own_strip bs146 k150 (N + 4) (by omega) ha150 hb150 F150.2.2
    have D9 := own_finD bs146 N 0 ((L + ((-lo.toInt) % 4294967296)) / 4294967296) F150.1 (by decide) F150.2.1
    have p9 : (256 : Int) ^ (4 - 0) = 4294967296 := rfl
    rw [p9] at D9
    rw [own_take_map bs146 k150 (by omega)] at yR153
    have g9 := Nat.le_trans (ow_le A152) gr153
    refine ⟨rr153, kr153, bs146.take k150, rfl, g9, ?_, S9.1, S9.2.1, by rw [S9.2.2.1]; omega, ?_⟩
    · rw [S9.2.2.1]; exact yR153
    · rw [S9.2.2.2, D9, en]; omega
set_option maxRecDepth 65536 in
set_option maxHeartbeats 40000000 in
theorem rm_si (l : Launch) (Z : State) (a0 : Array Value) (hw : ∀ d ∈ tables_1, d.before a0 Z = true) (a b : Addr) (kk : ClassId) (ds : List Int32) (ra co wi : Int64) (M : Nat) (L : Int) (h0 : Heap) (O : Dec Z h0 a b kk ds (min M ds.length) ra co wi) (hD : DI ds M co wi L) (hl : ds.length ≤ 20) (hM : M ≤ 20) (cs : List Jvm.Cond) :
    OwnCtr l Z (⟨"com/example/phasorwire/phasorwire/RangeDecoder", "shiftIn", "()V"⟩ : MethodName) prog_62_method_4_code 2 none rmsi #[(.ref a)] h0 [a] (QSi Z a b kk ds ra M L) cs := by
  refine ow_ctr pn_8 hw (Ls := #[.val (.ref a), .unset]) (fun m => by first | (simp [entryFrame, mkF, argsToLocals, Value.category]; done) | rfl) ?_
  intro p e s m below meth c T0 C A0
  obtain ⟨xE1, xD1, xN1, xP1, xR1, xC1, xW1, xV1, xU1⟩ := O
  refine ow_aloadN C A0 d8_0 rfl rfl rfl ?_
  refine ow_getF C A0 tw_58 Via.refl xD1 d8_1 rfl ?_
  intro T2 A3
  refine ow_aloadN C A3 d8_4 rfl rfl rfl ?_
  refine ow_getF C A3 tw_66 Via.refl xP1 d8_5 rfl ?_
  intro T4 A5
  refine ow_baload C A5 xV1 (own_inN ds M (by omega)) (v := (.int (ds.getD M 0))) (by rw [own_cl _ (by omega)]; exact own_getM ds M) d8_8 rfl ?_
  refine ow_sipush C A5 d8_9 (v := 255) rfl rfl ?_
  refine ow_iand C A5 d8_12 rfl ?_
  refine ow_istoreN C A5 d8_13 (Ls' := #[.val (.ref a), .val (.int ((ds.getD M 0) &&& (255 : Int32)))]) rfl rfl ?_
  refine ow_aloadN C A5 d8_14 rfl rfl rfl ?_
  refine ow_aloadN C A5 d8_15 rfl rfl rfl ?_
  refine ow_getF C A5 tw_66 Via.refl xP1 d8_16 rfl ?_
  intro T6 A7
  refine ow_iconst C A7 d8_19 (v := 1) rfl rfl ?_
  refine ow_iadd C A7 d8_20 rfl ?_
  refine ow_aloadN C A7 d8_21 rfl rfl rfl ?_
  refine ow_getF C A7 tw_60 Via.refl xN1 d8_22 rfl ?_
  intro T8 A9
  refine ow_callS C A9 (argsL := [(.int ((Int32.ofNat (min M ds.length)) + (1 : Int32))), (.int (Int32.ofNat ds.length))]) (rm_min l Z a0 hw ((Int32.ofNat (min M ds.length)) + (1 : Int32)) (Int32.ofNat ds.length) h0 []) tw_68 tw_40 tw_41 tw_42 (by decide) all0 (by decide) (by decide) (ck' := 0) (sk' := 0) rfl rfl (by decide) (by decide) rfl (lenOf pd_1 rfl) (S := [(.ref a)]) rfl (W := 1) (Nat.le_of_eq rfl) d8_25 rfl ?_
  intro T10 v10 K10 hQ10 A10
  obtain ⟨rfl, ee10⟩ := hQ10
  rw [ee10] at A10 K10
  show OwnWP _ _ _ _ _ _ _ _ _ T10 (mkF m 28 #[.val (.ref a), .val (.int ((ds.getD M 0) &&& (255 : Int32)))] [(.int (own_min ((Int32.ofNat (min M ds.length)) + (1 : Int32)) (Int32.ofNat ds.length))), (.ref a)])
  rw [own_minN M ds.length (by omega) (by omega)]
  refine ow_putF C A10 tw_66 Via.refl xP1 xE1 tw_67 tw_48 (ty := .int) (by decide) rfl rfl (Or.inl (List.mem_of_getElem? (i := 0) rfl)) d8_28 rfl ?_
  intro T11 h13 W14 A12
  have f15 := xP1.same W14
  refine ow_aloadN C A12 d8_31 rfl rfl rfl ?_
  refine ow_aloadN C A12 d8_32 rfl rfl rfl ?_
  have f16 := (xC1.other W14 (Or.inr (sn_30 hw)))
  refine ow_getF C A12 tw_69 Via.refl f16 d8_33 rfl ?_
  intro T17 A18
  refine ow_bipush C A18 d8_36 (v := 8) rfl rfl ?_
  refine ow_lshl C A18 d8_38 rfl ?_
  refine ow_iloadN C A18 d8_39 rfl rfl ?_
  refine ow_i2l C A18 d8_40 rfl ?_
  refine ow_lor C A18 d8_41 rfl ?_
  refine ow_ldc2 C A18 tw_54 d8_42 rfl ?_
  refine ow_land C A18 d8_45 rfl ?_
  have f19 := (xE1.wr W14)
  refine ow_putF C A18 tw_69 Via.refl f16 f19 tw_70 tw_48 (ty := .long) (by decide) rfl rfl (Or.inl (List.mem_of_getElem? (i := 0) rfl)) d8_46 rfl ?_
  intro T20 h22 W23 A21
  have f24 := f16.same W23
  refine ow_aloadN C A21 d8_49 rfl rfl rfl ?_
  refine ow_aloadN C A21 d8_50 rfl rfl rfl ?_
  have f25 := ((xW1.other W14 (Or.inr (sn_31 hw))).other W23 (Or.inr (sn_32 hw)))
  refine ow_getF C A21 tw_71 Via.refl f25 d8_51 rfl ?_
  intro T26 A27
  refine ow_bipush C A27 d8_54 (v := 8) rfl rfl ?_
  refine ow_lshl C A27 d8_56 rfl ?_
  refine ow_iloadN C A27 d8_57 rfl rfl ?_
  refine ow_i2l C A27 d8_58 rfl ?_
  refine ow_lor C A27 d8_59 rfl ?_
  refine ow_ldc2 C A27 tw_54 d8_60 rfl ?_
  refine ow_land C A27 d8_63 rfl ?_
  have f28 := (f19.wr W23)
  refine ow_putF C A27 tw_71 Via.refl f25 f28 tw_72 tw_48 (ty := .long) (by decide) rfl rfl (Or.inl (List.mem_of_getElem? (i := 0) rfl)) d8_64 rfl ?_
  intro T29 h31 W32 A30
  have f33 := f25.same W32
  have f34 := (f28.wr W32)
  have f35 := (((xD1.other W14 (Or.inr (sn_33 hw))).other W23 (Or.inr (sn_34 hw))).other W32 (Or.inr (sn_35 hw)))
  have f36 := (((xN1.other W14 (Or.inr (sn_36 hw))).other W23 (Or.inr (sn_37 hw))).other W32 (Or.inr (sn_38 hw)))
  have f37 := ((f15.other W23 (Or.inr (sn_39 hw))).other W32 (Or.inr (sn_40 hw)))
  have f38 := (((xR1.other W14 (Or.inr (sn_41 hw))).other W23 (Or.inr (sn_42 hw))).other W32 (Or.inr (sn_43 hw)))
  have f39 := (f24.other W32 (Or.inr (sn_44 hw)))
  have f40 := (((xV1.other W14 (Ne.symm xU1)).other W23 (Ne.symm xU1)).other W32 (Ne.symm xU1))
  refine ow_return C A30 rfl d8_67 (by decide) (by decide) ?_
  have bb := own_DIb _ _ _ _ _ hD
  have xm := own_m255 (ds.getD M 0)
  exact ⟨rfl, (((co <<< ((8 : Int32) &&& 63).toInt64) ||| ((ds.getD M 0) &&& (255 : Int32)).toInt64) &&& (4294967295 : Int64)), (((wi <<< ((8 : Int32) &&& 63).toInt64) ||| ((ds.getD M 0) &&& (255 : Int32)).toInt64) &&& (4294967295 : Int64)), ⟨f34, f35, f36, f37, f38, f39, f33, f40, xU1⟩, own_DI ds M co wi _ _ L _ hD xm.symm.symm (own_or8 co ((ds.getD M 0) &&& (255 : Int32)) bb.1 ⟨by omega, by omega⟩) (own_or8 wi ((ds.getD M 0) &&& (255 : Int32)) bb.2 ⟨by omega, by omega⟩)⟩
set_option maxRecDepth 65536 in
set_option maxHeartbeats 40000000 in
theorem rm_dinit (l : Launch) (Z : State) (a0 : Array Value) (hw : ∀ d ∈ tables_1, d.before a0 Z = true) (a pA : Addr) (kp : ClassId) (ds : List Int32) (h0 : Heap) (Vp : Arv Z h0 pA kp .byte (Int32.ofNat ds.length) (ds.map Value.int) (.int (0 : Int32))) (hl : ds.length ≤ 20) (hap : a ≠ pA) (E : Exa Z h0 a "com/example/phasorwire/phasorwire/RangeDecoder") (F_data : Fld Z h0 a "com/example/phasorwire/phasorwire/RangeDecoder" "data" "[B" .null) (F_length : Fld Z h0 a "com/example/phasorwire/phasorwire/RangeDecoder" "length" "I" (.int (0 : Int32))) (F_position : Fld Z h0 a "com/example/phasorwire/phasorwire/RangeDecoder" "position" "I" (.int (0 : Int32))) (F_range : Fld Z h0 a "com/example/phasorwire/phasorwire/RangeDecoder" "range" "J" (.long (0 : Int64))) (F_code : Fld Z h0 a "com/example/phasorwire/phasorwire/RangeDecoder" "code" "J" (.long (0 : Int64))) (F_window : Fld Z h0 a "com/example/phasorwire/phasorwire/RangeDecoder" "window" "J" (.long (0 : Int64))) (cs : List Jvm.Cond) :
    OwnCtr l Z (⟨"com/example/phasorwire/phasorwire/RangeDecoder", "<init>", "([B)V"⟩ : MethodName) prog_62_method_1_code 3 none rmdi #[(.ref a), (.ref pA)] h0 [a] (QDi Z h0 a ds) cs := by
  refine ow_ctr pn_7 hw (Ls := #[.val (.ref a), .val (.ref pA), .unset]) (fun m => by first | (simp [entryFrame, mkF, argsToLocals, Value.category]; done) | rfl) ?_
  intro p e s m below meth c T0 C A0
  refine ow_aloadN C A0 d7_0 rfl rfl rfl ?_
  refine ow_initO C A0 tw_53 tw_9 tw_10 rfl d7_1 rfl (by decide) (W := 0) (Nat.le_of_eq rfl) (by decide) ?_
  intro T1 A2
  refine ow_aloadN C A2 d7_4 rfl rfl rfl ?_
  refine ow_ldc2 C A2 tw_54 d7_5 rfl ?_
  refine ow_putF C A2 tw_55 Via.refl F_range E tw_56 tw_48 (ty := .long) (by decide) rfl rfl (Or.inl (List.mem_of_getElem? (i := 0) rfl)) d7_8 rfl ?_
  intro T3 h5 W6 A4
  have f7 := F_range.same W6
  refine ow_aloadN C A4 d7_11 rfl rfl rfl ?_
  refine ow_aloadN C A4 d7_12 rfl rfl rfl ?_
  refine ow_aloadN C A4 d7_13 rfl rfl rfl ?_
  have f8 := (Vp.other W6 (Ne.symm hap))
  refine ow_alen C A4 f8 d7_14 rfl ?_
  refine ow_iconst C A4 d7_15 (v := 1) rfl rfl ?_
  refine ow_iadd C A4 d7_16 rfl ?_
  rw [own_add1 _ (by omega)]
  have f9 := (E.wr W6)
  refine ow_callS C A4 (argsL := [(.ref pA), (.int (Int32.ofNat (ds.length + 1)))]) (rm_copy l Z a0 hw pA kp (Int32.ofNat ds.length) (Int32.ofNat (ds.length + 1)) ds.length (ds.map Value.int) h5 f8 (own_neS _ (by omega)) (own_nn _ (by omega)) (by rw [own_cl _ (by omega)]; omega) (by rw [own_mnz _ (by omega)]; exact own_nn _ (by omega)) (by rw [own_mnz _ (by omega)]; exact own_cl _ (by omega)) (by rw [own_mnz _ (by omega), own_cl _ (by omega)]; show 0 + ds.length ≤ ds.length; omega) (by rw [own_mnz _ (by omega), own_cl _ (by omega), own_cl _ (by omega)]; show 0 + ds.length ≤ ds.length + 1; omega) []) tw_57 tw_36 tw_37 tw_38 (by decide) all0 (by decide) (by decide) (ck' := 1) (sk' := 32) rfl rfl (by decide) (by decide) rfl (lenOf pd_3 rfl) (S := [(.ref a)]) rfl (W := 1) (Nat.le_of_eq rfl) d7_17 rfl ?_
  intro T10 v10 K10 hQ10 A10
  obtain ⟨rr10, kr10, rfl, gr10, yR10⟩ := hQ10
  show OwnWP _ _ _ _ _ _ _ _ _ T10 (mkF m 20 #[.val (.ref a), .val (.ref pA), .unset] [(.ref rr10), (.ref a)])
  rw [own_allmap] at yR10
  have ne10 : a ≠ rr10 := Nat.ne_of_lt (Nat.lt_of_lt_of_le f9.lt gr10)
  have f11 := ((F_data.other W6 (Or.inr (sn_45 hw))).keep K10 nin0)
  have f12 := (f9.keep K10)
  refine ow_putFin C A10 tw_58 Via.refl f11 f12 tw_59 rfl rfl tw_48 (ty := (.array .byte)) (by decide) rfl rfl (Or.inl (List.mem_of_getElem? (i := 0) rfl)) d7_20 rfl ?_
  intro T13 h15 W16 A14
  have f17 := f11.same W16
  refine ow_aloadN C A14 d7_23 rfl rfl rfl ?_
  refine ow_aloadN C A14 d7_24 rfl rfl rfl ?_
  have f18 := ((f8.keep K10 nin0).other W16 (Ne.symm hap))
  refine ow_alen C A14 f18 d7_25 rfl ?_
  have f19 := (((F_length.other W6 (Or.inr (sn_46 hw))).keep K10 nin0).other W16 (Or.inr (sn_47 hw)))
  have f20 := (f12.wr W16)
  refine ow_putFin C A14 tw_60 Via.refl f19 f20 tw_61 rfl rfl tw_48 (ty := .int) (by decide) rfl rfl (Or.inl (List.mem_of_getElem? (i := 0) rfl)) d7_26 rfl ?_
  intro T21 h23 W24 A22
  have f25 := f19.same W24
  refine ow_iconst C A22 d7_29 (v := 0) rfl rfl ?_
  refine ow_istoreN C A22 d7_30 (Ls' := #[.val (.ref a), .val (.ref pA), .val (.int (0 : Int32))]) rfl rfl ?_
  have f27 := ((((F_position.other W6 (Or.inr (sn_48 hw))).keep K10 nin0).other W16 (Or.inr (sn_49 hw))).other W24 (Or.inr (sn_50 hw)))
  have f26 : Fld Z h23 a "com/example/phasorwire/phasorwire/RangeDecoder" "position" "I" (.int (Int32.ofNat (min 0 ds.length))) := by rw [Nat.zero_min]; exact f27
  have hDI : DI ds 0 0 0 0 := ⟨rfl, rfl⟩
  refine ow_iloadN C A22 d7_31 rfl rfl ?_
  refine ow_iconst C A22 d7_32 (v := 4) rfl rfl ?_
  refine ow_icmp_ge C A22 d7_33 (by decide) (pcY := 46) (by decide) (pcN := 36) rfl (fun zq => absurd (by decide) zq) (fun _ => ?_)
  refine ow_aloadN C A22 d7_36 rfl rfl rfl ?_
  have f28 := (f20.wr W24)
  have f29 := (f17.other W24 (Or.inr (sn_51 hw)))
  have f30 := (((f7.keep K10 nin0).other W16 (Or.inr (sn_52 hw))).other W24 (Or.inr (sn_53 hw)))
  have f31 := ((((F_code.other W6 (Or.inr (sn_54 hw))).keep K10 nin0).other W16 (Or.inr (sn_55 hw))).other W24 (Or.inr (sn_56 hw)))
  have f32 := ((((F_window.other W6 (Or.inr (sn_57 hw))).keep K10 nin0).other W16 (Or.inr (sn_58 hw))).other W24 (Or.inr (sn_59 hw)))
  have f33 := ((yR10.other W16 (Ne.symm ne10)).other W24 (Ne.symm ne10))
  refine ow_callP C A22 (argsL := []) f28 (rm_si l Z a0 hw a rr10 kr10 ds (4294967295 : Int64) (0 : Int64) (0 : Int64) 0 0 h23 ⟨f28, f29, f25, f26, f30, f31, f32, f33, ne10⟩ hDI (by omega) (by omega) []) tw_62 tw_64 tw_48 tw_63 tw_49 tw_65 (by decide) (allS (Or.inl (List.mem_of_getElem? (i := 0) rfl)) all0) (by decide) (by decide) (ck' := 1) (sk' := 32) rfl rfl (by decide) (by decide) rfl (lenOf pd_2 rfl) (S := []) rfl (W := 0) (Nat.le_of_eq rfl) d7_37 rfl ?_
  intro T34 v34 K34 hQ34 A34
  obtain ⟨rfl, co34, wi34, O34, I34⟩ := hQ34
  show OwnWP _ _ _ _ _ _ _ _ _ T34 (mkF m 40 #[.val (.ref a), .val (.ref pA), .val (.int (0 : Int32))] [])
  obtain ⟨xE35, xD35, xN35, xP35, xR35, xC35, xW35, xV35, xU35⟩ := O34
  refine ow_iinc C A34 d7_40 rfl (Ls' := #[.val (.ref a), .val (.ref pA), .val (.int (1 : Int32))]) rfl rfl ?_
  refine ow_goto C A34 d7_43 (by decide) (pc' := 31) (by decide) ?_
  refine ow_iloadN C A34 d7_31 rfl rfl ?_
  refine ow_iconst C A34 d7_32 (v := 4) rfl rfl ?_
  refine ow_icmp_ge C A34 d7_33 (by decide) (pcY := 46) (by decide) (pcN := 36) rfl (fun zq => absurd (by decide) zq) (fun _ => ?_)
  refine ow_aloadN C A34 d7_36 rfl rfl rfl ?_
  refine ow_callP C A34 (argsL := []) xE35 (rm_si l Z a0 hw a rr10 kr10 ds (4294967295 : Int64) co34 wi34 (0 + 1) (256 * 0) T34.heap ⟨xE35, xD35, xN35, xP35, xR35, xC35, xW35, xV35, xU35⟩ I34 (by omega) (by omega) []) tw_62 tw_64 tw_48 tw_63 tw_49 tw_65 (by decide) (allS (Or.inl (List.mem_of_getElem? (i := 0) rfl)) all0) (by decide) (by decide) (ck' := 1) (sk' := 32) rfl rfl (by decide) (by decide) rfl (lenOf pd_2 rfl) (S := []) rfl (W := 0) (Nat.le_of_eq rfl) d7_37 rfl ?_
  intro T36 v36 K36 hQ36 A36
  obtain ⟨rfl, co36, wi36, O36, I36⟩ := hQ36
  show OwnWP _ _ _ _ _ _ _ _ _ T36 (mkF m 40 #[.val (.ref a), .val (.ref pA), .val (.int (1 : Int32))] [])
  obtain ⟨xE37, xD37, xN37, xP37, xR37, xC37, xW37, xV37, xU37⟩ := O36
  refine ow_iinc C A36 d7_40 rfl (Ls' := #[.val (.ref a), .val (.ref pA), .val (.int (2 : Int32))]) rfl rfl ?_
  refine ow_goto C A36 d7_43 (by decide) (pc' := 31) (by decide) ?_
  refine ow_iloadN C A36 d7_31 rfl rfl ?_
  refine ow_iconst C A36 d7_32 (v := 4) rfl rfl ?_
  refine ow_icmp_ge C A36 d7_33 (by decide) (pcY := 46) (by decide) (pcN := 36) rfl (fun zq => absurd (by decide) zq) (fun _ => ?_)
  refine ow_aloadN C A36 d7_36 rfl rfl rfl ?_
  refine ow_callP C A36 (argsL := []) xE37 (rm_si l Z a0 hw a rr10 kr10 ds (4294967295 : Int64) co36 wi36 ((0 + 1) + 1) (256 * (256 * 0)) T36.heap ⟨xE37, xD37, xN37, xP37, xR37, xC37, xW37, xV37, xU37⟩ I36 (by omega) (by omega) []) tw_62 tw_64 tw_48 tw_63 tw_49 tw_65 (by decide) (allS (Or.inl (List.mem_of_getElem? (i := 0) rfl)) all0) (by decide) (by decide) (ck' := 1) (sk' := 32) rfl rfl (by decide) (by decide) rfl (lenOf pd_2 rfl) (S := []) rfl (W := 0) (Nat.le_of_eq rfl) d7_37 rfl ?_
  intro T38 v38 K38 hQ38 A38
  obtain ⟨rfl, co38, wi38, O38, I38⟩ := hQ38
  show OwnWP _ _ _ _ _ _ _ _ _ T38 (mkF m 40 #[.val (.ref a), .val (.ref pA), .val (.int (2 : Int32))] [])
  obtain ⟨xE39, xD39, xN39, xP39, xR39, xC39, xW39, xV39, xU39⟩ := O38
  refine ow_iinc C A38 d7_40 rfl (Ls' := #[.val (.ref a), .val (.ref pA), .val (.int (3 : Int32))]) rfl rfl ?_
  refine ow_goto C A38 d7_43 (by decide) (pc' := 31) (by decide) ?_
  refine ow_iloadN C A38 d7_31 rfl rfl ?_
  refine ow_iconst C A38 d7_32 (v := 4) rfl rfl ?_
  refine ow_icmp_ge C A38 d7_33 (by decide) (pcY := 46) (by decide) (pcN := 36) rfl (fun zq => absurd (by decide) zq) (fun _ => ?_)
  refine ow_aloadN C A38 d7_36 rfl rfl rfl ?_
  refine ow_callP C A38 (argsL := []) xE39 (rm_si l Z a0 hw a rr10 kr10 ds (4294967295 : Int64) co38 wi38 (((0 + 1) + 1) + 1) (256 * (256 * (256 * 0))) T38.heap ⟨xE39, xD39, xN39, xP39, xR39, xC39, xW39, xV39, xU39⟩ I38 (by omega) (by omega) []) tw_62 tw_64 tw_48 tw_63 tw_49 tw_65 (by decide) (allS (Or.inl (List.mem_of_getElem? (i := 0) rfl)) all0) (by decide) (by decide) (ck' := 1) (sk' := 32) rfl rfl (by decide) (by decide) rfl (lenOf pd_2 rfl) (S := []) rfl (W := 0) (Nat.le_of_eq rfl) d7_37 rfl ?_
  intro T40 v40 K40 hQ40 A40
  obtain ⟨rfl, co40, wi40, O40, I40⟩ := hQ40
  show OwnWP _ _ _ _ _ _ _ _ _ T40 (mkF m 40 #[.val (.ref a), .val (.ref pA), .val (.int (3 : Int32))] [])
  obtain ⟨xE41, xD41, xN41, xP41, xR41, xC41, xW41, xV41, xU41⟩ := O40
  refine ow_iinc C A40 d7_40 rfl (Ls' := #[.val (.ref a), .val (.ref pA), .val (.int (4 : Int32))]) rfl rfl ?_
  refine ow_goto C A40 d7_43 (by decide) (pc' := 31) (by decide) ?_
  refine ow_iloadN C A40 d7_31 rfl rfl ?_
  refine ow_iconst C A40 d7_32 (v := 4) rfl rfl ?_
  refine ow_icmp_ge C A40 d7_33 (by decide) (pcY := 46) (by decide) (pcN := 36) rfl (fun _ => ?_) (fun zq => absurd zq (by decide))
  refine ow_return C A40 rfl d7_46 (by decide) (by decide) ?_
  exact ⟨rfl, rr10, kr10, co40, wi40, (Nat.le_trans (ow_le A4) gr10), ⟨xE41, xD41, xN41, xP41, xR41, xC41, xW41, xV41, xU41⟩, I40⟩
set_option maxRecDepth 65536 in
set_option maxHeartbeats 40000000 in
theorem rm_dd (l : Launch) (Z : State) (a0 : Array Value) (hw : ∀ d ∈ tables_1, d.before a0 Z = true) (a b : Addr) (kk : ClassId) (ds : List Int32) (ra co wi : Int64) (M : Nat) (L : Int) (p : Int32) (h0 : Heap) (O : Dec Z h0 a b kk ds (min M ds.length) ra co wi) (hD : DI ds M co wi L) (hl : ds.length ≤ 20) (hM : M ≤ 15) (hra : Rok ra) (hp : Pok p) (cs : List Jvm.Cond) :
    OwnCtr l Z (⟨"com/example/phasorwire/phasorwire/RangeDecoder", "decode", "(I)Z"⟩ : MethodName) prog_62_method_2_code 6 (some .boolean) rmdd #[(.ref a), (.int p)] h0 [a] (QDd Z a b kk ds ra co p M L) cs := by
  refine ow_ctr pn_14 hw (Ls := #[.val (.ref a), .val (.int p), .unset, .unset, .unset, .unset]) (fun m => by first | (simp [entryFrame, mkF, argsToLocals, Value.category]; done) | rfl) ?_
  intro pG e s m below meth c T0 C A0
  obtain ⟨xE1, xD1, xN1, xP1, xR1, xC1, xW1, xV1, xU1⟩ := O
  refine ow_aloadN C A0 d14_0 rfl rfl rfl ?_
  refine ow_getF C A0 tw_55 Via.refl xR1 d14_1 rfl ?_
  intro T2 A3
  refine ow_bipush C A3 d14_4 (v := 12) rfl rfl ?_
  refine ow_lushr C A3 d14_6 rfl ?_
  refine ow_iloadN C A3 d14_7 rfl rfl ?_
  refine ow_i2l C A3 d14_8 rfl ?_
  refine ow_lmul C A3 d14_9 rfl ?_
  show OwnWP _ _ _ _ _ _ _ _ _ T2 (mkF m 10 #[.val (.ref a), .val (.int p), .unset, .unset, .unset, .unset] [(.long (own_bd ra p))])
  refine ow_lstoreN C A3 d14_10 (Ls' := #[.val (.ref a), .val (.int p), .val (.long (own_bd ra p)), .second, .unset, .unset]) rfl rfl ?_
  refine ow_aloadN C A3 d14_11 rfl rfl rfl ?_
  refine ow_getF C A3 tw_69 Via.refl xC1 d14_12 rfl ?_
  intro T4 A5
  refine ow_lloadN C A5 d14_15 rfl rfl ?_
  refine ow_lsub C A5 d14_16 rfl ?_
  refine ow_bipush C A5 d14_17 (v := 63) rfl rfl ?_
  refine ow_lshr C A5 d14_19 rfl ?_
  refine ow_ldc2 C A5 tw_102 d14_20 rfl ?_
  refine ow_lxor C A5 d14_23 rfl ?_
  have bdv := own_bdv ra p hra hp
  have bb := own_DIb _ _ _ _ _ hD
  have hra' := hra
  unfold Rok at hra'
  have on2 := own_ones co (own_bd ra p) bb.1 ⟨by omega, by omega⟩
  by_cases hb : co.toInt < (own_bd ra p).toInt
  · rw [on2.1 hb]
    refine ow_lstore C A5 d14_24 (Ls' := #[.val (.ref a), .val (.int p), .val (.long (own_bd ra p)), .second, .val (.long (0 : Int64)), .second]) rfl rfl ?_
    refine ow_aloadN C A5 d14_26 rfl rfl rfl ?_
    refine ow_dup C A5 d14_27 rfl rfl ?_
    refine ow_getF C A5 tw_69 Via.refl xC1 d14_28 rfl ?_
    intro T6 A7
    refine ow_lloadN C A7 d14_31 rfl rfl ?_
    refine ow_lload C A7 d14_32 rfl rfl ?_
    refine ow_land C A7 d14_34 rfl ?_
    refine ow_lsub C A7 d14_35 rfl ?_
    refine ow_putF C A7 tw_69 Via.refl xC1 xE1 tw_70 tw_48 (ty := .long) (by decide) rfl rfl (Or.inl (List.mem_of_getElem? (i := 0) rfl)) d14_36 rfl ?_
    intro T8 h10 W11 A9
    have f12 := xC1.same W11
    refine ow_aloadN C A9 d14_39 rfl rfl rfl ?_
    refine ow_lloadN C A9 d14_40 rfl rfl ?_
    refine ow_aloadN C A9 d14_41 rfl rfl rfl ?_
    have f13 := (xR1.other W11 (Or.inr (sn_42 hw)))
    refine ow_getF C A9 tw_55 Via.refl f13 d14_42 rfl ?_
    intro T14 A15
    refine ow_ldc2 C A15 tw_103 d14_45 rfl ?_
    refine ow_lloadN C A15 d14_48 rfl rfl ?_
    refine ow_lmul C A15 d14_49 rfl ?_
    refine ow_lsub C A15 d14_50 rfl ?_
    refine ow_lload C A15 d14_51 rfl rfl ?_
    refine ow_land C A15 d14_53 rfl ?_
    refine ow_ladd C A15 d14_54 rfl ?_
    have f16 := (xE1.wr W11)
    refine ow_putF C A15 tw_55 Via.refl f13 f16 tw_56 tw_48 (ty := .long) (by decide) rfl rfl (Or.inl (List.mem_of_getElem? (i := 0) rfl)) d14_55 rfl ?_
    intro T17 h19 W20 A18
    have f21 := f13.same W20
    obtain ⟨r22, hr22⟩ : ∃ z, z = own_r0 ra p := ⟨_, rfl⟩
    have f23 : Fld Z h19 a "com/example/phasorwire/phasorwire/RangeDecoder" "range" "J" (.long r22) := by have q := f21; rw [hr22, ← own_e0 ra p]; exact q
    have br22 : 4096 ≤ r22.toInt ∧ r22.toInt < 4294967296 := by rw [hr22]; exact own_rb0 ra p hra hp
    have ecc22 : ((co - ((own_bd ra p) &&& (0 : Int64)))).toInt = co.toInt - 0 := by rw [Int.sub_zero]; exact own_sc0 _ _
    obtain ⟨cc22, hcc22⟩ : ∃ z, z = (co - ((own_bd ra p) &&& (0 : Int64))) := ⟨_, rfl⟩
    have f25 := (f12.other W20 (Or.inr (sn_54 hw)))
    have f24 : Fld Z h19 a "com/example/phasorwire/phasorwire/RangeDecoder" "code" "J" (.long cc22) := by have q := f25; rw [hcc22]; exact q
    rw [← hcc22] at ecc22
    have D22 : DI ds M cc22 wi L := by obtain ⟨q1, q2⟩ := hD; exact ⟨by omega, q2⟩
    refine ow_aloadN C A18 d14_58 rfl rfl rfl ?_
    refine ow_getF C A18 tw_55 Via.refl f23 d14_59 rfl ?_
    intro T26 A27
    refine ow_ldc2 C A27 tw_104 d14_62 rfl ?_
    refine ow_lcmp_ge C A27 d14_65 rfl d14_66 (by decide) (pcY := 87) (by decide) (pcN := 69) rfl (fun hc65 => ?_) (fun hc65 => ?_)
    · skip
      have iv28 : ¬ (r22.toInt < 16777216) := own_nlt64' hc65
      refine ow_lload C A27 d14_87 rfl rfl ?_
      refine ow_lconst C A27 d14_89 (v := 0) rfl rfl ?_
      refine ow_lcmp_eq C A27 d14_90 rfl d14_91 (by decide) (pcY := 98) (by decide) (pcN := 94) rfl (fun _ => ?_) (fun zq => absurd (by decide) zq)
      refine ow_iconst C A27 d14_98 (v := 0) rfl rfl ?_
      have f29 := (f16.wr W20)
      have f30 := ((xD1.other W11 (Or.inr (sn_34 hw))).other W20 (Or.inr (sn_45 hw)))
      have f31 := ((xN1.other W11 (Or.inr (sn_37 hw))).other W20 (Or.inr (sn_46 hw)))
      have f32 := ((xP1.other W11 (Or.inr (sn_39 hw))).other W20 (Or.inr (sn_48 hw)))
      have f33 := ((xW1.other W11 (Or.inr (sn_32 hw))).other W20 (Or.inr (sn_57 hw)))
      have f34 := ((xV1.other W11 (Ne.symm xU1)).other W20 (Ne.symm xU1))
      refine ow_ireturn C A27 (t := .boolean) rfl rfl (by simp) d14_99 (by decide) (by decide) ?_
      refine ⟨r22, cc22, wi, 0, L, ⟨f29, f30, f31, f32, f23, f24, f33, f34, xU1⟩, D22, Or.inl ⟨rfl, hb, ?_⟩⟩
      rw [← hr22]
      exact Or.inl ⟨rfl, by omega, by omega, rfl⟩
    · skip
      have iv35 : r22.toInt < 16777216 := own_lt64' hc65
      refine ow_aloadN C A27 d14_69 rfl rfl rfl ?_
      refine ow_dup C A27 d14_70 rfl rfl ?_
      refine ow_getF C A27 tw_55 Via.refl f23 d14_71 rfl ?_
      intro T36 A37
      refine ow_bipush C A37 d14_74 (v := 8) rfl rfl ?_
      refine ow_lshl C A37 d14_76 rfl ?_
      have f38 := (f16.wr W20)
      refine ow_putF C A37 tw_55 Via.refl f23 f38 tw_56 tw_48 (ty := .long) (by decide) rfl rfl (Or.inl (List.mem_of_getElem? (i := 0) rfl)) d14_77 rfl ?_
      intro T39 h41 W42 A40
      have f43 := f23.same W42
      refine ow_aloadN C A40 d14_80 rfl rfl rfl ?_
      have f44 := (f38.wr W42)
      have f45 := (((xD1.other W11 (Or.inr (sn_34 hw))).other W20 (Or.inr (sn_45 hw))).other W42 (Or.inr (sn_45 hw)))
      have f46 := (((xN1.other W11 (Or.inr (sn_37 hw))).other W20 (Or.inr (sn_46 hw))).other W42 (Or.inr (sn_46 hw)))
      have f47 := (((xP1.other W11 (Or.inr (sn_39 hw))).other W20 (Or.inr (sn_48 hw))).other W42 (Or.inr (sn_48 hw)))
      have f48 := (f24.other W42 (Or.inr (sn_54 hw)))
      have f49 := (((xW1.other W11 (Or.inr (sn_32 hw))).other W20 (Or.inr (sn_57 hw))).other W42 (Or.inr (sn_57 hw)))
      have f50 := (((xV1.other W11 (Ne.symm xU1)).other W20 (Ne.symm xU1)).other W42 (Ne.symm xU1))
      refine ow_callP C A40 (argsL := []) f44 (rm_si l Z a0 hw a b kk ds (r22 <<< ((8 : Int32) &&& 63).toInt64) cc22 wi M L h41 ⟨f44, f45, f46, f47, f43, f48, f49, f50, xU1⟩ D22 (by omega) (by omega) []) tw_62 tw_64 tw_48 tw_63 tw_49 tw_65 (by decide) (allS (Or.inl (List.mem_of_getElem? (i := 0) rfl)) all0) (by decide) (by decide) (ck' := 0) (sk' := 0) rfl rfl (by decide) (by decide) rfl (lenOf pd_2 rfl) (S := []) rfl (W := 0) (Nat.le_of_eq rfl) d14_81 rfl ?_
      intro T51 v51 K51 hQ51 A51
      obtain ⟨rfl, co51, wi51, O51, I51⟩ := hQ51
      show OwnWP _ _ _ _ _ _ _ _ _ T51 (mkF m 84 #[.val (.ref a), .val (.int p), .val (.long (own_bd ra p)), .second, .val (.long (0 : Int64)), .second] [])
      obtain ⟨xE52, xD52, xN52, xP52, xR52, xC52, xW52, xV52, xU52⟩ := O51
      refine ow_goto C A51 d14_84 (by decide) (pc' := 58) (by decide) ?_
      have sr53 := own_sl8 r22 ⟨by omega, by omega⟩
      obtain ⟨r53, hr53⟩ : ∃ z, z = (r22 <<< ((8 : Int32) &&& 63).toInt64) := ⟨_, rfl⟩
      have f54 : Fld Z T51.heap a "com/example/phasorwire/phasorwire/RangeDecoder" "range" "J" (.long r53) := by have q := xR52; rw [hr53]; exact q
      rw [← hr53] at sr53
      refine ow_aloadN C A51 d14_58 rfl rfl rfl ?_
      refine ow_getF C A51 tw_55 Via.refl f54 d14_59 rfl ?_
      intro T55 A56
      refine ow_ldc2 C A56 tw_104 d14_62 rfl ?_
      refine ow_lcmp_ge C A56 d14_65 rfl d14_66 (by decide) (pcY := 87) (by decide) (pcN := 69) rfl (fun hc57 => ?_) (fun hc57 => ?_)
      · skip
        have iv58 : ¬ (r53.toInt < 16777216) := own_nlt64' hc57
        refine ow_lload C A56 d14_87 rfl rfl ?_
        refine ow_lconst C A56 d14_89 (v := 0) rfl rfl ?_
        refine ow_lcmp_eq C A56 d14_90 rfl d14_91 (by decide) (pcY := 98) (by decide) (pcN := 94) rfl (fun _ => ?_) (fun zq => absurd (by decide) zq)
        refine ow_iconst C A56 d14_98 (v := 0) rfl rfl ?_
        refine ow_ireturn C A56 (t := .boolean) rfl rfl (by simp) d14_99 (by decide) (by decide) ?_
        refine ⟨r53, co51, wi51, 1, (256 * L), ⟨xE52, xD52, xN52, xP52, f54, xC52, xW52, xV52, xU52⟩, I51, Or.inl ⟨rfl, hb, ?_⟩⟩
        rw [← hr22]
        exact Or.inr (Or.inl ⟨rfl, by omega, by omega, by omega, rfl⟩)
      · skip
        have iv59 : r53.toInt < 16777216 := own_lt64' hc57
        refine ow_aloadN C A56 d14_69 rfl rfl rfl ?_
        refine ow_dup C A56 d14_70 rfl rfl ?_
        refine ow_getF C A56 tw_55 Via.refl f54 d14_71 rfl ?_
        intro T60 A61
        refine ow_bipush C A61 d14_74 (v := 8) rfl rfl ?_
        refine ow_lshl C A61 d14_76 rfl ?_
        refine ow_putF C A61 tw_55 Via.refl f54 xE52 tw_56 tw_48 (ty := .long) (by decide) rfl rfl (Or.inl (List.mem_of_getElem? (i := 0) rfl)) d14_77 rfl ?_
        intro T62 h64 W65 A63
        have f66 := f54.same W65
        refine ow_aloadN C A63 d14_80 rfl rfl rfl ?_
        have f67 := (xE52.wr W65)
        have f68 := (xD52.other W65 (Or.inr (sn_45 hw)))
        have f69 := (xN52.other W65 (Or.inr (sn_46 hw)))
        have f70 := (xP52.other W65 (Or.inr (sn_48 hw)))
        have f71 := (xC52.other W65 (Or.inr (sn_54 hw)))
        have f72 := (xW52.other W65 (Or.inr (sn_57 hw)))
        have f73 := (xV52.other W65 (Ne.symm xU52))
        refine ow_callP C A63 (argsL := []) f67 (rm_si l Z a0 hw a b kk ds (r53 <<< ((8 : Int32) &&& 63).toInt64) co51 wi51 (M + 1) (256 * L) h64 ⟨f67, f68, f69, f70, f66, f71, f72, f73, xU52⟩ I51 (by omega) (by omega) []) tw_62 tw_64 tw_48 tw_63 tw_49 tw_65 (by decide) (allS (Or.inl (List.mem_of_getElem? (i := 0) rfl)) all0) (by decide) (by decide) (ck' := 0) (sk' := 0) rfl rfl (by decide) (by decide) rfl (lenOf pd_2 rfl) (S := []) rfl (W := 0) (Nat.le_of_eq rfl) d14_81 rfl ?_
        intro T74 v74 K74 hQ74 A74
        obtain ⟨rfl, co74, wi74, O74, I74⟩ := hQ74
        show OwnWP _ _ _ _ _ _ _ _ _ T74 (mkF m 84 #[.val (.ref a), .val (.int p), .val (.long (own_bd ra p)), .second, .val (.long (0 : Int64)), .second] [])
        obtain ⟨xE75, xD75, xN75, xP75, xR75, xC75, xW75, xV75, xU75⟩ := O74
        refine ow_goto C A74 d14_84 (by decide) (pc' := 58) (by decide) ?_
        have sr76 := own_sl8 r53 ⟨by omega, by omega⟩
        obtain ⟨r76, hr76⟩ : ∃ z, z = (r53 <<< ((8 : Int32) &&& 63).toInt64) := ⟨_, rfl⟩
        have f77 : Fld Z T74.heap a "com/example/phasorwire/phasorwire/RangeDecoder" "range" "J" (.long r76) := by have q := xR75; rw [hr76]; exact q
        rw [← hr76] at sr76
        refine ow_aloadN C A74 d14_58 rfl rfl rfl ?_
        refine ow_getF C A74 tw_55 Via.refl f77 d14_59 rfl ?_
        intro T78 A79
        refine ow_ldc2 C A79 tw_104 d14_62 rfl ?_
        refine ow_lcmp_ge C A79 d14_65 rfl d14_66 (by decide) (pcY := 87) (by decide) (pcN := 69) rfl (fun _ => ?_) (fun zq => absurd zq (own_nlt64 (by show ¬ (r76.toInt < 16777216); omega)))
        refine ow_lload C A79 d14_87 rfl rfl ?_
        refine ow_lconst C A79 d14_89 (v := 0) rfl rfl ?_
        refine ow_lcmp_eq C A79 d14_90 rfl d14_91 (by decide) (pcY := 98) (by decide) (pcN := 94) rfl (fun _ => ?_) (fun zq => absurd (by decide) zq)
        refine ow_iconst C A79 d14_98 (v := 0) rfl rfl ?_
        refine ow_ireturn C A79 (t := .boolean) rfl rfl (by simp) d14_99 (by decide) (by decide) ?_
        refine ⟨r76, co74, wi74, 2, (256 * (256 * L)), ⟨xE75, xD75, xN75, xP75, f77, xC75, xW75, xV75, xU75⟩, I74, Or.inl ⟨rfl, hb, ?_⟩⟩
        rw [← hr22]
        exact Or.inr (Or.inr ⟨rfl, by omega, by omega, by omega⟩)
  · rw [on2.2 hb]
    refine ow_lstore C A5 d14_24 (Ls' := #[.val (.ref a), .val (.int p), .val (.long (own_bd ra p)), .second, .val (.long (-1 : Int64)), .second]) rfl rfl ?_
    refine ow_aloadN C A5 d14_26 rfl rfl rfl ?_
    refine ow_dup C A5 d14_27 rfl rfl ?_
    refine ow_getF C A5 tw_69 Via.refl xC1 d14_28 rfl ?_
    intro T80 A81
    refine ow_lloadN C A81 d14_31 rfl rfl ?_
    refine ow_lload C A81 d14_32 rfl rfl ?_
    refine ow_land C A81 d14_34 rfl ?_
    refine ow_lsub C A81 d14_35 rfl ?_
    refine ow_putF C A81 tw_69 Via.refl xC1 xE1 tw_70 tw_48 (ty := .long) (by decide) rfl rfl (Or.inl (List.mem_of_getElem? (i := 0) rfl)) d14_36 rfl ?_
    intro T82 h84 W85 A83
    have f86 := xC1.same W85
    refine ow_aloadN C A83 d14_39 rfl rfl rfl ?_
    refine ow_lloadN C A83 d14_40 rfl rfl ?_
    refine ow_aloadN C A83 d14_41 rfl rfl rfl ?_
    have f87 := (xR1.other W85 (Or.inr (sn_42 hw)))
    refine ow_getF C A83 tw_55 Via.refl f87 d14_42 rfl ?_
    intro T88 A89
    refine ow_ldc2 C A89 tw_103 d14_45 rfl ?_
    refine ow_lloadN C A89 d14_48 rfl rfl ?_
    refine ow_lmul C A89 d14_49 rfl ?_
    refine ow_lsub C A89 d14_50 rfl ?_
    refine ow_lload C A89 d14_51 rfl rfl ?_
    refine ow_land C A89 d14_53 rfl ?_
    refine ow_ladd C A89 d14_54 rfl ?_
    have f90 := (xE1.wr W85)
    refine ow_putF C A89 tw_55 Via.refl f87 f90 tw_56 tw_48 (ty := .long) (by decide) rfl rfl (Or.inl (List.mem_of_getElem? (i := 0) rfl)) d14_55 rfl ?_
    intro T91 h93 W94 A92
    have f95 := f87.same W94
    obtain ⟨r96, hr96⟩ : ∃ z, z = own_r1 ra p := ⟨_, rfl⟩
    have f97 : Fld Z h93 a "com/example/phasorwire/phasorwire/RangeDecoder" "range" "J" (.long r96) := by have q := f95; rw [hr96, ← own_e1 ra p]; exact q
    have br96 : 4096 ≤ r96.toInt ∧ r96.toInt < 4294967296 := by rw [hr96]; exact own_rb1 ra p hra hp
    have ecc96 : ((co - ((own_bd ra p) &&& (-1 : Int64)))).toInt = co.toInt - (own_bd ra p).toInt := own_sc1 _ _ bb.1 ⟨by omega, by omega⟩ (by omega)
    obtain ⟨cc96, hcc96⟩ : ∃ z, z = (co - ((own_bd ra p) &&& (-1 : Int64))) := ⟨_, rfl⟩
    have f99 := (f86.other W94 (Or.inr (sn_54 hw)))
    have f98 : Fld Z h93 a "com/example/phasorwire/phasorwire/RangeDecoder" "code" "J" (.long cc96) := by have q := f99; rw [hcc96]; exact q
    rw [← hcc96] at ecc96
    have D96 : DI ds M cc96 wi (L + (own_bd ra p).toInt) := by obtain ⟨q1, q2⟩ := hD; exact ⟨by omega, q2⟩
    refine ow_aloadN C A92 d14_58 rfl rfl rfl ?_
    refine ow_getF C A92 tw_55 Via.refl f97 d14_59 rfl ?_
    intro T100 A101
    refine ow_ldc2 C A101 tw_104 d14_62 rfl ?_
    refine ow_lcmp_ge C A101 d14_65 rfl d14_66 (by decide) (pcY := 87) (by decide) (pcN := 69) rfl (fun hc65 => ?_) (fun hc65 => ?_)
    · skip
      have iv102 : ¬ (r96.toInt < 16777216) := own_nlt64' hc65
      refine ow_lload C A101 d14_87 rfl rfl ?_
      refine ow_lconst C A101 d14_89 (v := 0) rfl rfl ?_
      refine ow_lcmp_eq C A101 d14_90 rfl d14_91 (by decide) (pcY := 98) (by decide) (pcN := 94) rfl (fun zq => absurd zq (by decide)) (fun _ => ?_)
      refine ow_iconst C A101 d14_94 (v := 1) rfl rfl ?_
      refine ow_goto C A101 d14_95 (by decide) (pc' := 99) (by decide) ?_
      have f103 := (f90.wr W94)
      have f104 := ((xD1.other W85 (Or.inr (sn_34 hw))).other W94 (Or.inr (sn_45 hw)))
      have f105 := ((xN1.other W85 (Or.inr (sn_37 hw))).other W94 (Or.inr (sn_46 hw)))
      have f106 := ((xP1.other W85 (Or.inr (sn_39 hw))).other W94 (Or.inr (sn_48 hw)))
      have f107 := ((xW1.other W85 (Or.inr (sn_32 hw))).other W94 (Or.inr (sn_57 hw)))
      have f108 := ((xV1.other W85 (Ne.symm xU1)).other W94 (Ne.symm xU1))
      refine ow_ireturn C A101 (t := .boolean) rfl rfl (by simp) d14_99 (by decide) (by decide) ?_
      refine ⟨r96, cc96, wi, 0, (L + (own_bd ra p).toInt), ⟨f103, f104, f105, f106, f97, f98, f107, f108, xU1⟩, D96, Or.inr ⟨rfl, hb, ?_⟩⟩
      rw [← hr96]
      exact Or.inl ⟨rfl, by omega, by omega, rfl⟩
    · skip
      have iv109 : r96.toInt < 16777216 := own_lt64' hc65
      refine ow_aloadN C A101 d14_69 rfl rfl rfl ?_
      refine ow_dup C A101 d14_70 rfl rfl ?_
      refine ow_getF C A101 tw_55 Via.refl f97 d14_71 rfl ?_
      intro T110 A111
      refine ow_bipush C A111 d14_74 (v := 8) rfl rfl ?_
      refine ow_lshl C A111 d14_76 rfl ?_
      have f112 := (f90.wr W94)
      refine ow_putF C A111 tw_55 Via.refl f97 f112 tw_56 tw_48 (ty := .long) (by decide) rfl rfl (Or.inl (List.mem_of_getElem? (i := 0) rfl)) d14_77 rfl ?_
      intro T113 h115 W116 A114
      have f117 := f97.same W116
      refine ow_aloadN C A114 d14_80 rfl rfl rfl ?_
      have f118 := (f112.wr W116)
      have f119 := (((xD1.other W85 (Or.inr (sn_34 hw))).other W94 (Or.inr (sn_45 hw))).other W116 (Or.inr (sn_45 hw)))
      have f120 := (((xN1.other W85 (Or.inr (sn_37 hw))).other W94 (Or.inr (sn_46 hw))).other W116 (Or.inr (sn_46 hw)))
      have f121 := (((xP1.other W85 (Or.inr (sn_39 hw))).other W94 (Or.inr (sn_48 hw))).other W116 (Or.inr (sn_48 hw)))
      have f122 := (f98.other W116 (Or.inr (sn_54 hw)))
      have f123 := (((xW1.other W85 (Or.inr (sn_32 hw))).other W94 (Or.inr (sn_57 hw))).other W116 (Or.inr (sn_57 hw)))
      have f124 := (((xV1.other W85 (Ne.symm xU1)).other W94 (Ne.symm xU1)).other W116 (Ne.symm xU1))
      refine ow_callP C A114 (argsL := []) f118 (rm_si l Z a0 hw a b kk ds (r96 <<< ((8 : Int32) &&& 63).toInt64) cc96 wi M (L + (own_bd ra p).toInt) h115 ⟨f118, f119, f120, f121, f117, f122, f123, f124, xU1⟩ D96 (by omega) (by omega) []) tw_62 tw_64 tw_48 tw_63 tw_49 tw_65 (by decide) (allS (Or.inl (List.mem_of_getElem? (i := 0) rfl)) all0) (by decide) (by decide) (ck' := 0) (sk' := 0) rfl rfl (by decide) (by decide) rfl (lenOf pd_2 rfl) (S := []) rfl (W := 0) (Nat.le_of_eq rfl) d14_81 rfl ?_
      intro T125 v125 K125 hQ125 A125
      obtain ⟨rfl, co125, wi125, O125, I125⟩ := hQ125
      show OwnWP _ _ _ _ _ _ _ _ _ T125 (mkF m 84 #[.val (.ref a), .val (.int p), .val (.long (own_bd ra p)), .second, .val (.long (-1 : Int64)), .second] [])
      obtain ⟨xE126, xD126, xN126, xP126, xR126, xC126, xW126, xV126, xU126⟩ := O125
      refine ow_goto C A125 d14_84 (by decide) (pc' := 58) (by decide) ?_
      have sr127 := own_sl8 r96 ⟨by omega, by omega⟩
      obtain ⟨r127, hr127⟩ : ∃ z, z = (r96 <<< ((8 : Int32) &&& 63).toInt64) := ⟨_, rfl⟩
      have f128 : Fld Z T125.heap a "com/example/phasorwire/phasorwire/RangeDecoder" "range" "J" (.long r127) := by have q := xR126; rw [hr127]; exact q
      rw [← hr127] at sr127
      refine ow_aloadN C A125 d14_58 rfl rfl rfl ?_
      refine ow_getF C A125 tw_55 Via.refl f128 d14_59 rfl ?_
      intro T129 A130
      refine ow_ldc2 C A130 tw_104 d14_62 rfl ?_
      refine ow_lcmp_ge C A130 d14_65 rfl d14_66 (by decide) (pcY := 87) (by decide) (pcN := 69) rfl (fun hc131 => ?_) (fun hc131 => ?_)
      · skip
        have iv132 : ¬ (r127.toInt < 16777216) := own_nlt64' hc131
        refine ow_lload C A130 d14_87 rfl rfl ?_
        refine ow_lconst C A130 d14_89 (v := 0) rfl rfl ?_
        refine ow_lcmp_eq C A130 d14_90 rfl d14_91 (by decide) (pcY := 98) (by decide) (pcN := 94) rfl (fun zq => absurd zq (by decide)) (fun _ => ?_)
        refine ow_iconst C A130 d14_94 (v := 1) rfl rfl ?_
        refine ow_goto C A130 d14_95 (by decide) (pc' := 99) (by decide) ?_
        refine ow_ireturn C A130 (t := .boolean) rfl rfl (by simp) d14_99 (by decide) (by decide) ?_
        refine ⟨r127, co125, wi125, 1, (256 * (L + (own_bd ra p).toInt)), ⟨xE126, xD126, xN126, xP126, f128, xC126, xW126, xV126, xU126⟩, I125, Or.inr ⟨rfl, hb, ?_⟩⟩
        rw [← hr96]
        exact Or.inr (Or.inl ⟨rfl, by omega, by omega, by omega, rfl⟩)
      · skip
        have iv133 : r127.toInt < 16777216 := own_lt64' hc131
        refine ow_aloadN C A130 d14_69 rfl rfl rfl ?_
        refine ow_dup C A130 d14_70 rfl rfl ?_
        refine ow_getF C A130 tw_55 Via.refl f128 d14_71 rfl ?_
        intro T134 A135
        refine ow_bipush C A135 d14_74 (v := 8) rfl rfl ?_
        refine ow_lshl C A135 d14_76 rfl ?_
        refine ow_putF C A135 tw_55 Via.refl f128 xE126 tw_56 tw_48 (ty := .long) (by decide) rfl rfl (Or.inl (List.mem_of_getElem? (i := 0) rfl)) d14_77 rfl ?_
        intro T136 h138 W139 A137
        have f140 := f128.same W139
        refine ow_aloadN C A137 d14_80 rfl rfl rfl ?_
        have f141 := (xE126.wr W139)
        have f142 := (xD126.other W139 (Or.inr (sn_45 hw)))
        have f143 := (xN126.other W139 (Or.inr (sn_46 hw)))
        have f144 := (xP126.other W139 (Or.inr (sn_48 hw)))
        have f145 := (xC126.other W139 (Or.inr (sn_54 hw)))
        have f146 := (xW126.other W139 (Or.inr (sn_57 hw)))
        have f147 := (xV126.other W139 (Ne.symm xU126))
        refine ow_callP C A137 (argsL := []) f141 (rm_si l Z a0 hw a b kk ds (r127 <<< ((8 : Int32) &&& 63).toInt64) co125 wi125 (M + 1) (256 * (L + (own_bd ra p).toInt)) h138 ⟨f141, f142, f143, f144, f140, f145, f146, f147, xU126⟩ I125 (by omega) (by omega) []) tw_62 tw_64 tw_48 tw_63 tw_49 tw_65 (by decide) (allS (Or.inl (List.mem_of_getElem? (i := 0) rfl)) all0) (by decide) (by decide) (ck' := 0) (sk' := 0) rfl rfl (by decide) (by decide) rfl (lenOf pd_2 rfl) (S := []) rfl (W := 0) (Nat.le_of_eq rfl) d14_81 rfl ?_
        intro T148 v148 K148 hQ148 A148
        obtain ⟨rfl, co148, wi148, O148, I148⟩ := hQ148
        show OwnWP _ _ _ _ _ _ _ _ _ T148 (mkF m 84 #[.val (.ref a), .val (.int p), .val (.long (own_bd ra p)), .second, .val (.long (-1 : Int64)), .second] [])
        obtain ⟨xE149, xD149, xN149, xP149, xR149, xC149, xW149, xV149, xU149⟩ := O148
        refine ow_goto C A148 d14_84 (by decide) (pc' := 58) (by decide) ?_
        have sr150 := own_sl8 r127 ⟨by omega, by omega⟩
        obtain ⟨r150, hr150⟩ : ∃ z, z = (r127 <<< ((8 : Int32) &&& 63).toInt64) := ⟨_, rfl⟩
        have f151 : Fld Z T148.heap a "com/example/phasorwire/phasorwire/RangeDecoder" "range" "J" (.long r150) := by have q := xR149; rw [hr150]; exact q
        rw [← hr150] at sr150
        refine ow_aloadN C A148 d14_58 rfl rfl rfl ?_
        refine ow_getF C A148 tw_55 Via.refl f151 d14_59 rfl ?_
        intro T152 A153
        refine ow_ldc2 C A153 tw_104 d14_62 rfl ?_
        refine ow_lcmp_ge C A153 d14_65 rfl d14_66 (by decide) (pcY := 87) (by decide) (pcN := 69) rfl (fun _ => ?_) (fun zq => absurd zq (own_nlt64 (by show ¬ (r150.toInt < 16777216); omega)))
        refine ow_lload C A153 d14_87 rfl rfl ?_
        refine ow_lconst C A153 d14_89 (v := 0) rfl rfl ?_
        refine ow_lcmp_eq C A153 d14_90 rfl d14_91 (by decide) (pcY := 98) (by decide) (pcN := 94) rfl (fun zq => absurd zq (by decide)) (fun _ => ?_)
        refine ow_iconst C A153 d14_94 (v := 1) rfl rfl ?_
        refine ow_goto C A153 d14_95 (by decide) (pc' := 99) (by decide) ?_
        refine ow_ireturn C A153 (t := .boolean) rfl rfl (by simp) d14_99 (by decide) (by decide) ?_
        refine ⟨r150, co148, wi148, 2, (256 * (256 * (L + (own_bd ra p).toInt))), ⟨xE149, xD149, xN149, xP149, f151, xC149, xW149, xV149, xU149⟩, I148, Or.inr ⟨rfl, hb, ?_⟩⟩
        rw [← hr96]
        exact Or.inr (Or.inr ⟨rfl, by omega, by omega, by omega⟩)
set_option maxRecDepth 65536 in
set_option maxHeartbeats 40000000 in
theorem can_67 {p : Program} {l : Launch} {e : Env} {s : State} {m : MethodId} {args : Array Value} {below : List Frame} {meth : Method} {c : Code} {Z : State} {a0 : Array Value} {h0 : Heap} {T : State} (hw : ∀ d ∈ tables_1, d.before a0 Z = true) (C : OwnCtx p s m meth c Z a0 tables_1 (⟨"com/example/phasorwire/phasorwire/RangeDecoder", "isCanonical", "()Z"⟩ : MethodName) prog_62_method_3_code 10 (some .boolean)) (A : OwnPos p l e rmz s m args below meth c h0 [] T h0 0 0) (a b : Addr) (kk : ClassId) (ds : List Int32) (pos : Nat) (ra co wi : Int64) (lw en : Int64) (ct : Int32) (s6 s7 s8 s9 : Slot) (O : Dec Z h0 a b kk ds pos ra co wi) (hl : ds.length ≤ 20) (hp : pos ≤ 20) (hen : en.toInt = own_end ((wi.toInt - co.toInt) % 4294967296) ra.toInt) :
    OwnWP p e below s h0 [] (QCa ds pos ra co wi h0) rmz.cells rmz.slots T (mkF m 67 #[.val (.ref a), .val (.long lw), .second, .val (.long en), .second, .val (.int ct), s6, s7, s8, s9] []) := by
  obtain ⟨xE1, xD1, xN1, xP1, xR1, xC1, xW1, xV1, xU1⟩ := O
  have el := own_ofn ds.length (by omega)
  refine ow_aloadN C A d9_67 rfl rfl rfl ?_
  refine ow_getF C A tw_60 Via.refl xN1 d9_68 rfl ?_
  intro T2 A3
  refine ow_if_le C A3 d9_71 (by decide) (pcY := 92) (by decide) (pcN := 74) rfl (fun hc71 => ?_) (fun hc71 => ?_)
  · skip
    have hn71 : ds.length = 0 := by have q := own_nlt32' hc71; rw [el] at q; have k0 : (0 : Int32).toInt = 0 := rfl; omega
    refine ow_iconst C A3 d9_92 (v := 0) rfl rfl ?_
    refine ow_istore C A3 d9_93 (Ls' := #[.val (.ref a), .val (.long lw), .second, .val (.long en), .second, .val (.int (0 : Int32)), s6, s7, s8, s9]) rfl rfl ?_
    refine ow_aloadN C A3 d9_95 rfl rfl rfl ?_
    refine ow_getF C A3 tw_69 Via.refl xC1 d9_96 rfl ?_
    intro T4 A5
    refine ow_lloadN C A5 d9_99 rfl rfl ?_
    refine ow_lcmp_ne C A5 d9_100 rfl d9_101 (by decide) (pcY := 124) (by decide) (pcN := 104) rfl (fun hc100 => ?_) (fun hc100 => ?_)
    · skip
      refine ow_iconst C A5 d9_124 (v := 0) rfl rfl ?_
      refine ow_ireturn C A5 (t := .boolean) rfl rfl (by simp) d9_125 (by decide) (by decide) ?_
      exact ⟨rfl, Or.inr ⟨rfl, fun q => hc100 (own_eq64 (q.1.trans hen.symm))⟩⟩
    · skip
      refine ow_aloadN C A5 d9_104 rfl rfl rfl ?_
      refine ow_getF C A5 tw_66 Via.refl xP1 d9_105 rfl ?_
      intro T6 A7
      refine ow_aloadN C A7 d9_108 rfl rfl rfl ?_
      refine ow_getF C A7 tw_60 Via.refl xN1 d9_109 rfl ?_
      intro T8 A9
      refine ow_icmp_ne C A9 d9_112 (by decide) (pcY := 124) (by decide) (pcN := 115) rfl (fun hc112 => ?_) (fun hc112 => ?_)
      · skip
        refine ow_iconst C A9 d9_124 (v := 0) rfl rfl ?_
        refine ow_ireturn C A9 (t := .boolean) rfl rfl (by simp) d9_125 (by decide) (by decide) ?_
        exact ⟨rfl, Or.inr ⟨rfl, fun q => hc112 ((own_eqN _ _ (by omega) (by omega)).mpr q.2.1)⟩⟩
      · skip
        refine ow_iload C A9 d9_115 rfl rfl ?_
        refine ow_if_ne C A9 d9_117 (by decide) (pcY := 124) (by decide) (pcN := 120) rfl (fun zq => absurd (by decide) zq) (fun _ => ?_)
        refine ow_iconst C A9 d9_120 (v := 1) rfl rfl ?_
        refine ow_goto C A9 d9_121 (by decide) (pc' := 125) (by decide) ?_
        refine ow_ireturn C A9 (t := .boolean) rfl rfl (by simp) d9_125 (by decide) (by decide) ?_
        exact ⟨rfl, Or.inl ⟨rfl, (congrArg Int64.toInt hc100).trans hen, (own_eqN _ _ (by omega) (by omega)).mp hc112, Or.inl hn71⟩⟩
  · skip
    have hn71 : 0 < ds.length := by have q := own_lt32' hc71; rw [el] at q; have k0 : (0 : Int32).toInt = 0 := rfl; omega
    have es := own_sub1 ds.length hn71 (by omega)
    refine ow_aloadN C A3 d9_74 rfl rfl rfl ?_
    refine ow_getF C A3 tw_58 Via.refl xD1 d9_75 rfl ?_
    intro T10 A11
    refine ow_aloadN C A11 d9_78 rfl rfl rfl ?_
    refine ow_getF C A11 tw_60 Via.refl xN1 d9_79 rfl ?_
    intro T12 A13
    refine ow_iconst C A13 d9_82 (v := 1) rfl rfl ?_
    refine ow_isub C A13 d9_83 rfl ?_
    refine ow_baload C A13 xV1 ⟨own_nlt32 (by rw [es]; show ¬ (_ < (0 : Int)); omega), own_lt32 (by rw [es, own_ofn _ (by omega)]; omega)⟩ (v := (.int (ds.getD (ds.length - 1) 0))) (by rw [own_tn, es, show ((ds.length : Int) - 1).toNat = ds.length - 1 from by omega]; exact own_gd ds _) d9_84 rfl ?_
    refine ow_if_ne C A13 d9_85 (by decide) (pcY := 92) (by decide) (pcN := 88) rfl (fun hc85 => ?_) (fun hc85 => ?_)
    · skip
      refine ow_iconst C A13 d9_92 (v := 0) rfl rfl ?_
      refine ow_istore C A13 d9_93 (Ls' := #[.val (.ref a), .val (.long lw), .second, .val (.long en), .second, .val (.int (0 : Int32)), s6, s7, s8, s9]) rfl rfl ?_
      refine ow_aloadN C A13 d9_95 rfl rfl rfl ?_
      refine ow_getF C A13 tw_69 Via.refl xC1 d9_96 rfl ?_
      intro T14 A15
      refine ow_lloadN C A15 d9_99 rfl rfl ?_
      refine ow_lcmp_ne C A15 d9_100 rfl d9_101 (by decide) (pcY := 124) (by decide) (pcN := 104) rfl (fun hc100 => ?_) (fun hc100 => ?_)
      · skip
        refine ow_iconst C A15 d9_124 (v := 0) rfl rfl ?_
        refine ow_ireturn C A15 (t := .boolean) rfl rfl (by simp) d9_125 (by decide) (by decide) ?_
        exact ⟨rfl, Or.inr ⟨rfl, fun q => hc100 (own_eq64 (q.1.trans hen.symm))⟩⟩
      · skip
        refine ow_aloadN C A15 d9_104 rfl rfl rfl ?_
        refine ow_getF C A15 tw_66 Via.refl xP1 d9_105 rfl ?_
        intro T16 A17
        refine ow_aloadN C A17 d9_108 rfl rfl rfl ?_
        refine ow_getF C A17 tw_60 Via.refl xN1 d9_109 rfl ?_
        intro T18 A19
        refine ow_icmp_ne C A19 d9_112 (by decide) (pcY := 124) (by decide) (pcN := 115) rfl (fun hc112 => ?_) (fun hc112 => ?_)
        · skip
          refine ow_iconst C A19 d9_124 (v := 0) rfl rfl ?_
          refine ow_ireturn C A19 (t := .boolean) rfl rfl (by simp) d9_125 (by decide) (by decide) ?_
          exact ⟨rfl, Or.inr ⟨rfl, fun q => hc112 ((own_eqN _ _ (by omega) (by omega)).mpr q.2.1)⟩⟩
        · skip
          refine ow_iload C A19 d9_115 rfl rfl ?_
          refine ow_if_ne C A19 d9_117 (by decide) (pcY := 124) (by decide) (pcN := 120) rfl (fun zq => absurd (by decide) zq) (fun _ => ?_)
          refine ow_iconst C A19 d9_120 (v := 1) rfl rfl ?_
          refine ow_goto C A19 d9_121 (by decide) (pc' := 125) (by decide) ?_
          refine ow_ireturn C A19 (t := .boolean) rfl rfl (by simp) d9_125 (by decide) (by decide) ?_
          exact ⟨rfl, Or.inl ⟨rfl, (congrArg Int64.toInt hc100).trans hen, (own_eqN _ _ (by omega) (by omega)).mp hc112, Or.inr hc85⟩⟩
    · skip
      refine ow_iconst C A13 d9_88 (v := 1) rfl rfl ?_
      refine ow_goto C A13 d9_89 (by decide) (pc' := 93) (by decide) ?_
      refine ow_istore C A13 d9_93 (Ls' := #[.val (.ref a), .val (.long lw), .second, .val (.long en), .second, .val (.int (1 : Int32)), s6, s7, s8, s9]) rfl rfl ?_
      refine ow_aloadN C A13 d9_95 rfl rfl rfl ?_
      refine ow_getF C A13 tw_69 Via.refl xC1 d9_96 rfl ?_
      intro T20 A21
      refine ow_lloadN C A21 d9_99 rfl rfl ?_
      refine ow_lcmp_ne C A21 d9_100 rfl d9_101 (by decide) (pcY := 124) (by decide) (pcN := 104) rfl (fun hc100 => ?_) (fun hc100 => ?_)
      · skip
        refine ow_iconst C A21 d9_124 (v := 0) rfl rfl ?_
        refine ow_ireturn C A21 (t := .boolean) rfl rfl (by simp) d9_125 (by decide) (by decide) ?_
        exact ⟨rfl, Or.inr ⟨rfl, fun q => hc100 (own_eq64 (q.1.trans hen.symm))⟩⟩
      · skip
        refine ow_aloadN C A21 d9_104 rfl rfl rfl ?_
        refine ow_getF C A21 tw_66 Via.refl xP1 d9_105 rfl ?_
        intro T22 A23
        refine ow_aloadN C A23 d9_108 rfl rfl rfl ?_
        refine ow_getF C A23 tw_60 Via.refl xN1 d9_109 rfl ?_
        intro T24 A25
        refine ow_icmp_ne C A25 d9_112 (by decide) (pcY := 124) (by decide) (pcN := 115) rfl (fun hc112 => ?_) (fun hc112 => ?_)
        · skip
          refine ow_iconst C A25 d9_124 (v := 0) rfl rfl ?_
          refine ow_ireturn C A25 (t := .boolean) rfl rfl (by simp) d9_125 (by decide) (by decide) ?_
          exact ⟨rfl, Or.inr ⟨rfl, fun q => hc112 ((own_eqN _ _ (by omega) (by omega)).mpr q.2.1)⟩⟩
        · skip
          refine ow_iload C A25 d9_115 rfl rfl ?_
          refine ow_if_ne C A25 d9_117 (by decide) (pcY := 124) (by decide) (pcN := 120) rfl (fun _ => ?_) (fun zq => absurd zq (by decide))
          refine ow_iconst C A25 d9_124 (v := 0) rfl rfl ?_
          refine ow_ireturn C A25 (t := .boolean) rfl rfl (by simp) d9_125 (by decide) (by decide) ?_
          exact ⟨rfl, Or.inr ⟨rfl, fun q => q.2.2.elim (fun z => absurd z (by omega)) (fun z => z hc85)⟩⟩
set_option maxRecDepth 65536 in
set_option maxHeartbeats 40000000 in
theorem rm_can (l : Launch) (Z : State) (a0 : Array Value) (hw : ∀ d ∈ tables_1, d.before a0 Z = true) (a b : Addr) (kk : ClassId) (ds : List Int32) (pos : Nat) (ra co wi : Int64) (h0 : Heap) (O : Dec Z h0 a b kk ds pos ra co wi) (hl : ds.length ≤ 20) (hp : pos ≤ 20) (hb : (0 ≤ co.toInt ∧ co.toInt < 4294967296) ∧ (0 ≤ wi.toInt ∧ wi.toInt < 4294967296)) (cs : List Jvm.Cond) :
    OwnCtr l Z (⟨"com/example/phasorwire/phasorwire/RangeDecoder", "isCanonical", "()Z"⟩ : MethodName) prog_62_method_3_code 10 (some .boolean) rmz #[(.ref a)] h0 [] (QCa ds pos ra co wi h0) cs := by
  refine ow_ctr pn_9 hw (Ls := #[.val (.ref a), .unset, .unset, .unset, .unset, .unset, .unset, .unset, .unset, .unset]) (fun m => by first | (simp [entryFrame, mkF, argsToLocals, Value.category]; done) | rfl) ?_
  intro p e s m below meth c T0 C A0
  obtain ⟨xE1, xD1, xN1, xP1, xR1, xC1, xW1, xV1, xU1⟩ := O
  refine ow_aloadN C A0 d9_0 rfl rfl rfl ?_
  refine ow_getF C A0 tw_71 Via.refl xW1 d9_1 rfl ?_
  intro T2 A3
  refine ow_aloadN C A3 d9_4 rfl rfl rfl ?_
  refine ow_getF C A3 tw_69 Via.refl xC1 d9_5 rfl ?_
  intro T4 A5
  refine ow_lsub C A5 d9_8 rfl ?_
  refine ow_ldc2 C A5 tw_54 d9_9 rfl ?_
  refine ow_land C A5 d9_12 rfl ?_
  have elw := own_lowc wi co hb
  obtain ⟨lw, hlw⟩ : ∃ z, z = (wi - co) &&& (4294967295 : Int64) := ⟨_, rfl⟩
  rw [← hlw] at elw ⊢
  refine ow_lstoreN C A5 d9_13 (Ls' := #[.val (.ref a), .val (.long lw), .second, .unset, .unset, .unset, .unset, .unset, .unset, .unset]) rfl rfl ?_
  refine ow_lconst C A5 d9_14 (v := 0) rfl rfl ?_
  refine ow_lstoreN C A5 d9_15 (Ls' := #[.val (.ref a), .val (.long lw), .second, .val (.long (0 : Int64)), .second, .unset, .unset, .unset, .unset, .unset]) rfl rfl ?_
  refine ow_iconst C A5 d9_16 (v := 0) rfl rfl ?_
  refine ow_istore C A5 d9_17 (Ls' := #[.val (.ref a), .val (.long lw), .second, .val (.long (0 : Int64)), .second, .val (.int (0 : Int32)), .unset, .unset, .unset, .unset]) rfl rfl ?_
  refine ow_iload C A5 d9_19 rfl rfl ?_
  refine ow_iconst C A5 d9_21 (v := 4) rfl rfl ?_
  refine ow_icmp_ge C A5 d9_22 (by decide) (pcY := 67) (by decide) (pcN := 25) rfl (fun zq => absurd (by decide) zq) (fun _ => ?_)
  refine ow_lconst C A5 d9_25 (v := 1) rfl rfl ?_
  refine ow_bipush C A5 d9_26 (v := 8) rfl rfl ?_
  refine ow_iconst C A5 d9_28 (v := 4) rfl rfl ?_
  refine ow_iload C A5 d9_29 rfl rfl ?_
  refine ow_isub C A5 d9_31 rfl ?_
  show OwnWP _ _ _ _ _ _ _ _ _ T4 (mkF m 32 #[.val (.ref a), .val (.long lw), .second, .val (.long (0 : Int64)), .second, .val (.int (0 : Int32)), .unset, .unset, .unset, .unset] [(.int (4 : Int32)), (.int (8 : Int32)), (.long (1 : Int64))])
  refine ow_imul C A5 d9_32 rfl ?_
  show OwnWP _ _ _ _ _ _ _ _ _ T4 (mkF m 33 #[.val (.ref a), .val (.long lw), .second, .val (.long (0 : Int64)), .second, .val (.int (0 : Int32)), .unset, .unset, .unset, .unset] [(.int (32 : Int32)), (.long (1 : Int64))])
  refine ow_lshl C A5 d9_33 rfl ?_
  show OwnWP _ _ _ _ _ _ _ _ _ T4 (mkF m 34 #[.val (.ref a), .val (.long lw), .second, .val (.long (0 : Int64)), .second, .val (.int (0 : Int32)), .unset, .unset, .unset, .unset] [(.long (4294967296 : Int64))])
  refine ow_lstore C A5 d9_34 (Ls' := #[.val (.ref a), .val (.long lw), .second, .val (.long (0 : Int64)), .second, .val (.int (0 : Int32)), .val (.long (4294967296 : Int64)), .second, .unset, .unset]) rfl rfl ?_
  refine ow_lloadN C A5 d9_36 rfl rfl ?_
  refine ow_lneg C A5 d9_37 rfl ?_
  refine ow_lload C A5 d9_38 rfl rfl ?_
  refine ow_lconst C A5 d9_40 (v := 1) rfl rfl ?_
  refine ow_lsub C A5 d9_41 rfl ?_
  show OwnWP _ _ _ _ _ _ _ _ _ T4 (mkF m 42 #[.val (.ref a), .val (.long lw), .second, .val (.long (0 : Int64)), .second, .val (.int (0 : Int32)), .val (.long (4294967296 : Int64)), .second, .unset, .unset] [(.long (4294967295 : Int64)), (.long (-lw))])
  refine ow_land C A5 d9_42 rfl ?_
  have edd6 := own_ds32 lw ⟨by omega, by omega⟩
  obtain ⟨dd6, hdd6⟩ : ∃ z, z = ((-lw) &&& (4294967295 : Int64)) := ⟨_, rfl⟩
  rw [← hdd6] at edd6 ⊢
  refine ow_lstore C A5 d9_43 (Ls' := #[.val (.ref a), .val (.long lw), .second, .val (.long (0 : Int64)), .second, .val (.int (0 : Int32)), .val (.long (4294967296 : Int64)), .second, .val (.long dd6), .second]) rfl rfl ?_
  refine ow_lload C A5 d9_45 rfl rfl ?_
  refine ow_aloadN C A5 d9_47 rfl rfl rfl ?_
  refine ow_getF C A5 tw_55 Via.refl xR1 d9_48 rfl ?_
  intro T7 A8
  refine ow_lcmp_ge C A8 d9_51 rfl d9_52 (by decide) (pcY := 61) (by decide) (pcN := 55) rfl (fun hc51 => ?_) (fun hc51 => ?_)
  · skip
    have qhc51 := own_nlt64' hc51
    refine ow_iinc C A8 d9_61 rfl (Ls' := #[.val (.ref a), .val (.long lw), .second, .val (.long (0 : Int64)), .second, .val (.int (1 : Int32)), .val (.long (4294967296 : Int64)), .second, .val (.long dd6), .second]) rfl rfl ?_
    refine ow_goto C A8 d9_64 (by decide) (pc' := 19) (by decide) ?_
    refine ow_iload C A8 d9_19 rfl rfl ?_
    refine ow_iconst C A8 d9_21 (v := 4) rfl rfl ?_
    refine ow_icmp_ge C A8 d9_22 (by decide) (pcY := 67) (by decide) (pcN := 25) rfl (fun zq => absurd (by decide) zq) (fun _ => ?_)
    refine ow_lconst C A8 d9_25 (v := 1) rfl rfl ?_
    refine ow_bipush C A8 d9_26 (v := 8) rfl rfl ?_
    refine ow_iconst C A8 d9_28 (v := 4) rfl rfl ?_
    refine ow_iload C A8 d9_29 rfl rfl ?_
    refine ow_isub C A8 d9_31 rfl ?_
    show OwnWP _ _ _ _ _ _ _ _ _ T7 (mkF m 32 #[.val (.ref a), .val (.long lw), .second, .val (.long (0 : Int64)), .second, .val (.int (1 : Int32)), .val (.long (4294967296 : Int64)), .second, .val (.long dd6), .second] [(.int (3 : Int32)), (.int (8 : Int32)), (.long (1 : Int64))])
    refine ow_imul C A8 d9_32 rfl ?_
    show OwnWP _ _ _ _ _ _ _ _ _ T7 (mkF m 33 #[.val (.ref a), .val (.long lw), .second, .val (.long (0 : Int64)), .second, .val (.int (1 : Int32)), .val (.long (4294967296 : Int64)), .second, .val (.long dd6), .second] [(.int (24 : Int32)), (.long (1 : Int64))])
    refine ow_lshl C A8 d9_33 rfl ?_
    show OwnWP _ _ _ _ _ _ _ _ _ T7 (mkF m 34 #[.val (.ref a), .val (.long lw), .second, .val (.long (0 : Int64)), .second, .val (.int (1 : Int32)), .val (.long (4294967296 : Int64)), .second, .val (.long dd6), .second] [(.long (16777216 : Int64))])
    refine ow_lstore C A8 d9_34 (Ls' := #[.val (.ref a), .val (.long lw), .second, .val (.long (0 : Int64)), .second, .val (.int (1 : Int32)), .val (.long (16777216 : Int64)), .second, .val (.long dd6), .second]) rfl rfl ?_
    refine ow_lloadN C A8 d9_36 rfl rfl ?_
    refine ow_lneg C A8 d9_37 rfl ?_
    refine ow_lload C A8 d9_38 rfl rfl ?_
    refine ow_lconst C A8 d9_40 (v := 1) rfl rfl ?_
    refine ow_lsub C A8 d9_41 rfl ?_
    show OwnWP _ _ _ _ _ _ _ _ _ T7 (mkF m 42 #[.val (.ref a), .val (.long lw), .second, .val (.long (0 : Int64)), .second, .val (.int (1 : Int32)), .val (.long (16777216 : Int64)), .second, .val (.long dd6), .second] [(.long (16777215 : Int64)), (.long (-lw))])
    refine ow_land C A8 d9_42 rfl ?_
    have edd9 := own_ds24 lw ⟨by omega, by omega⟩
    obtain ⟨dd9, hdd9⟩ : ∃ z, z = ((-lw) &&& (16777215 : Int64)) := ⟨_, rfl⟩
    rw [← hdd9] at edd9 ⊢
    refine ow_lstore C A8 d9_43 (Ls' := #[.val (.ref a), .val (.long lw), .second, .val (.long (0 : Int64)), .second, .val (.int (1 : Int32)), .val (.long (16777216 : Int64)), .second, .val (.long dd9), .second]) rfl rfl ?_
    refine ow_lload C A8 d9_45 rfl rfl ?_
    refine ow_aloadN C A8 d9_47 rfl rfl rfl ?_
    refine ow_getF C A8 tw_55 Via.refl xR1 d9_48 rfl ?_
    intro T10 A11
    refine ow_lcmp_ge C A11 d9_51 rfl d9_52 (by decide) (pcY := 61) (by decide) (pcN := 55) rfl (fun hc12 => ?_) (fun hc12 => ?_)
    · skip
      have qhc12 := own_nlt64' hc12
      refine ow_iinc C A11 d9_61 rfl (Ls' := #[.val (.ref a), .val (.long lw), .second, .val (.long (0 : Int64)), .second, .val (.int (2 : Int32)), .val (.long (16777216 : Int64)), .second, .val (.long dd9), .second]) rfl rfl ?_
      refine ow_goto C A11 d9_64 (by decide) (pc' := 19) (by decide) ?_
      refine ow_iload C A11 d9_19 rfl rfl ?_
      refine ow_iconst C A11 d9_21 (v := 4) rfl rfl ?_
      refine ow_icmp_ge C A11 d9_22 (by decide) (pcY := 67) (by decide) (pcN := 25) rfl (fun zq => absurd (by decide) zq) (fun _ => ?_)
      refine ow_lconst C A11 d9_25 (v := 1) rfl rfl ?_
      refine ow_bipush C A11 d9_26 (v := 8) rfl rfl ?_
      refine ow_iconst C A11 d9_28 (v := 4) rfl rfl ?_
      refine ow_iload C A11 d9_29 rfl rfl ?_
      refine ow_isub C A11 d9_31 rfl ?_
      show OwnWP _ _ _ _ _ _ _ _ _ T10 (mkF m 32 #[.val (.ref a), .val (.long lw), .second, .val (.long (0 : Int64)), .second, .val (.int (2 : Int32)), .val (.long (16777216 : Int64)), .second, .val (.long dd9), .second] [(.int (2 : Int32)), (.int (8 : Int32)), (.long (1 : Int64))])
      refine ow_imul C A11 d9_32 rfl ?_
      show OwnWP _ _ _ _ _ _ _ _ _ T10 (mkF m 33 #[.val (.ref a), .val (.long lw), .second, .val (.long (0 : Int64)), .second, .val (.int (2 : Int32)), .val (.long (16777216 : Int64)), .second, .val (.long dd9), .second] [(.int (16 : Int32)), (.long (1 : Int64))])
      refine ow_lshl C A11 d9_33 rfl ?_
      show OwnWP _ _ _ _ _ _ _ _ _ T10 (mkF m 34 #[.val (.ref a), .val (.long lw), .second, .val (.long (0 : Int64)), .second, .val (.int (2 : Int32)), .val (.long (16777216 : Int64)), .second, .val (.long dd9), .second] [(.long (65536 : Int64))])
      refine ow_lstore C A11 d9_34 (Ls' := #[.val (.ref a), .val (.long lw), .second, .val (.long (0 : Int64)), .second, .val (.int (2 : Int32)), .val (.long (65536 : Int64)), .second, .val (.long dd9), .second]) rfl rfl ?_
      refine ow_lloadN C A11 d9_36 rfl rfl ?_
      refine ow_lneg C A11 d9_37 rfl ?_
      refine ow_lload C A11 d9_38 rfl rfl ?_
      refine ow_lconst C A11 d9_40 (v := 1) rfl rfl ?_
      refine ow_lsub C A11 d9_41 rfl ?_
      show OwnWP _ _ _ _ _ _ _ _ _ T10 (mkF m 42 #[.val (.ref a), .val (.long lw), .second, .val (.long (0 : Int64)), .second, .val (.int (2 : Int32)), .val (.long (65536 : Int64)), .second, .val (.long dd9), .second] [(.long (65535 : Int64)), (.long (-lw))])
      refine ow_land C A11 d9_42 rfl ?_
      have edd13 := own_ds16 lw ⟨by omega, by omega⟩
      obtain ⟨dd13, hdd13⟩ : ∃ z, z = ((-lw) &&& (65535 : Int64)) := ⟨_, rfl⟩
      rw [← hdd13] at edd13 ⊢
      refine ow_lstore C A11 d9_43 (Ls' := #[.val (.ref a), .val (.long lw), .second, .val (.long (0 : Int64)), .second, .val (.int (2 : Int32)), .val (.long (65536 : Int64)), .second, .val (.long dd13), .second]) rfl rfl ?_
      refine ow_lload C A11 d9_45 rfl rfl ?_
      refine ow_aloadN C A11 d9_47 rfl rfl rfl ?_
      refine ow_getF C A11 tw_55 Via.refl xR1 d9_48 rfl ?_
      intro T14 A15
      refine ow_lcmp_ge C A15 d9_51 rfl d9_52 (by decide) (pcY := 61) (by decide) (pcN := 55) rfl (fun hc16 => ?_) (fun hc16 => ?_)
      · skip
        have qhc16 := own_nlt64' hc16
        refine ow_iinc C A15 d9_61 rfl (Ls' := #[.val (.ref a), .val (.long lw), .second, .val (.long (0 : Int64)), .second, .val (.int (3 : Int32)), .val (.long (65536 : Int64)), .second, .val (.long dd13), .second]) rfl rfl ?_
        refine ow_goto C A15 d9_64 (by decide) (pc' := 19) (by decide) ?_
        refine ow_iload C A15 d9_19 rfl rfl ?_
        refine ow_iconst C A15 d9_21 (v := 4) rfl rfl ?_
        refine ow_icmp_ge C A15 d9_22 (by decide) (pcY := 67) (by decide) (pcN := 25) rfl (fun zq => absurd (by decide) zq) (fun _ => ?_)
        refine ow_lconst C A15 d9_25 (v := 1) rfl rfl ?_
        refine ow_bipush C A15 d9_26 (v := 8) rfl rfl ?_
        refine ow_iconst C A15 d9_28 (v := 4) rfl rfl ?_
        refine ow_iload C A15 d9_29 rfl rfl ?_
        refine ow_isub C A15 d9_31 rfl ?_
        show OwnWP _ _ _ _ _ _ _ _ _ T14 (mkF m 32 #[.val (.ref a), .val (.long lw), .second, .val (.long (0 : Int64)), .second, .val (.int (3 : Int32)), .val (.long (65536 : Int64)), .second, .val (.long dd13), .second] [(.int (1 : Int32)), (.int (8 : Int32)), (.long (1 : Int64))])
        refine ow_imul C A15 d9_32 rfl ?_
        show OwnWP _ _ _ _ _ _ _ _ _ T14 (mkF m 33 #[.val (.ref a), .val (.long lw), .second, .val (.long (0 : Int64)), .second, .val (.int (3 : Int32)), .val (.long (65536 : Int64)), .second, .val (.long dd13), .second] [(.int (8 : Int32)), (.long (1 : Int64))])
        refine ow_lshl C A15 d9_33 rfl ?_
        show OwnWP _ _ _ _ _ _ _ _ _ T14 (mkF m 34 #[.val (.ref a), .val (.long lw), .second, .val (.long (0 : Int64)), .second, .val (.int (3 : Int32)), .val (.long (65536 : Int64)), .second, .val (.long dd13), .second] [(.long (256 : Int64))])
        refine ow_lstore C A15 d9_34 (Ls' := #[.val (.ref a), .val (.long lw), .second, .val (.long (0 : Int64)), .second, .val (.int (3 : Int32)), .val (.long (256 : Int64)), .second, .val (.long dd13), .second]) rfl rfl ?_
        refine ow_lloadN C A15 d9_36 rfl rfl ?_
        refine ow_lneg C A15 d9_37 rfl ?_
        refine ow_lload C A15 d9_38 rfl rfl ?_
        refine ow_lconst C A15 d9_40 (v := 1) rfl rfl ?_
        refine ow_lsub C A15 d9_41 rfl ?_
        show OwnWP _ _ _ _ _ _ _ _ _ T14 (mkF m 42 #[.val (.ref a), .val (.long lw), .second, .val (.long (0 : Int64)), .second, .val (.int (3 : Int32)), .val (.long (256 : Int64)), .second, .val (.long dd13), .second] [(.long (255 : Int64)), (.long (-lw))])
        refine ow_land C A15 d9_42 rfl ?_
        have edd17 := own_ds8 lw ⟨by omega, by omega⟩
        obtain ⟨dd17, hdd17⟩ : ∃ z, z = ((-lw) &&& (255 : Int64)) := ⟨_, rfl⟩
        rw [← hdd17] at edd17 ⊢
        refine ow_lstore C A15 d9_43 (Ls' := #[.val (.ref a), .val (.long lw), .second, .val (.long (0 : Int64)), .second, .val (.int (3 : Int32)), .val (.long (256 : Int64)), .second, .val (.long dd17), .second]) rfl rfl ?_
        refine ow_lload C A15 d9_45 rfl rfl ?_
        refine ow_aloadN C A15 d9_47 rfl rfl rfl ?_
        refine ow_getF C A15 tw_55 Via.refl xR1 d9_48 rfl ?_
        intro T18 A19
        refine ow_lcmp_ge C A19 d9_51 rfl d9_52 (by decide) (pcY := 61) (by decide) (pcN := 55) rfl (fun hc20 => ?_) (fun hc20 => ?_)
        · skip
          have qhc20 := own_nlt64' hc20
          refine ow_iinc C A19 d9_61 rfl (Ls' := #[.val (.ref a), .val (.long lw), .second, .val (.long (0 : Int64)), .second, .val (.int (4 : Int32)), .val (.long (256 : Int64)), .second, .val (.long dd17), .second]) rfl rfl ?_
          refine ow_goto C A19 d9_64 (by decide) (pc' := 19) (by decide) ?_
          refine ow_iload C A19 d9_19 rfl rfl ?_
          refine ow_iconst C A19 d9_21 (v := 4) rfl rfl ?_
          refine ow_icmp_ge C A19 d9_22 (by decide) (pcY := 67) (by decide) (pcN := 25) rfl (fun _ => ?_) (fun zq => absurd zq (by decide))
          refine can_67 hw C A19 a b kk ds pos ra co wi lw (0 : Int64) (4 : Int32) (.val (.long (256 : Int64))) (.second) (.val (.long dd17)) (.second) ⟨xE1, xD1, xN1, xP1, xR1, xC1, xW1, xV1, xU1⟩ hl hp ?_
          rw [← elw]; unfold own_end; rw [if_neg (by omega), if_neg (by omega), if_neg (by omega), if_neg (by omega)]; rfl
        · skip
          have qhc20 := own_lt64' hc20
          refine ow_lload C A19 d9_55 rfl rfl ?_
          refine ow_lstoreN C A19 d9_57 (Ls' := #[.val (.ref a), .val (.long lw), .second, .val (.long dd17), .second, .val (.int (3 : Int32)), .val (.long (256 : Int64)), .second, .val (.long dd17), .second]) rfl rfl ?_
          refine ow_goto C A19 d9_58 (by decide) (pc' := 67) (by decide) ?_
          refine can_67 hw C A19 a b kk ds pos ra co wi lw dd17 (3 : Int32) (.val (.long (256 : Int64))) (.second) (.val (.long dd17)) (.second) ⟨xE1, xD1, xN1, xP1, xR1, xC1, xW1, xV1, xU1⟩ hl hp ?_
          rw [← elw]; unfold own_end; rw [if_neg (by omega), if_neg (by omega), if_neg (by omega), if_pos (by omega)]; exact edd17
      · skip
        have qhc16 := own_lt64' hc16
        refine ow_lload C A15 d9_55 rfl rfl ?_
        refine ow_lstoreN C A15 d9_57 (Ls' := #[.val (.ref a), .val (.long lw), .second, .val (.long dd13), .second, .val (.int (2 : Int32)), .val (.long (65536 : Int64)), .second, .val (.long dd13), .second]) rfl rfl ?_
        refine ow_goto C A15 d9_58 (by decide) (pc' := 67) (by decide) ?_
        refine can_67 hw C A15 a b kk ds pos ra co wi lw dd13 (2 : Int32) (.val (.long (65536 : Int64))) (.second) (.val (.long dd13)) (.second) ⟨xE1, xD1, xN1, xP1, xR1, xC1, xW1, xV1, xU1⟩ hl hp ?_
        rw [← elw]; unfold own_end; rw [if_neg (by omega), if_neg (by omega), if_pos (by omega)]; exact edd13
    · skip
      have qhc12 := own_lt64' hc12
      refine ow_lload C A11 d9_55 rfl rfl ?_
      refine ow_lstoreN C A11 d9_57 (Ls' := #[.val (.ref a), .val (.long lw), .second, .val (.long dd9), .second, .val (.int (1 : Int32)), .val (.long (16777216 : Int64)), .second, .val (.long dd9), .second]) rfl rfl ?_
      refine ow_goto C A11 d9_58 (by decide) (pc' := 67) (by decide) ?_
      refine can_67 hw C A11 a b kk ds pos ra co wi lw dd9 (1 : Int32) (.val (.long (16777216 : Int64))) (.second) (.val (.long dd9)) (.second) ⟨xE1, xD1, xN1, xP1, xR1, xC1, xW1, xV1, xU1⟩ hl hp ?_
      rw [← elw]; unfold own_end; rw [if_neg (by omega), if_pos (by omega)]; exact edd9
  · skip
    have qhc51 := own_lt64' hc51
    refine ow_lload C A8 d9_55 rfl rfl ?_
    refine ow_lstoreN C A8 d9_57 (Ls' := #[.val (.ref a), .val (.long lw), .second, .val (.long dd6), .second, .val (.int (0 : Int32)), .val (.long (4294967296 : Int64)), .second, .val (.long dd6), .second]) rfl rfl ?_
    refine ow_goto C A8 d9_58 (by decide) (pc' := 67) (by decide) ?_
    refine can_67 hw C A8 a b kk ds pos ra co wi lw dd6 (0 : Int32) (.val (.long (4294967296 : Int64))) (.second) (.val (.long dd6)) (.second) ⟨xE1, xD1, xN1, xP1, xR1, xC1, xW1, xV1, xU1⟩ hl hp ?_
    rw [← elw]; unfold own_end; rw [if_pos (by omega)]; exact edd6
set_option maxRecDepth 65536 in
set_option maxHeartbeats 40000000 in
theorem rm_at0 (l : Launch) (Z : State) (a0 : Array Value) (hw : ∀ d ∈ tables_1, d.before a0 Z = true) (u v : Addr) (ku kv : ClassId) (us vs : List Int32) (h0 : Heap) (Vu : Arv Z h0 u ku .byte (Int32.ofNat us.length) (us.map Value.int) (.int (0 : Int32))) (Vv : Arv Z h0 v kv .byte (Int32.ofNat vs.length) (vs.map Value.int) (.int (0 : Int32))) (hlen : us.length = vs.length) (h8 : us.length ≤ 20) (cs : List Jvm.Cond) :
    OwnCtr l Z (⟨"com/example/phasorwire/phasorwire/RangeDecoderIsCanonicalPinLaw", "at", "([B[BI)Z"⟩ : MethodName) method_4_code 3 (some .boolean) rmz #[(.ref u), (.ref v), (.int (0 : Int32))] h0 [] (QAt us vs 0 h0) cs := by
  refine ow_ctr pn_11 hw (Ls := #[.val (.ref u), .val (.ref v), .val (.int (0 : Int32))]) (fun m => by first | (simp [entryFrame, mkF, argsToLocals, Value.category]; done) | rfl) ?_
  intro p e s m below meth c T0 C A0
  refine ow_iloadN C A0 d11_0 rfl rfl ?_
  refine ow_aloadN C A0 d11_1 rfl rfl rfl ?_
  refine ow_alen C A0 Vu d11_2 rfl ?_
  refine ow_icmp_ge C A0 d11_3 (by decide) (pcY := 15) (by decide) (pcN := 6) rfl (fun hc3 => ?_) (fun hc3 => ?_)
  · skip
    have hn3 : us.length ≤ 0 := by have q := own_nlt32' hc3; rw [own_ofn _ (by omega)] at q; have k0 : (0 : Int32).toInt = 0 := rfl; omega
    refine ow_iconst C A0 d11_15 (v := 1) rfl rfl ?_
    refine ow_goto C A0 d11_16 (by decide) (pc' := 20) (by decide) ?_
    refine ow_ireturn C A0 (t := .boolean) rfl rfl (by simp) d11_20 (by decide) (by decide) ?_
    exact ⟨rfl, Or.inl ⟨rfl, Or.inl hn3⟩⟩
  · skip
    have hn3 : 0 < us.length := by have q := own_lt32' hc3; rw [own_ofn _ (by omega)] at q; have k0 : (0 : Int32).toInt = 0 := rfl; omega
    have hc3v : (0 : Int32) < Int32.ofNat vs.length := by rw [← hlen]; exact hc3
    refine ow_aloadN C A0 d11_6 rfl rfl rfl ?_
    refine ow_iloadN C A0 d11_7 rfl rfl ?_
    refine ow_baload C A0 Vu ⟨by decide, hc3⟩ (v := (.int (us.getD 0 0))) (own_gd us 0) d11_8 rfl ?_
    refine ow_aloadN C A0 d11_9 rfl rfl rfl ?_
    refine ow_iloadN C A0 d11_10 rfl rfl ?_
    refine ow_baload C A0 Vv ⟨by decide, hc3v⟩ (v := (.int (vs.getD 0 0))) (own_gd vs 0) d11_11 rfl ?_
    refine ow_icmp_ne C A0 d11_12 (by decide) (pcY := 19) (by decide) (pcN := 15) rfl (fun hc12 => ?_) (fun hc12 => ?_)
    · skip
      refine ow_iconst C A0 d11_19 (v := 0) rfl rfl ?_
      refine ow_ireturn C A0 (t := .boolean) rfl rfl (by simp) d11_20 (by decide) (by decide) ?_
      exact ⟨rfl, Or.inr ⟨rfl, fun q => q.elim (fun z => absurd z (by omega)) (fun z => hc12 z)⟩⟩
    · skip
      refine ow_iconst C A0 d11_15 (v := 1) rfl rfl ?_
      refine ow_goto C A0 d11_16 (by decide) (pc' := 20) (by decide) ?_
      refine ow_ireturn C A0 (t := .boolean) rfl rfl (by simp) d11_20 (by decide) (by decide) ?_
      exact ⟨rfl, Or.inl ⟨rfl, Or.inr hc12⟩⟩
set_option maxRecDepth 65536 in
set_option maxHeartbeats 40000000 in
theorem rm_at1 (l : Launch) (Z : State) (a0 : Array Value) (hw : ∀ d ∈ tables_1, d.before a0 Z = true) (u v : Addr) (ku kv : ClassId) (us vs : List Int32) (h0 : Heap) (Vu : Arv Z h0 u ku .byte (Int32.ofNat us.length) (us.map Value.int) (.int (0 : Int32))) (Vv : Arv Z h0 v kv .byte (Int32.ofNat vs.length) (vs.map Value.int) (.int (0 : Int32))) (hlen : us.length = vs.length) (h8 : us.length ≤ 20) (cs : List Jvm.Cond) :
    OwnCtr l Z (⟨"com/example/phasorwire/phasorwire/RangeDecoderIsCanonicalPinLaw", "at", "([B[BI)Z"⟩ : MethodName) method_4_code 3 (some .boolean) rmz #[(.ref u), (.ref v), (.int (1 : Int32))] h0 [] (QAt us vs 1 h0) cs := by
  refine ow_ctr pn_11 hw (Ls := #[.val (.ref u), .val (.ref v), .val (.int (1 : Int32))]) (fun m => by first | (simp [entryFrame, mkF, argsToLocals, Value.category]; done) | rfl) ?_
  intro p e s m below meth c T0 C A0
  refine ow_iloadN C A0 d11_0 rfl rfl ?_
  refine ow_aloadN C A0 d11_1 rfl rfl rfl ?_
  refine ow_alen C A0 Vu d11_2 rfl ?_
  refine ow_icmp_ge C A0 d11_3 (by decide) (pcY := 15) (by decide) (pcN := 6) rfl (fun hc3 => ?_) (fun hc3 => ?_)
  · skip
    have hn3 : us.length ≤ 1 := by have q := own_nlt32' hc3; rw [own_ofn _ (by omega)] at q; have k0 : (1 : Int32).toInt = 1 := rfl; omega
    refine ow_iconst C A0 d11_15 (v := 1) rfl rfl ?_
    refine ow_goto C A0 d11_16 (by decide) (pc' := 20) (by decide) ?_
    refine ow_ireturn C A0 (t := .boolean) rfl rfl (by simp) d11_20 (by decide) (by decide) ?_
    exact ⟨rfl, Or.inl ⟨rfl, Or.inl hn3⟩⟩
  · skip
    have hn3 : 1 < us.length := by have q := own_lt32' hc3; rw [own_ofn _ (by omega)] at q; have k0 : (1 : Int32).toInt = 1 := rfl; omega
    have hc3v : (1 : Int32) < Int32.ofNat vs.length := by rw [← hlen]; exact hc3
    refine ow_aloadN C A0 d11_6 rfl rfl rfl ?_
    refine ow_iloadN C A0 d11_7 rfl rfl ?_
    refine ow_baload C A0 Vu ⟨by decide, hc3⟩ (v := (.int (us.getD 1 0))) (own_gd us 1) d11_8 rfl ?_
    refine ow_aloadN C A0 d11_9 rfl rfl rfl ?_
    refine ow_iloadN C A0 d11_10 rfl rfl ?_
    refine ow_baload C A0 Vv ⟨by decide, hc3v⟩ (v := (.int (vs.getD 1 0))) (own_gd vs 1) d11_11 rfl ?_
    refine ow_icmp_ne C A0 d11_12 (by decide) (pcY := 19) (by decide) (pcN := 15) rfl (fun hc12 => ?_) (fun hc12 => ?_)
    · skip
      refine ow_iconst C A0 d11_19 (v := 0) rfl rfl ?_
      refine ow_ireturn C A0 (t := .boolean) rfl rfl (by simp) d11_20 (by decide) (by decide) ?_
      exact ⟨rfl, Or.inr ⟨rfl, fun q => q.elim (fun z => absurd z (by omega)) (fun z => hc12 z)⟩⟩
    · skip
      refine ow_iconst C A0 d11_15 (v := 1) rfl rfl ?_
      refine ow_goto C A0 d11_16 (by decide) (pc' := 20) (by decide) ?_
      refine ow_ireturn C A0 (t := .boolean) rfl rfl (by simp) d11_20 (by decide) (by decide) ?_
      exact ⟨rfl, Or.inl ⟨rfl, Or.inr hc12⟩⟩
set_option maxRecDepth 65536 in
set_option maxHeartbeats 40000000 in
theorem rm_at2 (l : Launch) (Z : State) (a0 : Array Value) (hw : ∀ d ∈ tables_1, d.before a0 Z = true) (u v : Addr) (ku kv : ClassId) (us vs : List Int32) (h0 : Heap) (Vu : Arv Z h0 u ku .byte (Int32.ofNat us.length) (us.map Value.int) (.int (0 : Int32))) (Vv : Arv Z h0 v kv .byte (Int32.ofNat vs.length) (vs.map Value.int) (.int (0 : Int32))) (hlen : us.length = vs.length) (h8 : us.length ≤ 20) (cs : List Jvm.Cond) :
    OwnCtr l Z (⟨"com/example/phasorwire/phasorwire/RangeDecoderIsCanonicalPinLaw", "at", "([B[BI)Z"⟩ : MethodName) method_4_code 3 (some .boolean) rmz #[(.ref u), (.ref v), (.int (2 : Int32))] h0 [] (QAt us vs 2 h0) cs := by
  refine ow_ctr pn_11 hw (Ls := #[.val (.ref u), .val (.ref v), .val (.int (2 : Int32))]) (fun m => by first | (simp [entryFrame, mkF, argsToLocals, Value.category]; done) | rfl) ?_
  intro p e s m below meth c T0 C A0
  refine ow_iloadN C A0 d11_0 rfl rfl ?_
  refine ow_aloadN C A0 d11_1 rfl rfl rfl ?_
  refine ow_alen C A0 Vu d11_2 rfl ?_
  refine ow_icmp_ge C A0 d11_3 (by decide) (pcY := 15) (by decide) (pcN := 6) rfl (fun hc3 => ?_) (fun hc3 => ?_)
  · skip
    have hn3 : us.length ≤ 2 := by have q := own_nlt32' hc3; rw [own_ofn _ (by omega)] at q; have k0 : (2 : Int32).toInt = 2 := rfl; omega
    refine ow_iconst C A0 d11_15 (v := 1) rfl rfl ?_
    refine ow_goto C A0 d11_16 (by decide) (pc' := 20) (by decide) ?_
    refine ow_ireturn C A0 (t := .boolean) rfl rfl (by simp) d11_20 (by decide) (by decide) ?_
    exact ⟨rfl, Or.inl ⟨rfl, Or.inl hn3⟩⟩
  · skip
    have hn3 : 2 < us.length := by have q := own_lt32' hc3; rw [own_ofn _ (by omega)] at q; have k0 : (2 : Int32).toInt = 2 := rfl; omega
    have hc3v : (2 : Int32) < Int32.ofNat vs.length := by rw [← hlen]; exact hc3
    refine ow_aloadN C A0 d11_6 rfl rfl rfl ?_
    refine ow_iloadN C A0 d11_7 rfl rfl ?_
    refine ow_baload C A0 Vu ⟨by decide, hc3⟩ (v := (.int (us.getD 2 0))) (own_gd us 2) d11_8 rfl ?_
    refine ow_aloadN C A0 d11_9 rfl rfl rfl ?_
    refine ow_iloadN C A0 d11_10 rfl rfl ?_
    refine ow_baload C A0 Vv ⟨by decide, hc3v⟩ (v := (.int (vs.getD 2 0))) (own_gd vs 2) d11_11 rfl ?_
    refine ow_icmp_ne C A0 d11_12 (by decide) (pcY := 19) (by decide) (pcN := 15) rfl (fun hc12 => ?_) (fun hc12 => ?_)
    · skip
      refine ow_iconst C A0 d11_19 (v := 0) rfl rfl ?_
      refine ow_ireturn C A0 (t := .boolean) rfl rfl (by simp) d11_20 (by decide) (by decide) ?_
      exact ⟨rfl, Or.inr ⟨rfl, fun q => q.elim (fun z => absurd z (by omega)) (fun z => hc12 z)⟩⟩
    · skip
      refine ow_iconst C A0 d11_15 (v := 1) rfl rfl ?_
      refine ow_goto C A0 d11_16 (by decide) (pc' := 20) (by decide) ?_
      refine ow_ireturn C A0 (t := .boolean) rfl rfl (by simp) d11_20 (by decide) (by decide) ?_
      exact ⟨rfl, Or.inl ⟨rfl, Or.inr hc12⟩⟩
set_option maxRecDepth 65536 in
set_option maxHeartbeats 40000000 in
theorem rm_at3 (l : Launch) (Z : State) (a0 : Array Value) (hw : ∀ d ∈ tables_1, d.before a0 Z = true) (u v : Addr) (ku kv : ClassId) (us vs : List Int32) (h0 : Heap) (Vu : Arv Z h0 u ku .byte (Int32.ofNat us.length) (us.map Value.int) (.int (0 : Int32))) (Vv : Arv Z h0 v kv .byte (Int32.ofNat vs.length) (vs.map Value.int) (.int (0 : Int32))) (hlen : us.length = vs.length) (h8 : us.length ≤ 20) (cs : List Jvm.Cond) :
    OwnCtr l Z (⟨"com/example/phasorwire/phasorwire/RangeDecoderIsCanonicalPinLaw", "at", "([B[BI)Z"⟩ : MethodName) method_4_code 3 (some .boolean) rmz #[(.ref u), (.ref v), (.int (3 : Int32))] h0 [] (QAt us vs 3 h0) cs := by
  refine ow_ctr pn_11 hw (Ls := #[.val (.ref u), .val (.ref v), .val (.int (3 : Int32))]) (fun m => by first | (simp [entryFrame, mkF, argsToLocals, Value.category]; done) | rfl) ?_
  intro p e s m below meth c T0 C A0
  refine ow_iloadN C A0 d11_0 rfl rfl ?_
  refine ow_aloadN C A0 d11_1 rfl rfl rfl ?_
  refine ow_alen C A0 Vu d11_2 rfl ?_
  refine ow_icmp_ge C A0 d11_3 (by decide) (pcY := 15) (by decide) (pcN := 6) rfl (fun hc3 => ?_) (fun hc3 => ?_)
  · skip
    have hn3 : us.length ≤ 3 := by have q := own_nlt32' hc3; rw [own_ofn _ (by omega)] at q; have k0 : (3 : Int32).toInt = 3 := rfl; omega
    refine ow_iconst C A0 d11_15 (v := 1) rfl rfl ?_
    refine ow_goto C A0 d11_16 (by decide) (pc' := 20) (by decide) ?_
    refine ow_ireturn C A0 (t := .boolean) rfl rfl (by simp) d11_20 (by decide) (by decide) ?_
    exact ⟨rfl, Or.inl ⟨rfl, Or.inl hn3⟩⟩
  · skip
    have hn3 : 3 < us.length := by have q := own_lt32' hc3; rw [own_ofn _ (by omega)] at q; have k0 : (3 : Int32).toInt = 3 := rfl; omega
    have hc3v : (3 : Int32) < Int32.ofNat vs.length := by rw [← hlen]; exact hc3
    refine ow_aloadN C A0 d11_6 rfl rfl rfl ?_
    refine ow_iloadN C A0 d11_7 rfl rfl ?_
    refine ow_baload C A0 Vu ⟨by decide, hc3⟩ (v := (.int (us.getD 3 0))) (own_gd us 3) d11_8 rfl ?_
    refine ow_aloadN C A0 d11_9 rfl rfl rfl ?_
    refine ow_iloadN C A0 d11_10 rfl rfl ?_
    refine ow_baload C A0 Vv ⟨by decide, hc3v⟩ (v := (.int (vs.getD 3 0))) (own_gd vs 3) d11_11 rfl ?_
    refine ow_icmp_ne C A0 d11_12 (by decide) (pcY := 19) (by decide) (pcN := 15) rfl (fun hc12 => ?_) (fun hc12 => ?_)
    · skip
      refine ow_iconst C A0 d11_19 (v := 0) rfl rfl ?_
      refine ow_ireturn C A0 (t := .boolean) rfl rfl (by simp) d11_20 (by decide) (by decide) ?_
      exact ⟨rfl, Or.inr ⟨rfl, fun q => q.elim (fun z => absurd z (by omega)) (fun z => hc12 z)⟩⟩
    · skip
      refine ow_iconst C A0 d11_15 (v := 1) rfl rfl ?_
      refine ow_goto C A0 d11_16 (by decide) (pc' := 20) (by decide) ?_
      refine ow_ireturn C A0 (t := .boolean) rfl rfl (by simp) d11_20 (by decide) (by decide) ?_
      exact ⟨rfl, Or.inl ⟨rfl, Or.inr hc12⟩⟩
set_option maxRecDepth 65536 in
set_option maxHeartbeats 40000000 in
theorem rm_at4 (l : Launch) (Z : State) (a0 : Array Value) (hw : ∀ d ∈ tables_1, d.before a0 Z = true) (u v : Addr) (ku kv : ClassId) (us vs : List Int32) (h0 : Heap) (Vu : Arv Z h0 u ku .byte (Int32.ofNat us.length) (us.map Value.int) (.int (0 : Int32))) (Vv : Arv Z h0 v kv .byte (Int32.ofNat vs.length) (vs.map Value.int) (.int (0 : Int32))) (hlen : us.length = vs.length) (h8 : us.length ≤ 20) (cs : List Jvm.Cond) :
    OwnCtr l Z (⟨"com/example/phasorwire/phasorwire/RangeDecoderIsCanonicalPinLaw", "at", "([B[BI)Z"⟩ : MethodName) method_4_code 3 (some .boolean) rmz #[(.ref u), (.ref v), (.int (4 : Int32))] h0 [] (QAt us vs 4 h0) cs := by
  refine ow_ctr pn_11 hw (Ls := #[.val (.ref u), .val (.ref v), .val (.int (4 : Int32))]) (fun m => by first | (simp [entryFrame, mkF, argsToLocals, Value.category]; done) | rfl) ?_
  intro p e s m below meth c T0 C A0
  refine ow_iloadN C A0 d11_0 rfl rfl ?_
  refine ow_aloadN C A0 d11_1 rfl rfl rfl ?_
  refine ow_alen C A0 Vu d11_2 rfl ?_
  refine ow_icmp_ge C A0 d11_3 (by decide) (pcY := 15) (by decide) (pcN := 6) rfl (fun hc3 => ?_) (fun hc3 => ?_)
  · skip
    have hn3 : us.length ≤ 4 := by have q := own_nlt32' hc3; rw [own_ofn _ (by omega)] at q; have k0 : (4 : Int32).toInt = 4 := rfl; omega
    refine ow_iconst C A0 d11_15 (v := 1) rfl rfl ?_
    refine ow_goto C A0 d11_16 (by decide) (pc' := 20) (by decide) ?_
    refine ow_ireturn C A0 (t := .boolean) rfl rfl (by simp) d11_20 (by decide) (by decide) ?_
    exact ⟨rfl, Or.inl ⟨rfl, Or.inl hn3⟩⟩
  · skip
    have hn3 : 4 < us.length := by have q := own_lt32' hc3; rw [own_ofn _ (by omega)] at q; have k0 : (4 : Int32).toInt = 4 := rfl; omega
    have hc3v : (4 : Int32) < Int32.ofNat vs.length := by rw [← hlen]; exact hc3
    refine ow_aloadN C A0 d11_6 rfl rfl rfl ?_
    refine ow_iloadN C A0 d11_7 rfl rfl ?_
    refine ow_baload C A0 Vu ⟨by decide, hc3⟩ (v := (.int (us.getD 4 0))) (own_gd us 4) d11_8 rfl ?_
    refine ow_aloadN C A0 d11_9 rfl rfl rfl ?_
    refine ow_iloadN C A0 d11_10 rfl rfl ?_
    refine ow_baload C A0 Vv ⟨by decide, hc3v⟩ (v := (.int (vs.getD 4 0))) (own_gd vs 4) d11_11 rfl ?_
    refine ow_icmp_ne C A0 d11_12 (by decide) (pcY := 19) (by decide) (pcN := 15) rfl (fun hc12 => ?_) (fun hc12 => ?_)
    · skip
      refine ow_iconst C A0 d11_19 (v := 0) rfl rfl ?_
      refine ow_ireturn C A0 (t := .boolean) rfl rfl (by simp) d11_20 (by decide) (by decide) ?_
      exact ⟨rfl, Or.inr ⟨rfl, fun q => q.elim (fun z => absurd z (by omega)) (fun z => hc12 z)⟩⟩
    · skip
      refine ow_iconst C A0 d11_15 (v := 1) rfl rfl ?_
      refine ow_goto C A0 d11_16 (by decide) (pc' := 20) (by decide) ?_
      refine ow_ireturn C A0 (t := .boolean) rfl rfl (by simp) d11_20 (by decide) (by decide) ?_
      exact ⟨rfl, Or.inl ⟨rfl, Or.inr hc12⟩⟩
set_option maxRecDepth 65536 in
set_option maxHeartbeats 40000000 in
theorem rm_at5 (l : Launch) (Z : State) (a0 : Array Value) (hw : ∀ d ∈ tables_1, d.before a0 Z = true) (u v : Addr) (ku kv : ClassId) (us vs : List Int32) (h0 : Heap) (Vu : Arv Z h0 u ku .byte (Int32.ofNat us.length) (us.map Value.int) (.int (0 : Int32))) (Vv : Arv Z h0 v kv .byte (Int32.ofNat vs.length) (vs.map Value.int) (.int (0 : Int32))) (hlen : us.length = vs.length) (h8 : us.length ≤ 20) (cs : List Jvm.Cond) :
    OwnCtr l Z (⟨"com/example/phasorwire/phasorwire/RangeDecoderIsCanonicalPinLaw", "at", "([B[BI)Z"⟩ : MethodName) method_4_code 3 (some .boolean) rmz #[(.ref u), (.ref v), (.int (5 : Int32))] h0 [] (QAt us vs 5 h0) cs := by
  refine ow_ctr pn_11 hw (Ls := #[.val (.ref u), .val (.ref v), .val (.int (5 : Int32))]) (fun m => by first | (simp [entryFrame, mkF, argsToLocals, Value.category]; done) | rfl) ?_
  intro p e s m below meth c T0 C A0
  refine ow_iloadN C A0 d11_0 rfl rfl ?_
  refine ow_aloadN C A0 d11_1 rfl rfl rfl ?_
  refine ow_alen C A0 Vu d11_2 rfl ?_
  refine ow_icmp_ge C A0 d11_3 (by decide) (pcY := 15) (by decide) (pcN := 6) rfl (fun hc3 => ?_) (fun hc3 => ?_)
  · skip
    have hn3 : us.length ≤ 5 := by have q := own_nlt32' hc3; rw [own_ofn _ (by omega)] at q; have k0 : (5 : Int32).toInt = 5 := rfl; omega
    refine ow_iconst C A0 d11_15 (v := 1) rfl rfl ?_
    refine ow_goto C A0 d11_16 (by decide) (pc' := 20) (by decide) ?_
    refine ow_ireturn C A0 (t := .boolean) rfl rfl (by simp) d11_20 (by decide) (by decide) ?_
    exact ⟨rfl, Or.inl ⟨rfl, Or.inl hn3⟩⟩
  · skip
    have hn3 : 5 < us.length := by have q := own_lt32' hc3; rw [own_ofn _ (by omega)] at q; have k0 : (5 : Int32).toInt = 5 := rfl; omega
    have hc3v : (5 : Int32) < Int32.ofNat vs.length := by rw [← hlen]; exact hc3
    refine ow_aloadN C A0 d11_6 rfl rfl rfl ?_
    refine ow_iloadN C A0 d11_7 rfl rfl ?_
    refine ow_baload C A0 Vu ⟨by decide, hc3⟩ (v := (.int (us.getD 5 0))) (own_gd us 5) d11_8 rfl ?_
    refine ow_aloadN C A0 d11_9 rfl rfl rfl ?_
    refine ow_iloadN C A0 d11_10 rfl rfl ?_
    refine ow_baload C A0 Vv ⟨by decide, hc3v⟩ (v := (.int (vs.getD 5 0))) (own_gd vs 5) d11_11 rfl ?_
    refine ow_icmp_ne C A0 d11_12 (by decide) (pcY := 19) (by decide) (pcN := 15) rfl (fun hc12 => ?_) (fun hc12 => ?_)
    · skip
      refine ow_iconst C A0 d11_19 (v := 0) rfl rfl ?_
      refine ow_ireturn C A0 (t := .boolean) rfl rfl (by simp) d11_20 (by decide) (by decide) ?_
      exact ⟨rfl, Or.inr ⟨rfl, fun q => q.elim (fun z => absurd z (by omega)) (fun z => hc12 z)⟩⟩
    · skip
      refine ow_iconst C A0 d11_15 (v := 1) rfl rfl ?_
      refine ow_goto C A0 d11_16 (by decide) (pc' := 20) (by decide) ?_
      refine ow_ireturn C A0 (t := .boolean) rfl rfl (by simp) d11_20 (by decide) (by decide) ?_
      exact ⟨rfl, Or.inl ⟨rfl, Or.inr hc12⟩⟩
set_option maxRecDepth 65536 in
set_option maxHeartbeats 40000000 in
theorem rm_at6 (l : Launch) (Z : State) (a0 : Array Value) (hw : ∀ d ∈ tables_1, d.before a0 Z = true) (u v : Addr) (ku kv : ClassId) (us vs : List Int32) (h0 : Heap) (Vu : Arv Z h0 u ku .byte (Int32.ofNat us.length) (us.map Value.int) (.int (0 : Int32))) (Vv : Arv Z h0 v kv .byte (Int32.ofNat vs.length) (vs.map Value.int) (.int (0 : Int32))) (hlen : us.length = vs.length) (h8 : us.length ≤ 20) (cs : List Jvm.Cond) :
    OwnCtr l Z (⟨"com/example/phasorwire/phasorwire/RangeDecoderIsCanonicalPinLaw", "at", "([B[BI)Z"⟩ : MethodName) method_4_code 3 (some .boolean) rmz #[(.ref u), (.ref v), (.int (6 : Int32))] h0 [] (QAt us vs 6 h0) cs := by
  refine ow_ctr pn_11 hw (Ls := #[.val (.ref u), .val (.ref v), .val (.int (6 : Int32))]) (fun m => by first | (simp [entryFrame, mkF, argsToLocals, Value.category]; done) | rfl) ?_
  intro p e s m below meth c T0 C A0
  refine ow_iloadN C A0 d11_0 rfl rfl ?_
  refine ow_aloadN C A0 d11_1 rfl rfl rfl ?_
  refine ow_alen C A0 Vu d11_2 rfl ?_
  refine ow_icmp_ge C A0 d11_3 (by decide) (pcY := 15) (by decide) (pcN := 6) rfl (fun hc3 => ?_) (fun hc3 => ?_)
  · skip
    have hn3 : us.length ≤ 6 := by have q := own_nlt32' hc3; rw [own_ofn _ (by omega)] at q; have k0 : (6 : Int32).toInt = 6 := rfl; omega
    refine ow_iconst C A0 d11_15 (v := 1) rfl rfl ?_
    refine ow_goto C A0 d11_16 (by decide) (pc' := 20) (by decide) ?_
    refine ow_ireturn C A0 (t := .boolean) rfl rfl (by simp) d11_20 (by decide) (by decide) ?_
    exact ⟨rfl, Or.inl ⟨rfl, Or.inl hn3⟩⟩
  · skip
    have hn3 : 6 < us.length := by have q := own_lt32' hc3; rw [own_ofn _ (by omega)] at q; have k0 : (6 : Int32).toInt = 6 := rfl; omega
    have hc3v : (6 : Int32) < Int32.ofNat vs.length := by rw [← hlen]; exact hc3
    refine ow_aloadN C A0 d11_6 rfl rfl rfl ?_
    refine ow_iloadN C A0 d11_7 rfl rfl ?_
    refine ow_baload C A0 Vu ⟨by decide, hc3⟩ (v := (.int (us.getD 6 0))) (own_gd us 6) d11_8 rfl ?_
    refine ow_aloadN C A0 d11_9 rfl rfl rfl ?_
    refine ow_iloadN C A0 d11_10 rfl rfl ?_
    refine ow_baload C A0 Vv ⟨by decide, hc3v⟩ (v := (.int (vs.getD 6 0))) (own_gd vs 6) d11_11 rfl ?_
    refine ow_icmp_ne C A0 d11_12 (by decide) (pcY := 19) (by decide) (pcN := 15) rfl (fun hc12 => ?_) (fun hc12 => ?_)
    · skip
      refine ow_iconst C A0 d11_19 (v := 0) rfl rfl ?_
      refine ow_ireturn C A0 (t := .boolean) rfl rfl (by simp) d11_20 (by decide) (by decide) ?_
      exact ⟨rfl, Or.inr ⟨rfl, fun q => q.elim (fun z => absurd z (by omega)) (fun z => hc12 z)⟩⟩
    · skip
      refine ow_iconst C A0 d11_15 (v := 1) rfl rfl ?_
      refine ow_goto C A0 d11_16 (by decide) (pc' := 20) (by decide) ?_
      refine ow_ireturn C A0 (t := .boolean) rfl rfl (by simp) d11_20 (by decide) (by decide) ?_
      exact ⟨rfl, Or.inl ⟨rfl, Or.inr hc12⟩⟩
set_option maxRecDepth 65536 in
set_option maxHeartbeats 40000000 in
theorem rm_at7 (l : Launch) (Z : State) (a0 : Array Value) (hw : ∀ d ∈ tables_1, d.before a0 Z = true) (u v : Addr) (ku kv : ClassId) (us vs : List Int32) (h0 : Heap) (Vu : Arv Z h0 u ku .byte (Int32.ofNat us.length) (us.map Value.int) (.int (0 : Int32))) (Vv : Arv Z h0 v kv .byte (Int32.ofNat vs.length) (vs.map Value.int) (.int (0 : Int32))) (hlen : us.length = vs.length) (h8 : us.length ≤ 20) (cs : List Jvm.Cond) :
    OwnCtr l Z (⟨"com/example/phasorwire/phasorwire/RangeDecoderIsCanonicalPinLaw", "at", "([B[BI)Z"⟩ : MethodName) method_4_code 3 (some .boolean) rmz #[(.ref u), (.ref v), (.int (7 : Int32))] h0 [] (QAt us vs 7 h0) cs := by
  refine ow_ctr pn_11 hw (Ls := #[.val (.ref u), .val (.ref v), .val (.int (7 : Int32))]) (fun m => by first | (simp [entryFrame, mkF, argsToLocals, Value.category]; done) | rfl) ?_
  intro p e s m below meth c T0 C A0
  refine ow_iloadN C A0 d11_0 rfl rfl ?_
  refine ow_aloadN C A0 d11_1 rfl rfl rfl ?_
  refine ow_alen C A0 Vu d11_2 rfl ?_
  refine ow_icmp_ge C A0 d11_3 (by decide) (pcY := 15) (by decide) (pcN := 6) rfl (fun hc3 => ?_) (fun hc3 => ?_)
  · skip
    have hn3 : us.length ≤ 7 := by have q := own_nlt32' hc3; rw [own_ofn _ (by omega)] at q; have k0 : (7 : Int32).toInt = 7 := rfl; omega
    refine ow_iconst C A0 d11_15 (v := 1) rfl rfl ?_
    refine ow_goto C A0 d11_16 (by decide) (pc' := 20) (by decide) ?_
    refine ow_ireturn C A0 (t := .boolean) rfl rfl (by simp) d11_20 (by decide) (by decide) ?_
    exact ⟨rfl, Or.inl ⟨rfl, Or.inl hn3⟩⟩
  · skip
    have hn3 : 7 < us.length := by have q := own_lt32' hc3; rw [own_ofn _ (by omega)] at q; have k0 : (7 : Int32).toInt = 7 := rfl; omega
    have hc3v : (7 : Int32) < Int32.ofNat vs.length := by rw [← hlen]; exact hc3
    refine ow_aloadN C A0 d11_6 rfl rfl rfl ?_
    refine ow_iloadN C A0 d11_7 rfl rfl ?_
    refine ow_baload C A0 Vu ⟨by decide, hc3⟩ (v := (.int (us.getD 7 0))) (own_gd us 7) d11_8 rfl ?_
    refine ow_aloadN C A0 d11_9 rfl rfl rfl ?_
    refine ow_iloadN C A0 d11_10 rfl rfl ?_
    refine ow_baload C A0 Vv ⟨by decide, hc3v⟩ (v := (.int (vs.getD 7 0))) (own_gd vs 7) d11_11 rfl ?_
    refine ow_icmp_ne C A0 d11_12 (by decide) (pcY := 19) (by decide) (pcN := 15) rfl (fun hc12 => ?_) (fun hc12 => ?_)
    · skip
      refine ow_iconst C A0 d11_19 (v := 0) rfl rfl ?_
      refine ow_ireturn C A0 (t := .boolean) rfl rfl (by simp) d11_20 (by decide) (by decide) ?_
      exact ⟨rfl, Or.inr ⟨rfl, fun q => q.elim (fun z => absurd z (by omega)) (fun z => hc12 z)⟩⟩
    · skip
      refine ow_iconst C A0 d11_15 (v := 1) rfl rfl ?_
      refine ow_goto C A0 d11_16 (by decide) (pc' := 20) (by decide) ?_
      refine ow_ireturn C A0 (t := .boolean) rfl rfl (by simp) d11_20 (by decide) (by decide) ?_
      exact ⟨rfl, Or.inl ⟨rfl, Or.inr hc12⟩⟩
set_option maxRecDepth 65536 in
set_option maxHeartbeats 40000000 in
theorem rm_eq (l : Launch) (Z : State) (a0 : Array Value) (hw : ∀ d ∈ tables_1, d.before a0 Z = true) (u v : Addr) (ku kv : ClassId) (us vs : List Int32) (h0 : Heap) (Vu : Arv Z h0 u ku .byte (Int32.ofNat us.length) (us.map Value.int) (.int (0 : Int32))) (Vv : Arv Z h0 v kv .byte (Int32.ofNat vs.length) (vs.map Value.int) (.int (0 : Int32))) (h8 : us.length ≤ 8) (h8v : vs.length ≤ 20) (cs : List Jvm.Cond) :
    OwnCtr l Z (⟨"com/example/phasorwire/phasorwire/RangeDecoderIsCanonicalPinLaw", "equal", "([B[B)Z"⟩ : MethodName) method_3_code 2 (some .boolean) rmeq #[(.ref u), (.ref v)] h0 [] (QEq us vs h0) cs := by
  refine ow_ctr pn_10 hw (Ls := #[.val (.ref u), .val (.ref v)]) (fun m => by first | (simp [entryFrame, mkF, argsToLocals, Value.category]; done) | rfl) ?_
  intro p e s m below meth c T0 C A0
  refine ow_aloadN C A0 d10_0 rfl rfl rfl ?_
  refine ow_alen C A0 Vu d10_1 rfl ?_
  refine ow_aloadN C A0 d10_2 rfl rfl rfl ?_
  refine ow_alen C A0 Vv d10_3 rfl ?_
  refine ow_icmp_eq C A0 d10_4 (by decide) (pcY := 9) (by decide) (pcN := 7) rfl (fun hc4 => ?_) (fun hc4 => ?_)
  · skip
    have hlen : us.length = vs.length := (own_eqN _ _ (by omega) (by omega)).mp hc4
    refine ow_aloadN C A0 d10_9 rfl rfl rfl ?_
    refine ow_aloadN C A0 d10_10 rfl rfl rfl ?_
    refine ow_iconst C A0 d10_11 (v := 0) rfl rfl ?_
    refine ow_callS C A0 (argsL := [(.ref u), (.ref v), (.int (0 : Int32))]) (rm_at0 l Z a0 hw u v ku kv us vs h0 Vu Vv hlen (by omega) []) tw_82 tw_83 tw_80 tw_84 (by decide) all0 (by decide) (by decide) (ck' := 0) (sk' := 0) rfl rfl (by decide) (by decide) rfl (lenOf pd_4 rfl) (S := []) rfl (W := 0) (Nat.le_of_eq rfl) d10_12 rfl ?_
    intro T1 v1 K1 hQ1 A1
    obtain ⟨ee1, hv1⟩ := hQ1
    rw [ee1] at A1 K1
    rcases hv1 with ⟨rfl, q1⟩ | ⟨rfl, q1⟩
    · skip
      show OwnWP _ _ _ _ _ _ _ _ _ T1 (mkF m 15 #[.val (.ref u), .val (.ref v)] [(.int (1 : Int32))])
      refine ow_if_eq C A1 d10_15 (by decide) (pcY := 87) (by decide) (pcN := 18) rfl (fun zq => absurd zq (by decide)) (fun _ => ?_)
      refine ow_aloadN C A1 d10_18 rfl rfl rfl ?_
      refine ow_aloadN C A1 d10_19 rfl rfl rfl ?_
      refine ow_iconst C A1 d10_20 (v := 1) rfl rfl ?_
      refine ow_callS C A1 (argsL := [(.ref u), (.ref v), (.int (1 : Int32))]) (rm_at1 l Z a0 hw u v ku kv us vs h0 Vu Vv hlen (by omega) []) tw_82 tw_83 tw_80 tw_84 (by decide) all0 (by decide) (by decide) (ck' := 0) (sk' := 0) rfl rfl (by decide) (by decide) rfl (lenOf pd_4 rfl) (S := []) rfl (W := 0) (Nat.le_of_eq rfl) d10_21 rfl ?_
      intro T2 v2 K2 hQ2 A2
      obtain ⟨ee2, hv2⟩ := hQ2
      rw [ee2] at A2 K2
      rcases hv2 with ⟨rfl, q2⟩ | ⟨rfl, q2⟩
      · skip
        show OwnWP _ _ _ _ _ _ _ _ _ T2 (mkF m 24 #[.val (.ref u), .val (.ref v)] [(.int (1 : Int32))])
        refine ow_if_eq C A2 d10_24 (by decide) (pcY := 87) (by decide) (pcN := 27) rfl (fun zq => absurd zq (by decide)) (fun _ => ?_)
        refine ow_aloadN C A2 d10_27 rfl rfl rfl ?_
        refine ow_aloadN C A2 d10_28 rfl rfl rfl ?_
        refine ow_iconst C A2 d10_29 (v := 2) rfl rfl ?_
        refine ow_callS C A2 (argsL := [(.ref u), (.ref v), (.int (2 : Int32))]) (rm_at2 l Z a0 hw u v ku kv us vs h0 Vu Vv hlen (by omega) []) tw_82 tw_83 tw_80 tw_84 (by decide) all0 (by decide) (by decide) (ck' := 0) (sk' := 0) rfl rfl (by decide) (by decide) rfl (lenOf pd_4 rfl) (S := []) rfl (W := 0) (Nat.le_of_eq rfl) d10_30 rfl ?_
        intro T3 v3 K3 hQ3 A3
        obtain ⟨ee3, hv3⟩ := hQ3
        rw [ee3] at A3 K3
        rcases hv3 with ⟨rfl, q3⟩ | ⟨rfl, q3⟩
        · skip
          show OwnWP _ _ _ _ _ _ _ _ _ T3 (mkF m 33 #[.val (.ref u), .val (.ref v)] [(.int (1 : Int32))])
          refine ow_if_eq C A3 d10_33 (by decide) (pcY := 87) (by decide) (pcN := 36) rfl (fun zq => absurd zq (by decide)) (fun _ => ?_)
          refine ow_aloadN C A3 d10_36 rfl rfl rfl ?_
          refine ow_aloadN C A3 d10_37 rfl rfl rfl ?_
          refine ow_iconst C A3 d10_38 (v := 3) rfl rfl ?_
          refine ow_callS C A3 (argsL := [(.ref u), (.ref v), (.int (3 : Int32))]) (rm_at3 l Z a0 hw u v ku kv us vs h0 Vu Vv hlen (by omega) []) tw_82 tw_83 tw_80 tw_84 (by decide) all0 (by decide) (by decide) (ck' := 0) (sk' := 0) rfl rfl (by decide) (by decide) rfl (lenOf pd_4 rfl) (S := []) rfl (W := 0) (Nat.le_of_eq rfl) d10_39 rfl ?_
          intro T4 v4 K4 hQ4 A4
          obtain ⟨ee4, hv4⟩ := hQ4
          rw [ee4] at A4 K4
          rcases hv4 with ⟨rfl, q4⟩ | ⟨rfl, q4⟩
          · skip
            show OwnWP _ _ _ _ _ _ _ _ _ T4 (mkF m 42 #[.val (.ref u), .val (.ref v)] [(.int (1 : Int32))])
            refine ow_if_eq C A4 d10_42 (by decide) (pcY := 87) (by decide) (pcN := 45) rfl (fun zq => absurd zq (by decide)) (fun _ => ?_)
            refine ow_aloadN C A4 d10_45 rfl rfl rfl ?_
            refine ow_aloadN C A4 d10_46 rfl rfl rfl ?_
            refine ow_iconst C A4 d10_47 (v := 4) rfl rfl ?_
            refine ow_callS C A4 (argsL := [(.ref u), (.ref v), (.int (4 : Int32))]) (rm_at4 l Z a0 hw u v ku kv us vs h0 Vu Vv hlen (by omega) []) tw_82 tw_83 tw_80 tw_84 (by decide) all0 (by decide) (by decide) (ck' := 0) (sk' := 0) rfl rfl (by decide) (by decide) rfl (lenOf pd_4 rfl) (S := []) rfl (W := 0) (Nat.le_of_eq rfl) d10_48 rfl ?_
            intro T5 v5 K5 hQ5 A5
            obtain ⟨ee5, hv5⟩ := hQ5
            rw [ee5] at A5 K5
            rcases hv5 with ⟨rfl, q5⟩ | ⟨rfl, q5⟩
            · skip
              show OwnWP _ _ _ _ _ _ _ _ _ T5 (mkF m 51 #[.val (.ref u), .val (.ref v)] [(.int (1 : Int32))])
              refine ow_if_eq C A5 d10_51 (by decide) (pcY := 87) (by decide) (pcN := 54) rfl (fun zq => absurd zq (by decide)) (fun _ => ?_)
              refine ow_aloadN C A5 d10_54 rfl rfl rfl ?_
              refine ow_aloadN C A5 d10_55 rfl rfl rfl ?_
              refine ow_iconst C A5 d10_56 (v := 5) rfl rfl ?_
              refine ow_callS C A5 (argsL := [(.ref u), (.ref v), (.int (5 : Int32))]) (rm_at5 l Z a0 hw u v ku kv us vs h0 Vu Vv hlen (by omega) []) tw_82 tw_83 tw_80 tw_84 (by decide) all0 (by decide) (by decide) (ck' := 0) (sk' := 0) rfl rfl (by decide) (by decide) rfl (lenOf pd_4 rfl) (S := []) rfl (W := 0) (Nat.le_of_eq rfl) d10_57 rfl ?_
              intro T6 v6 K6 hQ6 A6
              obtain ⟨ee6, hv6⟩ := hQ6
              rw [ee6] at A6 K6
              rcases hv6 with ⟨rfl, q6⟩ | ⟨rfl, q6⟩
              · skip
                show OwnWP _ _ _ _ _ _ _ _ _ T6 (mkF m 60 #[.val (.ref u), .val (.ref v)] [(.int (1 : Int32))])
                refine ow_if_eq C A6 d10_60 (by decide) (pcY := 87) (by decide) (pcN := 63) rfl (fun zq => absurd zq (by decide)) (fun _ => ?_)
                refine ow_aloadN C A6 d10_63 rfl rfl rfl ?_
                refine ow_aloadN C A6 d10_64 rfl rfl rfl ?_
                refine ow_bipush C A6 d10_65 (v := 6) rfl rfl ?_
                refine ow_callS C A6 (argsL := [(.ref u), (.ref v), (.int (6 : Int32))]) (rm_at6 l Z a0 hw u v ku kv us vs h0 Vu Vv hlen (by omega) []) tw_82 tw_83 tw_80 tw_84 (by decide) all0 (by decide) (by decide) (ck' := 0) (sk' := 0) rfl rfl (by decide) (by decide) rfl (lenOf pd_4 rfl) (S := []) rfl (W := 0) (Nat.le_of_eq rfl) d10_67 rfl ?_
                intro T7 v7 K7 hQ7 A7
                obtain ⟨ee7, hv7⟩ := hQ7
                rw [ee7] at A7 K7
                rcases hv7 with ⟨rfl, q7⟩ | ⟨rfl, q7⟩
                · skip
                  show OwnWP _ _ _ _ _ _ _ _ _ T7 (mkF m 70 #[.val (.ref u), .val (.ref v)] [(.int (1 : Int32))])
                  refine ow_if_eq C A7 d10_70 (by decide) (pcY := 87) (by decide) (pcN := 73) rfl (fun zq => absurd zq (by decide)) (fun _ => ?_)
                  refine ow_aloadN C A7 d10_73 rfl rfl rfl ?_
                  refine ow_aloadN C A7 d10_74 rfl rfl rfl ?_
                  refine ow_bipush C A7 d10_75 (v := 7) rfl rfl ?_
                  refine ow_callS C A7 (argsL := [(.ref u), (.ref v), (.int (7 : Int32))]) (rm_at7 l Z a0 hw u v ku kv us vs h0 Vu Vv hlen (by omega) []) tw_82 tw_83 tw_80 tw_84 (by decide) all0 (by decide) (by decide) (ck' := 0) (sk' := 0) rfl rfl (by decide) (by decide) rfl (lenOf pd_4 rfl) (S := []) rfl (W := 0) (Nat.le_of_eq rfl) d10_77 rfl ?_
                  intro T8 v8 K8 hQ8 A8
                  obtain ⟨ee8, hv8⟩ := hQ8
                  rw [ee8] at A8 K8
                  rcases hv8 with ⟨rfl, q8⟩ | ⟨rfl, q8⟩
                  · skip
                    show OwnWP _ _ _ _ _ _ _ _ _ T8 (mkF m 80 #[.val (.ref u), .val (.ref v)] [(.int (1 : Int32))])
                    refine ow_if_eq C A8 d10_80 (by decide) (pcY := 87) (by decide) (pcN := 83) rfl (fun zq => absurd zq (by decide)) (fun _ => ?_)
                    refine ow_iconst C A8 d10_83 (v := 1) rfl rfl ?_
                    refine ow_goto C A8 d10_84 (by decide) (pc' := 88) (by decide) ?_
                    refine ow_ireturn C A8 (t := .boolean) rfl rfl (by simp) d10_88 (by decide) (by decide) ?_
                    refine ⟨rfl, Or.inl ⟨rfl, own_eqlist us vs hlen h8 ?_⟩⟩
                    intro i hi
                    have hi' : i = 0 ∨ i = 1 ∨ i = 2 ∨ i = 3 ∨ i = 4 ∨ i = 5 ∨ i = 6 ∨ i = 7 := by omega
                    rcases hi' with rfl | rfl | rfl | rfl | rfl | rfl | rfl | rfl
                    · exact q1
                    · exact q2
                    · exact q3
                    · exact q4
                    · exact q5
                    · exact q6
                    · exact q7
                    · exact q8
                  · skip
                    show OwnWP _ _ _ _ _ _ _ _ _ T8 (mkF m 80 #[.val (.ref u), .val (.ref v)] [(.int (0 : Int32))])
                    refine ow_if_eq C A8 d10_80 (by decide) (pcY := 87) (by decide) (pcN := 83) rfl (fun _ => ?_) (fun zq => absurd (by decide) zq)
                    refine ow_iconst C A8 d10_87 (v := 0) rfl rfl ?_
                    refine ow_ireturn C A8 (t := .boolean) rfl rfl (by simp) d10_88 (by decide) (by decide) ?_
                    exact ⟨rfl, Or.inr ⟨rfl, fun z => q8 (Or.inr (by rw [z]))⟩⟩
                · skip
                  show OwnWP _ _ _ _ _ _ _ _ _ T7 (mkF m 70 #[.val (.ref u), .val (.ref v)] [(.int (0 : Int32))])
                  refine ow_if_eq C A7 d10_70 (by decide) (pcY := 87) (by decide) (pcN := 73) rfl (fun _ => ?_) (fun zq => absurd (by decide) zq)
                  refine ow_iconst C A7 d10_87 (v := 0) rfl rfl ?_
                  refine ow_ireturn C A7 (t := .boolean) rfl rfl (by simp) d10_88 (by decide) (by decide) ?_
                  exact ⟨rfl, Or.inr ⟨rfl, fun z => q7 (Or.inr (by rw [z]))⟩⟩
              · skip
                show OwnWP _ _ _ _ _ _ _ _ _ T6 (mkF m 60 #[.val (.ref u), .val (.ref v)] [(.int (0 : Int32))])
                refine ow_if_eq C A6 d10_60 (by decide) (pcY := 87) (by decide) (pcN := 63) rfl (fun _ => ?_) (fun zq => absurd (by decide) zq)
                refine ow_iconst C A6 d10_87 (v := 0) rfl rfl ?_
                refine ow_ireturn C A6 (t := .boolean) rfl rfl (by simp) d10_88 (by decide) (by decide) ?_
                exact ⟨rfl, Or.inr ⟨rfl, fun z => q6 (Or.inr (by rw [z]))⟩⟩
            · skip
              show OwnWP _ _ _ _ _ _ _ _ _ T5 (mkF m 51 #[.val (.ref u), .val (.ref v)] [(.int (0 : Int32))])
              refine ow_if_eq C A5 d10_51 (by decide) (pcY := 87) (by decide) (pcN := 54) rfl (fun _ => ?_) (fun zq => absurd (by decide) zq)
              refine ow_iconst C A5 d10_87 (v := 0) rfl rfl ?_
              refine ow_ireturn C A5 (t := .boolean) rfl rfl (by simp) d10_88 (by decide) (by decide) ?_
              exact ⟨rfl, Or.inr ⟨rfl, fun z => q5 (Or.inr (by rw [z]))⟩⟩
          · skip
            show OwnWP _ _ _ _ _ _ _ _ _ T4 (mkF m 42 #[.val (.ref u), .val (.ref v)] [(.int (0 : Int32))])
            refine ow_if_eq C A4 d10_42 (by decide) (pcY := 87) (by decide) (pcN := 45) rfl (fun _ => ?_) (fun zq => absurd (by decide) zq)
            refine ow_iconst C A4 d10_87 (v := 0) rfl rfl ?_
            refine ow_ireturn C A4 (t := .boolean) rfl rfl (by simp) d10_88 (by decide) (by decide) ?_
            exact ⟨rfl, Or.inr ⟨rfl, fun z => q4 (Or.inr (by rw [z]))⟩⟩
        · skip
          show OwnWP _ _ _ _ _ _ _ _ _ T3 (mkF m 33 #[.val (.ref u), .val (.ref v)] [(.int (0 : Int32))])
          refine ow_if_eq C A3 d10_33 (by decide) (pcY := 87) (by decide) (pcN := 36) rfl (fun _ => ?_) (fun zq => absurd (by decide) zq)
          refine ow_iconst C A3 d10_87 (v := 0) rfl rfl ?_
          refine ow_ireturn C A3 (t := .boolean) rfl rfl (by simp) d10_88 (by decide) (by decide) ?_
          exact ⟨rfl, Or.inr ⟨rfl, fun z => q3 (Or.inr (by rw [z]))⟩⟩
      · skip
        show OwnWP _ _ _ _ _ _ _ _ _ T2 (mkF m 24 #[.val (.ref u), .val (.ref v)] [(.int (0 : Int32))])
        refine ow_if_eq C A2 d10_24 (by decide) (pcY := 87) (by decide) (pcN := 27) rfl (fun _ => ?_) (fun zq => absurd (by decide) zq)
        refine ow_iconst C A2 d10_87 (v := 0) rfl rfl ?_
        refine ow_ireturn C A2 (t := .boolean) rfl rfl (by simp) d10_88 (by decide) (by decide) ?_
        exact ⟨rfl, Or.inr ⟨rfl, fun z => q2 (Or.inr (by rw [z]))⟩⟩
    · skip
      show OwnWP _ _ _ _ _ _ _ _ _ T1 (mkF m 15 #[.val (.ref u), .val (.ref v)] [(.int (0 : Int32))])
      refine ow_if_eq C A1 d10_15 (by decide) (pcY := 87) (by decide) (pcN := 18) rfl (fun _ => ?_) (fun zq => absurd (by decide) zq)
      refine ow_iconst C A1 d10_87 (v := 0) rfl rfl ?_
      refine ow_ireturn C A1 (t := .boolean) rfl rfl (by simp) d10_88 (by decide) (by decide) ?_
      exact ⟨rfl, Or.inr ⟨rfl, fun z => q1 (Or.inr (by rw [z]))⟩⟩
  · skip
    have hlen : ¬ (us.length = vs.length) := fun q => hc4 (congrArg Int32.ofNat q)
    refine ow_iconst C A0 d10_7 (v := 0) rfl rfl ?_
    refine ow_ireturn C A0 (t := .boolean) rfl rfl (by simp) d10_8 (by decide) (by decide) ?_
    exact ⟨rfl, Or.inr ⟨rfl, fun q => hlen (by rw [q])⟩⟩
set_option maxRecDepth 65536 in
set_option maxHeartbeats 40000000 in
theorem law_352 {p : Program} {l : Launch} {e : Env} {s : State} {m : MethodId} {args : Array Value} {below : List Frame} {meth : Method} {c : Code} {Z : State} {a0 : Array Value} {h0 h : Heap} {T : State} (hw : ∀ d ∈ tables_1, d.before a0 Z = true) (C : OwnCtx p s m meth c Z a0 tables_1 x code maxLocals ret) (A : OwnPos p l e room_1 s m args below meth c h0 [] T h 6 116) (va vb vc : Int32) (vx : Int64) (p1 p2 b1 b2 k fe nn : Int32) (arr en eA dA de db : Addr) (ke kd kdb : ClassId) (dd ys : List Int32) (pos : Nat) (ra co wi : Int64) (sm : Int32) (s18 : Slot) (O : Dec Z h de db kdb dd pos ra co wi) (Ve : Arv Z h eA ke .byte (Int32.ofNat ys.length) (ys.map Value.int) (.int (0 : Int32))) (Vd : Arv Z h dA kd .byte (Int32.ofNat dd.length) (dd.map Value.int) (.int (0 : Int32))) (hdl : dd.length ≤ 8) (hyl : ys.length ≤ 8) (hpos : pos ≤ 20) (hb : (0 ≤ co.toInt ∧ co.toInt < 4294967296) ∧ (0 ≤ wi.toInt ∧ wi.toInt < 4294967296)) (hfe : fe = 0 ∨ fe = 1) (hsm : (sm = 0 ∧ fe = 0) ∨ (sm = 1 ∧ (Can dd pos ra co wi ↔ dd = ys))) (hs18 : One s18) :
    OwnWP p e below s h0 [] Q0 room_1.cells room_1.slots T (mkF m 352 #[.val (.int va), .val (.int vb), .val (.int vc), .val (.long vx), .second, .val (.int p1), .val (.int p2), .val (.int b1), .val (.int b2), .val (.int k), .val (.int fe), .val (.int nn), .val (.ref arr), .val (.ref en), .val (.ref eA), .val (.ref dA), .val (.ref de), .val (.int sm), s18] []) := by
  obtain ⟨xE1, xD1, xN1, xP1, xR1, xC1, xW1, xV1, xU1⟩ := O
  rcases hsm with ⟨rfl, rfl⟩ | ⟨rfl, hiff⟩
  · skip
    refine ow_aload C A at_352 rfl rfl rfl ?_
    refine ow_callV C A (argsL := []) xE1 (rm_can l Z a0 hw de db kdb dd pos ra co wi h ⟨xE1, xD1, xN1, xP1, xR1, xC1, xW1, xV1, xU1⟩ (by omega) hpos hb []) tw_73 tw_74 (ow_nf hw tw_76) tw_76 tw_75 tw_49 tw_77 (by decide) all0 (by decide) (by decide) (ck' := 6) (sk' := 116) rfl rfl (by decide) (by decide) rfl (lenOf pd_5 rfl) (S := []) rfl (W := 0) (Nat.le_of_eq rfl) at_354 rfl ?_
    intro T2 v2 K2 hQ2 A2
    obtain ⟨ee2, hv2⟩ := hQ2
    rw [ee2] at A2 K2
    rcases hv2 with ⟨rfl, q2⟩ | ⟨rfl, q2⟩
    · skip
      show OwnWP _ _ _ _ _ _ _ _ _ T2 (mkF m 357 #[.val (.int va), .val (.int vb), .val (.int vc), .val (.long vx), .second, .val (.int p1), .val (.int p2), .val (.int b1), .val (.int b2), .val (.int k), .val (.int (0 : Int32)), .val (.int nn), .val (.ref arr), .val (.ref en), .val (.ref eA), .val (.ref dA), .val (.ref de), .val (.int (0 : Int32)), s18] [(.int (1 : Int32))])
      refine ow_istore C A2 at_357 (Ls' := #[.val (.int va), .val (.int vb), .val (.int vc), .val (.long vx), .second, .val (.int p1), .val (.int p2), .val (.int b1), .val (.int b2), .val (.int k), .val (.int (0 : Int32)), .val (.int nn), .val (.ref arr), .val (.ref en), .val (.ref eA), .val (.ref dA), .val (.ref de), .val (.int (0 : Int32)), .val (.int (1 : Int32))]) (by rcases hs18 with rfl | ⟨w, rfl, hw18⟩ <;> first | rfl | (cases w <;> first | rfl | (simp [Value.category] at hw18))) rfl ?_
      refine ow_iload C A2 at_359 rfl rfl ?_
      refine ow_if_eq C A2 at_361 (by decide) (pcY := 371) (by decide) (pcN := 364) rfl (fun _ => ?_) (fun zq => absurd (by decide) zq)
      refine ow_iload C A2 at_371 rfl rfl ?_
      refine ow_if_ne C A2 at_373 (by decide) (pcY := 378) (by decide) (pcN := 376) rfl (fun zq => absurd (by decide) zq) (fun _ => ?_)
      refine ow_iconst C A2 at_376 (v := 1) rfl rfl ?_
      refine ow_ireturn C A2 (t := .boolean) rfl rfl (by simp) at_377 (by decide) (by decide) ?_
      exact rfl
    · skip
      show OwnWP _ _ _ _ _ _ _ _ _ T2 (mkF m 357 #[.val (.int va), .val (.int vb), .val (.int vc), .val (.long vx), .second, .val (.int p1), .val (.int p2), .val (.int b1), .val (.int b2), .val (.int k), .val (.int (0 : Int32)), .val (.int nn), .val (.ref arr), .val (.ref en), .val (.ref eA), .val (.ref dA), .val (.ref de), .val (.int (0 : Int32)), s18] [(.int (0 : Int32))])
      refine ow_istore C A2 at_357 (Ls' := #[.val (.int va), .val (.int vb), .val (.int vc), .val (.long vx), .second, .val (.int p1), .val (.int p2), .val (.int b1), .val (.int b2), .val (.int k), .val (.int (0 : Int32)), .val (.int nn), .val (.ref arr), .val (.ref en), .val (.ref eA), .val (.ref dA), .val (.ref de), .val (.int (0 : Int32)), .val (.int (0 : Int32))]) (by rcases hs18 with rfl | ⟨w, rfl, hw18⟩ <;> first | rfl | (cases w <;> first | rfl | (simp [Value.category] at hw18))) rfl ?_
      refine ow_iload C A2 at_359 rfl rfl ?_
      refine ow_if_eq C A2 at_361 (by decide) (pcY := 371) (by decide) (pcN := 364) rfl (fun _ => ?_) (fun zq => absurd (by decide) zq)
      refine ow_iload C A2 at_371 rfl rfl ?_
      refine ow_if_ne C A2 at_373 (by decide) (pcY := 378) (by decide) (pcN := 376) rfl (fun zq => absurd (by decide) zq) (fun _ => ?_)
      refine ow_iconst C A2 at_376 (v := 1) rfl rfl ?_
      refine ow_ireturn C A2 (t := .boolean) rfl rfl (by simp) at_377 (by decide) (by decide) ?_
      exact rfl
  · rcases hfe with rfl | rfl
    · skip
      refine ow_aload C A at_352 rfl rfl rfl ?_
      refine ow_callV C A (argsL := []) xE1 (rm_can l Z a0 hw de db kdb dd pos ra co wi h ⟨xE1, xD1, xN1, xP1, xR1, xC1, xW1, xV1, xU1⟩ (by omega) hpos hb []) tw_73 tw_74 (ow_nf hw tw_76) tw_76 tw_75 tw_49 tw_77 (by decide) all0 (by decide) (by decide) (ck' := 6) (sk' := 116) rfl rfl (by decide) (by decide) rfl (lenOf pd_5 rfl) (S := []) rfl (W := 0) (Nat.le_of_eq rfl) at_354 rfl ?_
      intro T3 v3 K3 hQ3 A3
      obtain ⟨ee3, hv3⟩ := hQ3
      rw [ee3] at A3 K3
      rcases hv3 with ⟨rfl, q3⟩ | ⟨rfl, q3⟩
      · skip
        show OwnWP _ _ _ _ _ _ _ _ _ T3 (mkF m 357 #[.val (.int va), .val (.int vb), .val (.int vc), .val (.long vx), .second, .val (.int p1), .val (.int p2), .val (.int b1), .val (.int b2), .val (.int k), .val (.int (0 : Int32)), .val (.int nn), .val (.ref arr), .val (.ref en), .val (.ref eA), .val (.ref dA), .val (.ref de), .val (.int (1 : Int32)), s18] [(.int (1 : Int32))])
        refine ow_istore C A3 at_357 (Ls' := #[.val (.int va), .val (.int vb), .val (.int vc), .val (.long vx), .second, .val (.int p1), .val (.int p2), .val (.int b1), .val (.int b2), .val (.int k), .val (.int (0 : Int32)), .val (.int nn), .val (.ref arr), .val (.ref en), .val (.ref eA), .val (.ref dA), .val (.ref de), .val (.int (1 : Int32)), .val (.int (1 : Int32))]) (by rcases hs18 with rfl | ⟨w, rfl, hw18⟩ <;> first | rfl | (cases w <;> first | rfl | (simp [Value.category] at hw18))) rfl ?_
        refine ow_iload C A3 at_359 rfl rfl ?_
        refine ow_if_eq C A3 at_361 (by decide) (pcY := 371) (by decide) (pcN := 364) rfl (fun _ => ?_) (fun zq => absurd (by decide) zq)
        refine ow_iload C A3 at_371 rfl rfl ?_
        refine ow_if_ne C A3 at_373 (by decide) (pcY := 378) (by decide) (pcN := 376) rfl (fun _ => ?_) (fun zq => absurd zq (by decide))
        refine ow_iload C A3 at_378 rfl rfl ?_
        refine ow_aload C A3 at_380 rfl rfl rfl ?_
        refine ow_aload C A3 at_382 rfl rfl rfl ?_
        refine ow_callS C A3 (argsL := [(.ref dA), (.ref eA)]) (rm_eq l Z a0 hw dA eA kd ke dd ys h Vd Ve hdl (by omega) []) tw_78 tw_79 tw_80 tw_81 (by decide) all0 (by decide) (by decide) (ck' := 6) (sk' := 116) rfl rfl (by decide) (by decide) rfl (lenOf pd_6 rfl) (S := [(.int (1 : Int32))]) rfl (W := 1) (Nat.le_of_eq rfl) at_384 rfl ?_
        intro T4 v4 K4 hQ4 A4
        obtain ⟨ee4, hv4⟩ := hQ4
        rw [ee4] at A4 K4
        rcases hv4 with ⟨rfl, q4⟩ | ⟨rfl, q4⟩
        · skip
          show OwnWP _ _ _ _ _ _ _ _ _ T4 (mkF m 387 #[.val (.int va), .val (.int vb), .val (.int vc), .val (.long vx), .second, .val (.int p1), .val (.int p2), .val (.int b1), .val (.int b2), .val (.int k), .val (.int (0 : Int32)), .val (.int nn), .val (.ref arr), .val (.ref en), .val (.ref eA), .val (.ref dA), .val (.ref de), .val (.int (1 : Int32)), .val (.int (1 : Int32))] [(.int (1 : Int32)), (.int (1 : Int32))])
          refine ow_icmp_ne C A4 at_387 (by decide) (pcY := 394) (by decide) (pcN := 390) rfl (fun zq => absurd (by decide) zq) (fun _ => ?_)
          refine ow_iconst C A4 at_390 (v := 1) rfl rfl ?_
          refine ow_goto C A4 at_391 (by decide) (pc' := 395) (by decide) ?_
          refine ow_ireturn C A4 (t := .boolean) rfl rfl (by simp) at_395 (by decide) (by decide) ?_
          exact rfl
        · exfalso; exact q4 (hiff.mp q3)
      · skip
        show OwnWP _ _ _ _ _ _ _ _ _ T3 (mkF m 357 #[.val (.int va), .val (.int vb), .val (.int vc), .val (.long vx), .second, .val (.int p1), .val (.int p2), .val (.int b1), .val (.int b2), .val (.int k), .val (.int (0 : Int32)), .val (.int nn), .val (.ref arr), .val (.ref en), .val (.ref eA), .val (.ref dA), .val (.ref de), .val (.int (1 : Int32)), s18] [(.int (0 : Int32))])
        refine ow_istore C A3 at_357 (Ls' := #[.val (.int va), .val (.int vb), .val (.int vc), .val (.long vx), .second, .val (.int p1), .val (.int p2), .val (.int b1), .val (.int b2), .val (.int k), .val (.int (0 : Int32)), .val (.int nn), .val (.ref arr), .val (.ref en), .val (.ref eA), .val (.ref dA), .val (.ref de), .val (.int (1 : Int32)), .val (.int (0 : Int32))]) (by rcases hs18 with rfl | ⟨w, rfl, hw18⟩ <;> first | rfl | (cases w <;> first | rfl | (simp [Value.category] at hw18))) rfl ?_
        refine ow_iload C A3 at_359 rfl rfl ?_
        refine ow_if_eq C A3 at_361 (by decide) (pcY := 371) (by decide) (pcN := 364) rfl (fun _ => ?_) (fun zq => absurd (by decide) zq)
        refine ow_iload C A3 at_371 rfl rfl ?_
        refine ow_if_ne C A3 at_373 (by decide) (pcY := 378) (by decide) (pcN := 376) rfl (fun _ => ?_) (fun zq => absurd zq (by decide))
        refine ow_iload C A3 at_378 rfl rfl ?_
        refine ow_aload C A3 at_380 rfl rfl rfl ?_
        refine ow_aload C A3 at_382 rfl rfl rfl ?_
        refine ow_callS C A3 (argsL := [(.ref dA), (.ref eA)]) (rm_eq l Z a0 hw dA eA kd ke dd ys h Vd Ve hdl (by omega) []) tw_78 tw_79 tw_80 tw_81 (by decide) all0 (by decide) (by decide) (ck' := 6) (sk' := 116) rfl rfl (by decide) (by decide) rfl (lenOf pd_6 rfl) (S := [(.int (0 : Int32))]) rfl (W := 1) (Nat.le_of_eq rfl) at_384 rfl ?_
        intro T5 v5 K5 hQ5 A5
        obtain ⟨ee5, hv5⟩ := hQ5
        rw [ee5] at A5 K5
        rcases hv5 with ⟨rfl, q5⟩ | ⟨rfl, q5⟩
        · exfalso; exact q3 (hiff.mpr q5)
        · skip
          show OwnWP _ _ _ _ _ _ _ _ _ T5 (mkF m 387 #[.val (.int va), .val (.int vb), .val (.int vc), .val (.long vx), .second, .val (.int p1), .val (.int p2), .val (.int b1), .val (.int b2), .val (.int k), .val (.int (0 : Int32)), .val (.int nn), .val (.ref arr), .val (.ref en), .val (.ref eA), .val (.ref dA), .val (.ref de), .val (.int (1 : Int32)), .val (.int (0 : Int32))] [(.int (0 : Int32)), (.int (0 : Int32))])
          refine ow_icmp_ne C A5 at_387 (by decide) (pcY := 394) (by decide) (pcN := 390) rfl (fun zq => absurd (by decide) zq) (fun _ => ?_)
          refine ow_iconst C A5 at_390 (v := 1) rfl rfl ?_
          refine ow_goto C A5 at_391 (by decide) (pc' := 395) (by decide) ?_
          refine ow_ireturn C A5 (t := .boolean) rfl rfl (by simp) at_395 (by decide) (by decide) ?_
          exact rfl
    · skip
      refine ow_aload C A at_352 rfl rfl rfl ?_
      refine ow_callV C A (argsL := []) xE1 (rm_can l Z a0 hw de db kdb dd pos ra co wi h ⟨xE1, xD1, xN1, xP1, xR1, xC1, xW1, xV1, xU1⟩ (by omega) hpos hb []) tw_73 tw_74 (ow_nf hw tw_76) tw_76 tw_75 tw_49 tw_77 (by decide) all0 (by decide) (by decide) (ck' := 6) (sk' := 116) rfl rfl (by decide) (by decide) rfl (lenOf pd_5 rfl) (S := []) rfl (W := 0) (Nat.le_of_eq rfl) at_354 rfl ?_
      intro T6 v6 K6 hQ6 A6
      obtain ⟨ee6, hv6⟩ := hQ6
      rw [ee6] at A6 K6
      rcases hv6 with ⟨rfl, q6⟩ | ⟨rfl, q6⟩
      · skip
        show OwnWP _ _ _ _ _ _ _ _ _ T6 (mkF m 357 #[.val (.int va), .val (.int vb), .val (.int vc), .val (.long vx), .second, .val (.int p1), .val (.int p2), .val (.int b1), .val (.int b2), .val (.int k), .val (.int (1 : Int32)), .val (.int nn), .val (.ref arr), .val (.ref en), .val (.ref eA), .val (.ref dA), .val (.ref de), .val (.int (1 : Int32)), s18] [(.int (1 : Int32))])
        refine ow_istore C A6 at_357 (Ls' := #[.val (.int va), .val (.int vb), .val (.int vc), .val (.long vx), .second, .val (.int p1), .val (.int p2), .val (.int b1), .val (.int b2), .val (.int k), .val (.int (1 : Int32)), .val (.int nn), .val (.ref arr), .val (.ref en), .val (.ref eA), .val (.ref dA), .val (.ref de), .val (.int (1 : Int32)), .val (.int (1 : Int32))]) (by rcases hs18 with rfl | ⟨w, rfl, hw18⟩ <;> first | rfl | (cases w <;> first | rfl | (simp [Value.category] at hw18))) rfl ?_
        refine ow_iload C A6 at_359 rfl rfl ?_
        refine ow_if_eq C A6 at_361 (by decide) (pcY := 371) (by decide) (pcN := 364) rfl (fun zq => absurd zq (by decide)) (fun _ => ?_)
        refine ow_iload C A6 at_364 rfl rfl ?_
        refine ow_if_ne C A6 at_366 (by decide) (pcY := 371) (by decide) (pcN := 369) rfl (fun _ => ?_) (fun zq => absurd zq (by decide))
        refine ow_iload C A6 at_371 rfl rfl ?_
        refine ow_if_ne C A6 at_373 (by decide) (pcY := 378) (by decide) (pcN := 376) rfl (fun _ => ?_) (fun zq => absurd zq (by decide))
        refine ow_iload C A6 at_378 rfl rfl ?_
        refine ow_aload C A6 at_380 rfl rfl rfl ?_
        refine ow_aload C A6 at_382 rfl rfl rfl ?_
        refine ow_callS C A6 (argsL := [(.ref dA), (.ref eA)]) (rm_eq l Z a0 hw dA eA kd ke dd ys h Vd Ve hdl (by omega) []) tw_78 tw_79 tw_80 tw_81 (by decide) all0 (by decide) (by decide) (ck' := 6) (sk' := 116) rfl rfl (by decide) (by decide) rfl (lenOf pd_6 rfl) (S := [(.int (1 : Int32))]) rfl (W := 1) (Nat.le_of_eq rfl) at_384 rfl ?_
        intro T7 v7 K7 hQ7 A7
        obtain ⟨ee7, hv7⟩ := hQ7
        rw [ee7] at A7 K7
        rcases hv7 with ⟨rfl, q7⟩ | ⟨rfl, q7⟩
        · skip
          show OwnWP _ _ _ _ _ _ _ _ _ T7 (mkF m 387 #[.val (.int va), .val (.int vb), .val (.int vc), .val (.long vx), .second, .val (.int p1), .val (.int p2), .val (.int b1), .val (.int b2), .val (.int k), .val (.int (1 : Int32)), .val (.int nn), .val (.ref arr), .val (.ref en), .val (.ref eA), .val (.ref dA), .val (.ref de), .val (.int (1 : Int32)), .val (.int (1 : Int32))] [(.int (1 : Int32)), (.int (1 : Int32))])
          refine ow_icmp_ne C A7 at_387 (by decide) (pcY := 394) (by decide) (pcN := 390) rfl (fun zq => absurd (by decide) zq) (fun _ => ?_)
          refine ow_iconst C A7 at_390 (v := 1) rfl rfl ?_
          refine ow_goto C A7 at_391 (by decide) (pc' := 395) (by decide) ?_
          refine ow_ireturn C A7 (t := .boolean) rfl rfl (by simp) at_395 (by decide) (by decide) ?_
          exact rfl
        · exfalso; exact q7 (hiff.mp q6)
      · skip
        show OwnWP _ _ _ _ _ _ _ _ _ T6 (mkF m 357 #[.val (.int va), .val (.int vb), .val (.int vc), .val (.long vx), .second, .val (.int p1), .val (.int p2), .val (.int b1), .val (.int b2), .val (.int k), .val (.int (1 : Int32)), .val (.int nn), .val (.ref arr), .val (.ref en), .val (.ref eA), .val (.ref dA), .val (.ref de), .val (.int (1 : Int32)), s18] [(.int (0 : Int32))])
        refine ow_istore C A6 at_357 (Ls' := #[.val (.int va), .val (.int vb), .val (.int vc), .val (.long vx), .second, .val (.int p1), .val (.int p2), .val (.int b1), .val (.int b2), .val (.int k), .val (.int (1 : Int32)), .val (.int nn), .val (.ref arr), .val (.ref en), .val (.ref eA), .val (.ref dA), .val (.ref de), .val (.int (1 : Int32)), .val (.int (0 : Int32))]) (by rcases hs18 with rfl | ⟨w, rfl, hw18⟩ <;> first | rfl | (cases w <;> first | rfl | (simp [Value.category] at hw18))) rfl ?_
        refine ow_iload C A6 at_359 rfl rfl ?_
        refine ow_if_eq C A6 at_361 (by decide) (pcY := 371) (by decide) (pcN := 364) rfl (fun zq => absurd zq (by decide)) (fun _ => ?_)
        refine ow_iload C A6 at_364 rfl rfl ?_
        refine ow_if_ne C A6 at_366 (by decide) (pcY := 371) (by decide) (pcN := 369) rfl (fun _ => ?_) (fun zq => absurd zq (by decide))
        refine ow_iload C A6 at_371 rfl rfl ?_
        refine ow_if_ne C A6 at_373 (by decide) (pcY := 378) (by decide) (pcN := 376) rfl (fun _ => ?_) (fun zq => absurd zq (by decide))
        refine ow_iload C A6 at_378 rfl rfl ?_
        refine ow_aload C A6 at_380 rfl rfl rfl ?_
        refine ow_aload C A6 at_382 rfl rfl rfl ?_
        refine ow_callS C A6 (argsL := [(.ref dA), (.ref eA)]) (rm_eq l Z a0 hw dA eA kd ke dd ys h Vd Ve hdl (by omega) []) tw_78 tw_79 tw_80 tw_81 (by decide) all0 (by decide) (by decide) (ck' := 6) (sk' := 116) rfl rfl (by decide) (by decide) rfl (lenOf pd_6 rfl) (S := [(.int (0 : Int32))]) rfl (W := 1) (Nat.le_of_eq rfl) at_384 rfl ?_
        intro T8 v8 K8 hQ8 A8
        obtain ⟨ee8, hv8⟩ := hQ8
        rw [ee8] at A8 K8
        rcases hv8 with ⟨rfl, q8⟩ | ⟨rfl, q8⟩
        · exfalso; exact q6 (hiff.mpr q8)
        · skip
          show OwnWP _ _ _ _ _ _ _ _ _ T8 (mkF m 387 #[.val (.int va), .val (.int vb), .val (.int vc), .val (.long vx), .second, .val (.int p1), .val (.int p2), .val (.int b1), .val (.int b2), .val (.int k), .val (.int (1 : Int32)), .val (.int nn), .val (.ref arr), .val (.ref en), .val (.ref eA), .val (.ref dA), .val (.ref de), .val (.int (1 : Int32)), .val (.int (0 : Int32))] [(.int (0 : Int32)), (.int (0 : Int32))])
          refine ow_icmp_ne C A8 at_387 (by decide) (pcY := 394) (by decide) (pcN := 390) rfl (fun zq => absurd (by decide) zq) (fun _ => ?_)
          refine ow_iconst C A8 at_390 (v := 1) rfl rfl ?_
          refine ow_goto C A8 at_391 (by decide) (pc' := 395) (by decide) ?_
          refine ow_ireturn C A8 (t := .boolean) rfl rfl (by simp) at_395 (by decide) (by decide) ?_
          exact rfl
set_option maxRecDepth 65536 in
set_option maxHeartbeats 40000000 in
theorem law_276 {p : Program} {l : Launch} {e : Env} {s : State} {m : MethodId} {args : Array Value} {below : List Frame} {meth : Method} {c : Code} {Z : State} {a0 : Array Value} {h0 h : Heap} {T : State} (hw : ∀ d ∈ tables_1, d.before a0 Z = true) (C : OwnCtx p s m meth c Z a0 tables_1 x code maxLocals ret) (A : OwnPos p l e room_1 s m args below meth c h0 [] T h 4 78) (va vb vc : Int32) (vx : Int64) (p1 p2 b1 b2 k fe nn : Int32) (arr en eA dA : Addr) (ke kd : ClassId) (dd ys : List Int32) (N : Nat) (L R : Int) (Ve : Arv Z h eA ke .byte (Int32.ofNat ys.length) (ys.map Value.int) (.int (0 : Int32))) (Vd : Arv Z h dA kd .byte (Int32.ofNat dd.length) (dd.map Value.int) (.int (0 : Int32))) (hdl : dd.length ≤ 8) (hbd : Byt dd) (hfe : fe = 0 ∨ (fe = 1 ∧ dd = ys)) (hE : EF k b1 b2 p1 p2 ys N L R) (hF : Fin ys N L R) (hp1 : Pok p1) (hp2 : Pok p2) (hb1 : b1 = 0 ∨ b1 = 1) (hb2 : b2 = 0 ∨ b2 = 1) :
    OwnWP p e below s h0 [] Q0 room_1.cells room_1.slots T (mkF m 276 #[.val (.int va), .val (.int vb), .val (.int vc), .val (.long vx), .second, .val (.int p1), .val (.int p2), .val (.int b1), .val (.int b2), .val (.int k), .val (.int fe), .val (.int nn), .val (.ref arr), .val (.ref en), .val (.ref eA), .val (.ref dA), .unset, .unset, .unset] []) := by
  have hyl : ys.length ≤ 8 := by obtain ⟨f1, f2, f3, f4, f5, f6, f7⟩ := hF; omega
  have hfe' : fe = 0 ∨ fe = 1 := hfe.elim Or.inl (fun q => Or.inr q.1)
  have big := own_big p1 hp1
  have iF := own_inF ys N L R hF
  refine ow_new C A tw_47 tw_48 tw_49 at_276 rfl (ck' := 5) (sk' := 84) rfl rfl (by decide) (by decide) ?_
  intro T1 h3 b4 g5 E6 X7 D8 A2
  have ne9 : eA ≠ b4 := Nat.ne_of_lt (Nat.lt_of_lt_of_le Ve.lt (Nat.le_of_eq g5.symm))
  have ne10 : dA ≠ b4 := Nat.ne_of_lt (Nat.lt_of_lt_of_le Vd.lt (Nat.le_of_eq g5.symm))
  have ows_b4 : b4 ∈ ([] : List Addr) ∨ h0.size ≤ b4 := Or.inr (Nat.le_trans (ow_le A) (Nat.le_of_eq g5.symm))
  have f11 : Fld Z h3 b4 "com/example/phasorwire/phasorwire/RangeDecoder" "range" "J" (.long (0 : Int64)) := D8 (Or.inl (hw _ tw_56)) (ty := .long) (by decide)
  have f12 : Fld Z h3 b4 "com/example/phasorwire/phasorwire/RangeDecoder" "data" "[B" .null := D8 (Or.inr (hw _ tw_59)) (ty := (.array .byte)) (by decide)
  have f13 : Fld Z h3 b4 "com/example/phasorwire/phasorwire/RangeDecoder" "length" "I" (.int (0 : Int32)) := D8 (Or.inr (hw _ tw_61)) (ty := .int) (by decide)
  have f14 : Fld Z h3 b4 "com/example/phasorwire/phasorwire/RangeDecoder" "position" "I" (.int (0 : Int32)) := D8 (Or.inl (hw _ tw_67)) (ty := .int) (by decide)
  have f15 : Fld Z h3 b4 "com/example/phasorwire/phasorwire/RangeDecoder" "code" "J" (.long (0 : Int64)) := D8 (Or.inl (hw _ tw_70)) (ty := .long) (by decide)
  have f16 : Fld Z h3 b4 "com/example/phasorwire/phasorwire/RangeDecoder" "window" "J" (.long (0 : Int64)) := D8 (Or.inl (hw _ tw_72)) (ty := .long) (by decide)
  refine ow_dup C A2 at_279 rfl rfl ?_
  refine ow_aload C A2 at_280 rfl rfl rfl ?_
  have f17 := (Vd.ext E6)
  refine ow_callI C A2 (argsL := [(.ref dA)]) (a := b4) (rm_dinit l Z a0 hw b4 dA kd dd h3 f17 (by omega) (Ne.symm ne10) X7 f12 f13 f14 f11 f15 f16 []) rfl tw_50 tw_51 tw_49 tw_52 (by decide) (allS ows_b4 all0) (by decide) (by decide) (ck' := 6) (sk' := 116) rfl rfl (by decide) (by decide) rfl (lenOf pd_7 rfl) (S := [(.ref b4)]) rfl (W := 1) (Nat.le_of_eq rfl) at_282 rfl ?_
  intro T18 v18 K18 hQ18 A18
  obtain ⟨rfl, db18, kb18, co18, wi18, gd18, O18, I18⟩ := hQ18
  show OwnWP _ _ _ _ _ _ _ _ _ T18 (mkF m 285 #[.val (.int va), .val (.int vb), .val (.int vc), .val (.long vx), .second, .val (.int p1), .val (.int p2), .val (.int b1), .val (.int b2), .val (.int k), .val (.int fe), .val (.int nn), .val (.ref arr), .val (.ref en), .val (.ref eA), .val (.ref dA), .unset, .unset, .unset] [(.ref b4)])
  obtain ⟨xE19, xD19, xN19, xP19, xR19, xC19, xW19, xV19, xU19⟩ := O18
  have X18 := own_exact0 dd co18 wi18 I18
  have d0 := own_dich0 dd
  refine ow_astore C A18 at_285 rfl (Ls' := #[.val (.int va), .val (.int vb), .val (.int vc), .val (.long vx), .second, .val (.int p1), .val (.int p2), .val (.int b1), .val (.int b2), .val (.int k), .val (.int fe), .val (.int nn), .val (.ref arr), .val (.ref en), .val (.ref eA), .val (.ref dA), .val (.ref b4), .unset, .unset]) rfl rfl ?_
  refine ow_iconst C A18 at_287 (v := 1) rfl rfl ?_
  refine ow_istore C A18 at_288 (Ls' := #[.val (.int va), .val (.int vb), .val (.int vc), .val (.long vx), .second, .val (.int p1), .val (.int p2), .val (.int b1), .val (.int b2), .val (.int k), .val (.int fe), .val (.int nn), .val (.ref arr), .val (.ref en), .val (.ref eA), .val (.ref dA), .val (.ref b4), .val (.int (1 : Int32)), .unset]) rfl rfl ?_
  rcases hE with ⟨rfl, rfl, rfl, rfl⟩ | ⟨rfl, rfl, e1⟩ | ⟨rfl, rfl, e1⟩ | ⟨rfl, ra1, L1, s1, s2, rfl, e1, e2⟩
  · skip
    refine ow_iload C A18 at_290 rfl rfl ?_
    refine ow_if_le C A18 at_292 (by decide) (pcY := 318) (by decide) (pcN := 295) rfl (fun _ => ?_) (fun zq => absurd zq (by decide))
    refine ow_iload C A18 at_318 rfl rfl ?_
    refine ow_iconst C A18 at_320 (v := 1) rfl rfl ?_
    refine ow_icmp_le C A18 at_321 (by decide) (pcY := 352) (by decide) (pcN := 324) rfl (fun _ => ?_) (fun zq => absurd zq (by decide))
    have hiff := own_leafC dd ys 0 4 0 4294967295 4294967295 _ _ hF rfl own_fullv I18 d0 hbd
    have f20 := ((Ve.ext E6).keep K18 (ninS ne9 nin0))
    have f21 := (f17.keep K18 (ninS ne10 nin0))
    exact law_352 hw C A18 va vb vc vx p1 p2 b1 b2 (0 : Int32) fe nn arr en eA dA b4 db18 ke kd kb18 dd ys _ (4294967295 : Int64) co18 wi18 (1 : Int32) (.unset) ⟨xE19, xD19, xN19, xP19, xR19, xC19, xW19, xV19, xU19⟩ (f20) (f21) hdl hyl (by omega) (own_DIb _ _ _ _ _ I18) hfe' (Or.inr ⟨rfl, hiff⟩) One.u
  · skip
    refine ow_iload C A18 at_290 rfl rfl ?_
    refine ow_if_le C A18 at_292 (by decide) (pcY := 318) (by decide) (pcN := 295) rfl (fun zq => absurd (by decide) zq) (fun _ => ?_)
    refine ow_aload C A18 at_295 rfl rfl rfl ?_
    refine ow_iload C A18 at_297 rfl rfl ?_
    refine ow_callV C A18 (argsL := [(.int p1)]) xE19 (rm_dd l Z a0 hw b4 db18 kb18 dd (4294967295 : Int64) co18 wi18 4 0 p1 T18.heap ⟨xE19, xD19, xN19, xP19, xR19, xC19, xW19, xV19, xU19⟩ I18 (by omega) (by omega) own_full hp1 []) tw_97 tw_98 (ow_nf hw tw_100) tw_100 tw_99 tw_49 tw_101 (by decide) (allS ows_b4 all0) (by decide) (by decide) (ck' := 6) (sk' := 116) rfl rfl (by decide) (by decide) rfl (lenOf pd_8 rfl) (S := []) rfl (W := 0) (Nat.le_of_eq rfl) at_299 rfl ?_
    intro T22 v22 K22 hQ22 A22
    obtain ⟨ra22, co22, wi22, s22, L22, O22, I22, hv22⟩ := hQ22
    rcases hv22 with ⟨rfl, hb22, rl22⟩ | ⟨rfl, hb22, rl22⟩
    · skip
      show OwnWP _ _ _ _ _ _ _ _ _ T22 (mkF m 302 #[.val (.int va), .val (.int vb), .val (.int vc), .val (.long vx), .second, .val (.int p1), .val (.int p2), .val (.int (0 : Int32)), .val (.int b2), .val (.int (1 : Int32)), .val (.int fe), .val (.int nn), .val (.ref arr), .val (.ref en), .val (.ref eA), .val (.ref dA), .val (.ref b4), .val (.int (1 : Int32)), .unset] [(.int (0 : Int32))])
      obtain ⟨xE23, xD23, xN23, xP23, xR23, xC23, xW23, xV23, xU23⟩ := O22
      have rb22 := own_rb0 (4294967295 : Int64) p1 own_full hp1
      have ok22 := own_relE_ok _ _ _ _ _ rl22 rb22
      have hR22 : Rok ra22 := ⟨ok22.1, ok22.2.1⟩
      have e22 : Dich (own_D dd 4) 0 (own_r0 (4294967295 : Int64) p1).toInt 0 := own_bit0 _ _ _ _ _ _ d0 X18 hb22
      have f22 := own_relD dd 4 0 s22 _ _ _ _ e22 rl22
      have su22 := ok22.2.2
      have q022 : Dich (own_D dd (4 + s22)) L22 ra22.toInt s22 := by have q1 := f22; rw [Nat.zero_add] at q1; exact q1
      have X22 : co22.toInt = own_D dd (4 + s22) - L22 := own_exact1 dd co22 wi22 _ _ _ _ s22 I22 q022 rl22 ⟨by omega, by omega⟩
      refine ow_istore C A22 at_302 (Ls' := #[.val (.int va), .val (.int vb), .val (.int vc), .val (.long vx), .second, .val (.int p1), .val (.int p2), .val (.int (0 : Int32)), .val (.int b2), .val (.int (1 : Int32)), .val (.int fe), .val (.int nn), .val (.ref arr), .val (.ref en), .val (.ref eA), .val (.ref dA), .val (.ref b4), .val (.int (1 : Int32)), .val (.int (0 : Int32))]) rfl rfl ?_
      refine ow_iload C A22 at_304 rfl rfl ?_
      refine ow_iload C A22 at_306 rfl rfl ?_
      refine ow_icmp_ne C A22 at_308 (by decide) (pcY := 315) (by decide) (pcN := 311) rfl (fun zq => absurd (by decide) zq) (fun _ => ?_)
      refine ow_iconst C A22 at_311 (v := 1) rfl rfl ?_
      refine ow_goto C A22 at_312 (by decide) (pc' := 316) (by decide) ?_
      refine ow_istore C A22 at_316 (Ls' := #[.val (.int va), .val (.int vb), .val (.int vc), .val (.long vx), .second, .val (.int p1), .val (.int p2), .val (.int (0 : Int32)), .val (.int b2), .val (.int (1 : Int32)), .val (.int fe), .val (.int nn), .val (.ref arr), .val (.ref en), .val (.ref eA), .val (.ref dA), .val (.ref b4), .val (.int (1 : Int32)), .val (.int (0 : Int32))]) rfl rfl ?_
      refine ow_iload C A22 at_318 rfl rfl ?_
      refine ow_iconst C A22 at_320 (v := 1) rfl rfl ?_
      refine ow_icmp_le C A22 at_321 (by decide) (pcY := 352) (by decide) (pcN := 324) rfl (fun _ => ?_) (fun zq => absurd zq (by decide))
      obtain ⟨u1, u2, u3⟩ := own_relE_un _ _ _ _ _ _ _ _ e1 rl22
      subst u1 u2 u3
      have hiff := own_leafC dd ys _ (4 + _) _ _ _ _ _ hF (by omega) rfl I22 (by have q := f22; rw [Nat.zero_add] at q; exact q) hbd
      have f24 := (((Ve.ext E6).keep K18 (ninS ne9 nin0)).keep K22 (ninS ne9 nin0))
      have f25 := ((f17.keep K18 (ninS ne10 nin0)).keep K22 (ninS ne10 nin0))
      exact law_352 hw C A22 va vb vc vx p1 p2 (0 : Int32) b2 (1 : Int32) fe nn arr en eA dA b4 db18 ke kd kb18 dd ys _ ra22 co22 wi22 (1 : Int32) (.val (.int (0 : Int32))) ⟨xE23, xD23, xN23, xP23, xR23, xC23, xW23, xV23, xU23⟩ (f24) (f25) hdl hyl (by omega) (own_DIb _ _ _ _ _ I22) hfe' (Or.inr ⟨rfl, hiff⟩) (One.val rfl)
    · skip
      show OwnWP _ _ _ _ _ _ _ _ _ T22 (mkF m 302 #[.val (.int va), .val (.int vb), .val (.int vc), .val (.long vx), .second, .val (.int p1), .val (.int p2), .val (.int (0 : Int32)), .val (.int b2), .val (.int (1 : Int32)), .val (.int fe), .val (.int nn), .val (.ref arr), .val (.ref en), .val (.ref eA), .val (.ref dA), .val (.ref b4), .val (.int (1 : Int32)), .unset] [(.int (1 : Int32))])
      obtain ⟨xE26, xD26, xN26, xP26, xR26, xC26, xW26, xV26, xU26⟩ := O22
      have rb22 := own_rb1 (4294967295 : Int64) p1 own_full hp1
      have ok22 := own_relE_ok _ _ _ _ _ rl22 rb22
      have hR22 : Rok ra22 := ⟨ok22.1, ok22.2.1⟩
      have e22 : Dich (own_D dd 4) (0 + (own_bd (4294967295 : Int64) p1).toInt) (own_r1 (4294967295 : Int64) p1).toInt 0 := by rw [own_r1v (4294967295 : Int64) p1 own_full hp1]; exact own_bit1 _ _ _ _ _ _ d0 X18 hb22
      have f22 := own_relD dd 4 0 s22 _ _ _ _ e22 rl22
      have su22 := ok22.2.2
      have q022 : Dich (own_D dd (4 + s22)) L22 ra22.toInt s22 := by have q1 := f22; rw [Nat.zero_add] at q1; exact q1
      have X22 : co22.toInt = own_D dd (4 + s22) - L22 := own_exact1 dd co22 wi22 _ _ _ _ s22 I22 q022 rl22 ⟨by omega, by omega⟩
      refine ow_istore C A22 at_302 (Ls' := #[.val (.int va), .val (.int vb), .val (.int vc), .val (.long vx), .second, .val (.int p1), .val (.int p2), .val (.int (0 : Int32)), .val (.int b2), .val (.int (1 : Int32)), .val (.int fe), .val (.int nn), .val (.ref arr), .val (.ref en), .val (.ref eA), .val (.ref dA), .val (.ref b4), .val (.int (1 : Int32)), .val (.int (1 : Int32))]) rfl rfl ?_
      refine ow_iload C A22 at_304 rfl rfl ?_
      refine ow_iload C A22 at_306 rfl rfl ?_
      refine ow_icmp_ne C A22 at_308 (by decide) (pcY := 315) (by decide) (pcN := 311) rfl (fun _ => ?_) (fun zq => absurd zq (by decide))
      refine ow_iconst C A22 at_315 (v := 0) rfl rfl ?_
      refine ow_istore C A22 at_316 (Ls' := #[.val (.int va), .val (.int vb), .val (.int vc), .val (.long vx), .second, .val (.int p1), .val (.int p2), .val (.int (0 : Int32)), .val (.int b2), .val (.int (1 : Int32)), .val (.int fe), .val (.int nn), .val (.ref arr), .val (.ref en), .val (.ref eA), .val (.ref dA), .val (.ref b4), .val (.int (0 : Int32)), .val (.int (1 : Int32))]) rfl rfl ?_
      refine ow_iload C A22 at_318 rfl rfl ?_
      refine ow_iconst C A22 at_320 (v := 1) rfl rfl ?_
      refine ow_icmp_le C A22 at_321 (by decide) (pcY := 352) (by decide) (pcN := 324) rfl (fun _ => ?_) (fun zq => absurd zq (by decide))
      have hf0 : fe = 0 := by
        rcases hfe with q | ⟨-, rfl⟩
        · exact q
        · exfalso
          have g1 := own_back dd 4 _ _ _ _ _ e1 (by rw [Nat.add_comm]; exact iF)
          have bv1 := own_bdv 4294967295 p1 own_full hp1
          have rv1 := own_r1v 4294967295 p1 own_full hp1
          have r01 := own_r0v 4294967295 p1
          rw [own_fullv] at rv1 bv1
          omega
      subst hf0
      have f27 := (((Ve.ext E6).keep K18 (ninS ne9 nin0)).keep K22 (ninS ne9 nin0))
      have f28 := ((f17.keep K18 (ninS ne10 nin0)).keep K22 (ninS ne10 nin0))
      exact law_352 hw C A22 va vb vc vx p1 p2 (0 : Int32) b2 (1 : Int32) (0 : Int32) nn arr en eA dA b4 db18 ke kd kb18 dd ys _ ra22 co22 wi22 (0 : Int32) (.val (.int (1 : Int32))) ⟨xE26, xD26, xN26, xP26, xR26, xC26, xW26, xV26, xU26⟩ (f27) (f28) hdl hyl (by omega) (own_DIb _ _ _ _ _ I22) (Or.inl rfl) (Or.inl ⟨rfl, rfl⟩) (One.val rfl)
  · skip
    refine ow_iload C A18 at_290 rfl rfl ?_
    refine ow_if_le C A18 at_292 (by decide) (pcY := 318) (by decide) (pcN := 295) rfl (fun zq => absurd (by decide) zq) (fun _ => ?_)
    refine ow_aload C A18 at_295 rfl rfl rfl ?_
    refine ow_iload C A18 at_297 rfl rfl ?_
    refine ow_callV C A18 (argsL := [(.int p1)]) xE19 (rm_dd l Z a0 hw b4 db18 kb18 dd (4294967295 : Int64) co18 wi18 4 0 p1 T18.heap ⟨xE19, xD19, xN19, xP19, xR19, xC19, xW19, xV19, xU19⟩ I18 (by omega) (by omega) own_full hp1 []) tw_97 tw_98 (ow_nf hw tw_100) tw_100 tw_99 tw_49 tw_101 (by decide) (allS ows_b4 all0) (by decide) (by decide) (ck' := 6) (sk' := 116) rfl rfl (by decide) (by decide) rfl (lenOf pd_8 rfl) (S := []) rfl (W := 0) (Nat.le_of_eq rfl) at_299 rfl ?_
    intro T29 v29 K29 hQ29 A29
    obtain ⟨ra29, co29, wi29, s29, L29, O29, I29, hv29⟩ := hQ29
    rcases hv29 with ⟨rfl, hb29, rl29⟩ | ⟨rfl, hb29, rl29⟩
    · skip
      show OwnWP _ _ _ _ _ _ _ _ _ T29 (mkF m 302 #[.val (.int va), .val (.int vb), .val (.int vc), .val (.long vx), .second, .val (.int p1), .val (.int p2), .val (.int (1 : Int32)), .val (.int b2), .val (.int (1 : Int32)), .val (.int fe), .val (.int nn), .val (.ref arr), .val (.ref en), .val (.ref eA), .val (.ref dA), .val (.ref b4), .val (.int (1 : Int32)), .unset] [(.int (0 : Int32))])
      obtain ⟨xE30, xD30, xN30, xP30, xR30, xC30, xW30, xV30, xU30⟩ := O29
      have rb29 := own_rb0 (4294967295 : Int64) p1 own_full hp1
      have ok29 := own_relE_ok _ _ _ _ _ rl29 rb29
      have hR29 : Rok ra29 := ⟨ok29.1, ok29.2.1⟩
      have e29 : Dich (own_D dd 4) 0 (own_r0 (4294967295 : Int64) p1).toInt 0 := own_bit0 _ _ _ _ _ _ d0 X18 hb29
      have f29 := own_relD dd 4 0 s29 _ _ _ _ e29 rl29
      have su29 := ok29.2.2
      have q029 : Dich (own_D dd (4 + s29)) L29 ra29.toInt s29 := by have q1 := f29; rw [Nat.zero_add] at q1; exact q1
      have X29 : co29.toInt = own_D dd (4 + s29) - L29 := own_exact1 dd co29 wi29 _ _ _ _ s29 I29 q029 rl29 ⟨by omega, by omega⟩
      refine ow_istore C A29 at_302 (Ls' := #[.val (.int va), .val (.int vb), .val (.int vc), .val (.long vx), .second, .val (.int p1), .val (.int p2), .val (.int (1 : Int32)), .val (.int b2), .val (.int (1 : Int32)), .val (.int fe), .val (.int nn), .val (.ref arr), .val (.ref en), .val (.ref eA), .val (.ref dA), .val (.ref b4), .val (.int (1 : Int32)), .val (.int (0 : Int32))]) rfl rfl ?_
      refine ow_iload C A29 at_304 rfl rfl ?_
      refine ow_iload C A29 at_306 rfl rfl ?_
      refine ow_icmp_ne C A29 at_308 (by decide) (pcY := 315) (by decide) (pcN := 311) rfl (fun _ => ?_) (fun zq => absurd zq (by decide))
      refine ow_iconst C A29 at_315 (v := 0) rfl rfl ?_
      refine ow_istore C A29 at_316 (Ls' := #[.val (.int va), .val (.int vb), .val (.int vc), .val (.long vx), .second, .val (.int p1), .val (.int p2), .val (.int (1 : Int32)), .val (.int b2), .val (.int (1 : Int32)), .val (.int fe), .val (.int nn), .val (.ref arr), .val (.ref en), .val (.ref eA), .val (.ref dA), .val (.ref b4), .val (.int (0 : Int32)), .val (.int (0 : Int32))]) rfl rfl ?_
      refine ow_iload C A29 at_318 rfl rfl ?_
      refine ow_iconst C A29 at_320 (v := 1) rfl rfl ?_
      refine ow_icmp_le C A29 at_321 (by decide) (pcY := 352) (by decide) (pcN := 324) rfl (fun _ => ?_) (fun zq => absurd zq (by decide))
      have hf0 : fe = 0 := by
        rcases hfe with q | ⟨-, rfl⟩
        · exact q
        · exfalso
          have g1 := own_back dd 4 _ _ _ _ _ e1 (by rw [Nat.add_comm]; exact iF)
          have bv1 := own_bdv 4294967295 p1 own_full hp1
          have rv1 := own_r1v 4294967295 p1 own_full hp1
          have r01 := own_r0v 4294967295 p1
          rw [own_fullv] at rv1 bv1
          omega
      subst hf0
      have f31 := (((Ve.ext E6).keep K18 (ninS ne9 nin0)).keep K29 (ninS ne9 nin0))
      have f32 := ((f17.keep K18 (ninS ne10 nin0)).keep K29 (ninS ne10 nin0))
      exact law_352 hw C A29 va vb vc vx p1 p2 (1 : Int32) b2 (1 : Int32) (0 : Int32) nn arr en eA dA b4 db18 ke kd kb18 dd ys _ ra29 co29 wi29 (0 : Int32) (.val (.int (0 : Int32))) ⟨xE30, xD30, xN30, xP30, xR30, xC30, xW30, xV30, xU30⟩ (f31) (f32) hdl hyl (by omega) (own_DIb _ _ _ _ _ I29) (Or.inl rfl) (Or.inl ⟨rfl, rfl⟩) (One.val rfl)
    · skip
      show OwnWP _ _ _ _ _ _ _ _ _ T29 (mkF m 302 #[.val (.int va), .val (.int vb), .val (.int vc), .val (.long vx), .second, .val (.int p1), .val (.int p2), .val (.int (1 : Int32)), .val (.int b2), .val (.int (1 : Int32)), .val (.int fe), .val (.int nn), .val (.ref arr), .val (.ref en), .val (.ref eA), .val (.ref dA), .val (.ref b4), .val (.int (1 : Int32)), .unset] [(.int (1 : Int32))])
      obtain ⟨xE33, xD33, xN33, xP33, xR33, xC33, xW33, xV33, xU33⟩ := O29
      have rb29 := own_rb1 (4294967295 : Int64) p1 own_full hp1
      have ok29 := own_relE_ok _ _ _ _ _ rl29 rb29
      have hR29 : Rok ra29 := ⟨ok29.1, ok29.2.1⟩
      have e29 : Dich (own_D dd 4) (0 + (own_bd (4294967295 : Int64) p1).toInt) (own_r1 (4294967295 : Int64) p1).toInt 0 := by rw [own_r1v (4294967295 : Int64) p1 own_full hp1]; exact own_bit1 _ _ _ _ _ _ d0 X18 hb29
      have f29 := own_relD dd 4 0 s29 _ _ _ _ e29 rl29
      have su29 := ok29.2.2
      have q029 : Dich (own_D dd (4 + s29)) L29 ra29.toInt s29 := by have q1 := f29; rw [Nat.zero_add] at q1; exact q1
      have X29 : co29.toInt = own_D dd (4 + s29) - L29 := own_exact1 dd co29 wi29 _ _ _ _ s29 I29 q029 rl29 ⟨by omega, by omega⟩
      refine ow_istore C A29 at_302 (Ls' := #[.val (.int va), .val (.int vb), .val (.int vc), .val (.long vx), .second, .val (.int p1), .val (.int p2), .val (.int (1 : Int32)), .val (.int b2), .val (.int (1 : Int32)), .val (.int fe), .val (.int nn), .val (.ref arr), .val (.ref en), .val (.ref eA), .val (.ref dA), .val (.ref b4), .val (.int (1 : Int32)), .val (.int (1 : Int32))]) rfl rfl ?_
      refine ow_iload C A29 at_304 rfl rfl ?_
      refine ow_iload C A29 at_306 rfl rfl ?_
      refine ow_icmp_ne C A29 at_308 (by decide) (pcY := 315) (by decide) (pcN := 311) rfl (fun zq => absurd (by decide) zq) (fun _ => ?_)
      refine ow_iconst C A29 at_311 (v := 1) rfl rfl ?_
      refine ow_goto C A29 at_312 (by decide) (pc' := 316) (by decide) ?_
      refine ow_istore C A29 at_316 (Ls' := #[.val (.int va), .val (.int vb), .val (.int vc), .val (.long vx), .second, .val (.int p1), .val (.int p2), .val (.int (1 : Int32)), .val (.int b2), .val (.int (1 : Int32)), .val (.int fe), .val (.int nn), .val (.ref arr), .val (.ref en), .val (.ref eA), .val (.ref dA), .val (.ref b4), .val (.int (1 : Int32)), .val (.int (1 : Int32))]) rfl rfl ?_
      refine ow_iload C A29 at_318 rfl rfl ?_
      refine ow_iconst C A29 at_320 (v := 1) rfl rfl ?_
      refine ow_icmp_le C A29 at_321 (by decide) (pcY := 352) (by decide) (pcN := 324) rfl (fun _ => ?_) (fun zq => absurd zq (by decide))
      obtain ⟨u1, u2, u3⟩ := own_relE_un _ _ _ _ _ _ _ _ e1 rl29
      subst u1 u2 u3
      have hiff := own_leafC dd ys _ (4 + _) _ _ _ _ _ hF (by omega) rfl I29 (by have q := f29; rw [Nat.zero_add] at q; exact q) hbd
      have f34 := (((Ve.ext E6).keep K18 (ninS ne9 nin0)).keep K29 (ninS ne9 nin0))
      have f35 := ((f17.keep K18 (ninS ne10 nin0)).keep K29 (ninS ne10 nin0))
      exact law_352 hw C A29 va vb vc vx p1 p2 (1 : Int32) b2 (1 : Int32) fe nn arr en eA dA b4 db18 ke kd kb18 dd ys _ ra29 co29 wi29 (1 : Int32) (.val (.int (1 : Int32))) ⟨xE33, xD33, xN33, xP33, xR33, xC33, xW33, xV33, xU33⟩ (f34) (f35) hdl hyl (by omega) (own_DIb _ _ _ _ _ I29) hfe' (Or.inr ⟨rfl, hiff⟩) (One.val rfl)
  · rcases e1 with ⟨rfl, e1⟩ | ⟨rfl, e1⟩
    · rcases e2 with ⟨rfl, e2⟩ | ⟨rfl, e2⟩
      · skip
        refine ow_iload C A18 at_290 rfl rfl ?_
        refine ow_if_le C A18 at_292 (by decide) (pcY := 318) (by decide) (pcN := 295) rfl (fun zq => absurd (by decide) zq) (fun _ => ?_)
        refine ow_aload C A18 at_295 rfl rfl rfl ?_
        refine ow_iload C A18 at_297 rfl rfl ?_
        refine ow_callV C A18 (argsL := [(.int p1)]) xE19 (rm_dd l Z a0 hw b4 db18 kb18 dd (4294967295 : Int64) co18 wi18 4 0 p1 T18.heap ⟨xE19, xD19, xN19, xP19, xR19, xC19, xW19, xV19, xU19⟩ I18 (by omega) (by omega) own_full hp1 []) tw_97 tw_98 (ow_nf hw tw_100) tw_100 tw_99 tw_49 tw_101 (by decide) (allS ows_b4 all0) (by decide) (by decide) (ck' := 6) (sk' := 116) rfl rfl (by decide) (by decide) rfl (lenOf pd_8 rfl) (S := []) rfl (W := 0) (Nat.le_of_eq rfl) at_299 rfl ?_
        intro T36 v36 K36 hQ36 A36
        obtain ⟨ra36, co36, wi36, s36, L36, O36, I36, hv36⟩ := hQ36
        rcases hv36 with ⟨rfl, hb36, rl36⟩ | ⟨rfl, hb36, rl36⟩
        · skip
          show OwnWP _ _ _ _ _ _ _ _ _ T36 (mkF m 302 #[.val (.int va), .val (.int vb), .val (.int vc), .val (.long vx), .second, .val (.int p1), .val (.int p2), .val (.int (0 : Int32)), .val (.int (0 : Int32)), .val (.int (2 : Int32)), .val (.int fe), .val (.int nn), .val (.ref arr), .val (.ref en), .val (.ref eA), .val (.ref dA), .val (.ref b4), .val (.int (1 : Int32)), .unset] [(.int (0 : Int32))])
          obtain ⟨xE37, xD37, xN37, xP37, xR37, xC37, xW37, xV37, xU37⟩ := O36
          have rb36 := own_rb0 (4294967295 : Int64) p1 own_full hp1
          have ok36 := own_relE_ok _ _ _ _ _ rl36 rb36
          have hR36 : Rok ra36 := ⟨ok36.1, ok36.2.1⟩
          have e36 : Dich (own_D dd 4) 0 (own_r0 (4294967295 : Int64) p1).toInt 0 := own_bit0 _ _ _ _ _ _ d0 X18 hb36
          have f36 := own_relD dd 4 0 s36 _ _ _ _ e36 rl36
          have su36 := ok36.2.2
          have q036 : Dich (own_D dd (4 + s36)) L36 ra36.toInt s36 := by have q1 := f36; rw [Nat.zero_add] at q1; exact q1
          have X36 : co36.toInt = own_D dd (4 + s36) - L36 := own_exact1 dd co36 wi36 _ _ _ _ s36 I36 q036 rl36 ⟨by omega, by omega⟩
          refine ow_istore C A36 at_302 (Ls' := #[.val (.int va), .val (.int vb), .val (.int vc), .val (.long vx), .second, .val (.int p1), .val (.int p2), .val (.int (0 : Int32)), .val (.int (0 : Int32)), .val (.int (2 : Int32)), .val (.int fe), .val (.int nn), .val (.ref arr), .val (.ref en), .val (.ref eA), .val (.ref dA), .val (.ref b4), .val (.int (1 : Int32)), .val (.int (0 : Int32))]) rfl rfl ?_
          refine ow_iload C A36 at_304 rfl rfl ?_
          refine ow_iload C A36 at_306 rfl rfl ?_
          refine ow_icmp_ne C A36 at_308 (by decide) (pcY := 315) (by decide) (pcN := 311) rfl (fun zq => absurd (by decide) zq) (fun _ => ?_)
          refine ow_iconst C A36 at_311 (v := 1) rfl rfl ?_
          refine ow_goto C A36 at_312 (by decide) (pc' := 316) (by decide) ?_
          refine ow_istore C A36 at_316 (Ls' := #[.val (.int va), .val (.int vb), .val (.int vc), .val (.long vx), .second, .val (.int p1), .val (.int p2), .val (.int (0 : Int32)), .val (.int (0 : Int32)), .val (.int (2 : Int32)), .val (.int fe), .val (.int nn), .val (.ref arr), .val (.ref en), .val (.ref eA), .val (.ref dA), .val (.ref b4), .val (.int (1 : Int32)), .val (.int (0 : Int32))]) rfl rfl ?_
          refine ow_iload C A36 at_318 rfl rfl ?_
          refine ow_iconst C A36 at_320 (v := 1) rfl rfl ?_
          refine ow_icmp_le C A36 at_321 (by decide) (pcY := 352) (by decide) (pcN := 324) rfl (fun zq => absurd (by decide) zq) (fun _ => ?_)
          refine ow_aload C A36 at_324 rfl rfl rfl ?_
          refine ow_iload C A36 at_326 rfl rfl ?_
          refine ow_callV C A36 (argsL := [(.int p2)]) xE37 (rm_dd l Z a0 hw b4 db18 kb18 dd ra36 co36 wi36 (4 + s36) L36 p2 T36.heap ⟨xE37, xD37, xN37, xP37, xR37, xC37, xW37, xV37, xU37⟩ I36 (by omega) (by omega) hR36 hp2 []) tw_97 tw_98 (ow_nf hw tw_100) tw_100 tw_99 tw_49 tw_101 (by decide) (allS ows_b4 all0) (by decide) (by decide) (ck' := 6) (sk' := 116) rfl rfl (by decide) (by decide) rfl (lenOf pd_8 rfl) (S := []) rfl (W := 0) (Nat.le_of_eq rfl) at_328 rfl ?_
          intro T38 v38 K38 hQ38 A38
          obtain ⟨ra38, co38, wi38, s38, L38, O38, I38, hv38⟩ := hQ38
          rcases hv38 with ⟨rfl, hb38, rl38⟩ | ⟨rfl, hb38, rl38⟩
          · skip
            show OwnWP _ _ _ _ _ _ _ _ _ T38 (mkF m 331 #[.val (.int va), .val (.int vb), .val (.int vc), .val (.long vx), .second, .val (.int p1), .val (.int p2), .val (.int (0 : Int32)), .val (.int (0 : Int32)), .val (.int (2 : Int32)), .val (.int fe), .val (.int nn), .val (.ref arr), .val (.ref en), .val (.ref eA), .val (.ref dA), .val (.ref b4), .val (.int (1 : Int32)), .val (.int (0 : Int32))] [(.int (0 : Int32))])
            obtain ⟨xE39, xD39, xN39, xP39, xR39, xC39, xW39, xV39, xU39⟩ := O38
            have rb38 := own_rb0 ra36 p2 hR36 hp2
            have ok38 := own_relE_ok _ _ _ _ _ rl38 rb38
            have hR38 : Rok ra38 := ⟨ok38.1, ok38.2.1⟩
            have e38 : Dich (own_D dd (4 + s36)) L36 (own_r0 ra36 p2).toInt (0 + s36) := own_bit0 _ _ _ _ _ _ f36 X36 hb38
            have f38 := own_relD dd (4 + s36) (0 + s36) s38 _ _ _ _ e38 rl38
            have su38 := ok38.2.2
            refine ow_istore C A38 at_331 (Ls' := #[.val (.int va), .val (.int vb), .val (.int vc), .val (.long vx), .second, .val (.int p1), .val (.int p2), .val (.int (0 : Int32)), .val (.int (0 : Int32)), .val (.int (2 : Int32)), .val (.int fe), .val (.int nn), .val (.ref arr), .val (.ref en), .val (.ref eA), .val (.ref dA), .val (.ref b4), .val (.int (1 : Int32)), .val (.int (0 : Int32))]) rfl rfl ?_
            refine ow_iload C A38 at_333 rfl rfl ?_
            refine ow_if_eq C A38 at_335 (by decide) (pcY := 349) (by decide) (pcN := 338) rfl (fun zq => absurd zq (by decide)) (fun _ => ?_)
            refine ow_iload C A38 at_338 rfl rfl ?_
            refine ow_iload C A38 at_340 rfl rfl ?_
            refine ow_icmp_ne C A38 at_342 (by decide) (pcY := 349) (by decide) (pcN := 345) rfl (fun zq => absurd (by decide) zq) (fun _ => ?_)
            refine ow_iconst C A38 at_345 (v := 1) rfl rfl ?_
            refine ow_goto C A38 at_346 (by decide) (pc' := 350) (by decide) ?_
            refine ow_istore C A38 at_350 (Ls' := #[.val (.int va), .val (.int vb), .val (.int vc), .val (.long vx), .second, .val (.int p1), .val (.int p2), .val (.int (0 : Int32)), .val (.int (0 : Int32)), .val (.int (2 : Int32)), .val (.int fe), .val (.int nn), .val (.ref arr), .val (.ref en), .val (.ref eA), .val (.ref dA), .val (.ref b4), .val (.int (1 : Int32)), .val (.int (0 : Int32))]) rfl rfl ?_
            obtain ⟨u1, u2, u3⟩ := own_relE_un _ _ _ _ _ _ _ _ e1 rl36
            obtain rfl : ra1 = ra36 := own_eq64 u1
            subst u2 u3
            obtain ⟨v1, v2, v3⟩ := own_relE_un _ _ _ _ _ _ _ _ e2 rl38
            subst v1 v2 v3
            have hiff := own_leafC dd ys _ (4 + _ + _) _ _ _ _ _ hF (by omega) rfl I38 (by have q := f38; rw [Nat.zero_add] at q; exact q) hbd
            have f40 := ((((Ve.ext E6).keep K18 (ninS ne9 nin0)).keep K36 (ninS ne9 nin0)).keep K38 (ninS ne9 nin0))
            have f41 := (((f17.keep K18 (ninS ne10 nin0)).keep K36 (ninS ne10 nin0)).keep K38 (ninS ne10 nin0))
            exact law_352 hw C A38 va vb vc vx p1 p2 (0 : Int32) (0 : Int32) (2 : Int32) fe nn arr en eA dA b4 db18 ke kd kb18 dd ys _ ra38 co38 wi38 (1 : Int32) (.val (.int (0 : Int32))) ⟨xE39, xD39, xN39, xP39, xR39, xC39, xW39, xV39, xU39⟩ (f40) (f41) hdl hyl (by omega) (own_DIb _ _ _ _ _ I38) hfe' (Or.inr ⟨rfl, hiff⟩) (One.val rfl)
          · skip
            show OwnWP _ _ _ _ _ _ _ _ _ T38 (mkF m 331 #[.val (.int va), .val (.int vb), .val (.int vc), .val (.long vx), .second, .val (.int p1), .val (.int p2), .val (.int (0 : Int32)), .val (.int (0 : Int32)), .val (.int (2 : Int32)), .val (.int fe), .val (.int nn), .val (.ref arr), .val (.ref en), .val (.ref eA), .val (.ref dA), .val (.ref b4), .val (.int (1 : Int32)), .val (.int (0 : Int32))] [(.int (1 : Int32))])
            obtain ⟨xE42, xD42, xN42, xP42, xR42, xC42, xW42, xV42, xU42⟩ := O38
            have rb38 := own_rb1 ra36 p2 hR36 hp2
            have ok38 := own_relE_ok _ _ _ _ _ rl38 rb38
            have hR38 : Rok ra38 := ⟨ok38.1, ok38.2.1⟩
            have e38 : Dich (own_D dd (4 + s36)) (L36 + (own_bd ra36 p2).toInt) (own_r1 ra36 p2).toInt (0 + s36) := by rw [own_r1v ra36 p2 hR36 hp2]; exact own_bit1 _ _ _ _ _ _ f36 X36 hb38
            have f38 := own_relD dd (4 + s36) (0 + s36) s38 _ _ _ _ e38 rl38
            have su38 := ok38.2.2
            refine ow_istore C A38 at_331 (Ls' := #[.val (.int va), .val (.int vb), .val (.int vc), .val (.long vx), .second, .val (.int p1), .val (.int p2), .val (.int (0 : Int32)), .val (.int (0 : Int32)), .val (.int (2 : Int32)), .val (.int fe), .val (.int nn), .val (.ref arr), .val (.ref en), .val (.ref eA), .val (.ref dA), .val (.ref b4), .val (.int (1 : Int32)), .val (.int (1 : Int32))]) rfl rfl ?_
            refine ow_iload C A38 at_333 rfl rfl ?_
            refine ow_if_eq C A38 at_335 (by decide) (pcY := 349) (by decide) (pcN := 338) rfl (fun zq => absurd zq (by decide)) (fun _ => ?_)
            refine ow_iload C A38 at_338 rfl rfl ?_
            refine ow_iload C A38 at_340 rfl rfl ?_
            refine ow_icmp_ne C A38 at_342 (by decide) (pcY := 349) (by decide) (pcN := 345) rfl (fun _ => ?_) (fun zq => absurd zq (by decide))
            refine ow_iconst C A38 at_349 (v := 0) rfl rfl ?_
            refine ow_istore C A38 at_350 (Ls' := #[.val (.int va), .val (.int vb), .val (.int vc), .val (.long vx), .second, .val (.int p1), .val (.int p2), .val (.int (0 : Int32)), .val (.int (0 : Int32)), .val (.int (2 : Int32)), .val (.int fe), .val (.int nn), .val (.ref arr), .val (.ref en), .val (.ref eA), .val (.ref dA), .val (.ref b4), .val (.int (0 : Int32)), .val (.int (1 : Int32))]) rfl rfl ?_
            have hf0 : fe = 0 := by
              rcases hfe with q | ⟨-, rfl⟩
              · exact q
              · exfalso
                have g2 := own_back dd (4 + s1) _ _ _ _ _ e2 (by rw [show 4 + s1 + s2 = s1 + s2 + 4 from by omega]; exact iF)
                have rk : Rok ra1 := by have q := own_relE_ok _ _ _ _ _ e1 (own_rb0 _ _ own_full hp1); exact ⟨q.1, q.2.1⟩
                have bv := own_bdv ra1 p2 rk hp2
                have rv := own_r1v ra1 p2 rk hp2
                have r0 := own_r0v ra1 p2
                have g1 := own_back dd 4 _ _ _ _ _ e1 ⟨by omega, by unfold Rok at rk; omega⟩
                have bv1 := own_bdv 4294967295 p1 own_full hp1
                have rv1 := own_r1v 4294967295 p1 own_full hp1
                have r01 := own_r0v 4294967295 p1
                rw [own_fullv] at rv1 bv1
                obtain ⟨u1, u2, u3⟩ := own_relE_un _ _ _ _ _ _ _ _ e1 rl36
                obtain rfl : ra1 = ra36 := own_eq64 u1
                subst u2 u3
                omega
            subst hf0
            have f43 := ((((Ve.ext E6).keep K18 (ninS ne9 nin0)).keep K36 (ninS ne9 nin0)).keep K38 (ninS ne9 nin0))
            have f44 := (((f17.keep K18 (ninS ne10 nin0)).keep K36 (ninS ne10 nin0)).keep K38 (ninS ne10 nin0))
            exact law_352 hw C A38 va vb vc vx p1 p2 (0 : Int32) (0 : Int32) (2 : Int32) (0 : Int32) nn arr en eA dA b4 db18 ke kd kb18 dd ys _ ra38 co38 wi38 (0 : Int32) (.val (.int (1 : Int32))) ⟨xE42, xD42, xN42, xP42, xR42, xC42, xW42, xV42, xU42⟩ (f43) (f44) hdl hyl (by omega) (own_DIb _ _ _ _ _ I38) (Or.inl rfl) (Or.inl ⟨rfl, rfl⟩) (One.val rfl)
        · skip
          show OwnWP _ _ _ _ _ _ _ _ _ T36 (mkF m 302 #[.val (.int va), .val (.int vb), .val (.int vc), .val (.long vx), .second, .val (.int p1), .val (.int p2), .val (.int (0 : Int32)), .val (.int (0 : Int32)), .val (.int (2 : Int32)), .val (.int fe), .val (.int nn), .val (.ref arr), .val (.ref en), .val (.ref eA), .val (.ref dA), .val (.ref b4), .val (.int (1 : Int32)), .unset] [(.int (1 : Int32))])
          obtain ⟨xE45, xD45, xN45, xP45, xR45, xC45, xW45, xV45, xU45⟩ := O36
          have rb36 := own_rb1 (4294967295 : Int64) p1 own_full hp1
          have ok36 := own_relE_ok _ _ _ _ _ rl36 rb36
          have hR36 : Rok ra36 := ⟨ok36.1, ok36.2.1⟩
          have e36 : Dich (own_D dd 4) (0 + (own_bd (4294967295 : Int64) p1).toInt) (own_r1 (4294967295 : Int64) p1).toInt 0 := by rw [own_r1v (4294967295 : Int64) p1 own_full hp1]; exact own_bit1 _ _ _ _ _ _ d0 X18 hb36
          have f36 := own_relD dd 4 0 s36 _ _ _ _ e36 rl36
          have su36 := ok36.2.2
          have q036 : Dich (own_D dd (4 + s36)) L36 ra36.toInt s36 := by have q1 := f36; rw [Nat.zero_add] at q1; exact q1
          have X36 : co36.toInt = own_D dd (4 + s36) - L36 := own_exact1 dd co36 wi36 _ _ _ _ s36 I36 q036 rl36 ⟨by omega, by omega⟩
          refine ow_istore C A36 at_302 (Ls' := #[.val (.int va), .val (.int vb), .val (.int vc), .val (.long vx), .second, .val (.int p1), .val (.int p2), .val (.int (0 : Int32)), .val (.int (0 : Int32)), .val (.int (2 : Int32)), .val (.int fe), .val (.int nn), .val (.ref arr), .val (.ref en), .val (.ref eA), .val (.ref dA), .val (.ref b4), .val (.int (1 : Int32)), .val (.int (1 : Int32))]) rfl rfl ?_
          refine ow_iload C A36 at_304 rfl rfl ?_
          refine ow_iload C A36 at_306 rfl rfl ?_
          refine ow_icmp_ne C A36 at_308 (by decide) (pcY := 315) (by decide) (pcN := 311) rfl (fun _ => ?_) (fun zq => absurd zq (by decide))
          refine ow_iconst C A36 at_315 (v := 0) rfl rfl ?_
          refine ow_istore C A36 at_316 (Ls' := #[.val (.int va), .val (.int vb), .val (.int vc), .val (.long vx), .second, .val (.int p1), .val (.int p2), .val (.int (0 : Int32)), .val (.int (0 : Int32)), .val (.int (2 : Int32)), .val (.int fe), .val (.int nn), .val (.ref arr), .val (.ref en), .val (.ref eA), .val (.ref dA), .val (.ref b4), .val (.int (0 : Int32)), .val (.int (1 : Int32))]) rfl rfl ?_
          refine ow_iload C A36 at_318 rfl rfl ?_
          refine ow_iconst C A36 at_320 (v := 1) rfl rfl ?_
          refine ow_icmp_le C A36 at_321 (by decide) (pcY := 352) (by decide) (pcN := 324) rfl (fun zq => absurd (by decide) zq) (fun _ => ?_)
          refine ow_aload C A36 at_324 rfl rfl rfl ?_
          refine ow_iload C A36 at_326 rfl rfl ?_
          refine ow_callV C A36 (argsL := [(.int p2)]) xE45 (rm_dd l Z a0 hw b4 db18 kb18 dd ra36 co36 wi36 (4 + s36) L36 p2 T36.heap ⟨xE45, xD45, xN45, xP45, xR45, xC45, xW45, xV45, xU45⟩ I36 (by omega) (by omega) hR36 hp2 []) tw_97 tw_98 (ow_nf hw tw_100) tw_100 tw_99 tw_49 tw_101 (by decide) (allS ows_b4 all0) (by decide) (by decide) (ck' := 6) (sk' := 116) rfl rfl (by decide) (by decide) rfl (lenOf pd_8 rfl) (S := []) rfl (W := 0) (Nat.le_of_eq rfl) at_328 rfl ?_
          intro T46 v46 K46 hQ46 A46
          obtain ⟨ra46, co46, wi46, s46, L46, O46, I46, hv46⟩ := hQ46
          rcases hv46 with ⟨rfl, hb46, rl46⟩ | ⟨rfl, hb46, rl46⟩
          · skip
            show OwnWP _ _ _ _ _ _ _ _ _ T46 (mkF m 331 #[.val (.int va), .val (.int vb), .val (.int vc), .val (.long vx), .second, .val (.int p1), .val (.int p2), .val (.int (0 : Int32)), .val (.int (0 : Int32)), .val (.int (2 : Int32)), .val (.int fe), .val (.int nn), .val (.ref arr), .val (.ref en), .val (.ref eA), .val (.ref dA), .val (.ref b4), .val (.int (0 : Int32)), .val (.int (1 : Int32))] [(.int (0 : Int32))])
            obtain ⟨xE47, xD47, xN47, xP47, xR47, xC47, xW47, xV47, xU47⟩ := O46
            have rb46 := own_rb0 ra36 p2 hR36 hp2
            have ok46 := own_relE_ok _ _ _ _ _ rl46 rb46
            have hR46 : Rok ra46 := ⟨ok46.1, ok46.2.1⟩
            have e46 : Dich (own_D dd (4 + s36)) L36 (own_r0 ra36 p2).toInt (0 + s36) := own_bit0 _ _ _ _ _ _ f36 X36 hb46
            have f46 := own_relD dd (4 + s36) (0 + s36) s46 _ _ _ _ e46 rl46
            have su46 := ok46.2.2
            refine ow_istore C A46 at_331 (Ls' := #[.val (.int va), .val (.int vb), .val (.int vc), .val (.long vx), .second, .val (.int p1), .val (.int p2), .val (.int (0 : Int32)), .val (.int (0 : Int32)), .val (.int (2 : Int32)), .val (.int fe), .val (.int nn), .val (.ref arr), .val (.ref en), .val (.ref eA), .val (.ref dA), .val (.ref b4), .val (.int (0 : Int32)), .val (.int (0 : Int32))]) rfl rfl ?_
            refine ow_iload C A46 at_333 rfl rfl ?_
            refine ow_if_eq C A46 at_335 (by decide) (pcY := 349) (by decide) (pcN := 338) rfl (fun _ => ?_) (fun zq => absurd (by decide) zq)
            refine ow_iconst C A46 at_349 (v := 0) rfl rfl ?_
            refine ow_istore C A46 at_350 (Ls' := #[.val (.int va), .val (.int vb), .val (.int vc), .val (.long vx), .second, .val (.int p1), .val (.int p2), .val (.int (0 : Int32)), .val (.int (0 : Int32)), .val (.int (2 : Int32)), .val (.int fe), .val (.int nn), .val (.ref arr), .val (.ref en), .val (.ref eA), .val (.ref dA), .val (.ref b4), .val (.int (0 : Int32)), .val (.int (0 : Int32))]) rfl rfl ?_
            have hf0 : fe = 0 := by
              rcases hfe with q | ⟨-, rfl⟩
              · exact q
              · exfalso
                have g2 := own_back dd (4 + s1) _ _ _ _ _ e2 (by rw [show 4 + s1 + s2 = s1 + s2 + 4 from by omega]; exact iF)
                have rk : Rok ra1 := by have q := own_relE_ok _ _ _ _ _ e1 (own_rb0 _ _ own_full hp1); exact ⟨q.1, q.2.1⟩
                have bv := own_bdv ra1 p2 rk hp2
                have rv := own_r1v ra1 p2 rk hp2
                have r0 := own_r0v ra1 p2
                have g1 := own_back dd 4 _ _ _ _ _ e1 ⟨by omega, by unfold Rok at rk; omega⟩
                have bv1 := own_bdv 4294967295 p1 own_full hp1
                have rv1 := own_r1v 4294967295 p1 own_full hp1
                have r01 := own_r0v 4294967295 p1
                rw [own_fullv] at rv1 bv1
                omega
            subst hf0
            have f48 := ((((Ve.ext E6).keep K18 (ninS ne9 nin0)).keep K36 (ninS ne9 nin0)).keep K46 (ninS ne9 nin0))
            have f49 := (((f17.keep K18 (ninS ne10 nin0)).keep K36 (ninS ne10 nin0)).keep K46 (ninS ne10 nin0))
            exact law_352 hw C A46 va vb vc vx p1 p2 (0 : Int32) (0 : Int32) (2 : Int32) (0 : Int32) nn arr en eA dA b4 db18 ke kd kb18 dd ys _ ra46 co46 wi46 (0 : Int32) (.val (.int (0 : Int32))) ⟨xE47, xD47, xN47, xP47, xR47, xC47, xW47, xV47, xU47⟩ (f48) (f49) hdl hyl (by omega) (own_DIb _ _ _ _ _ I46) (Or.inl rfl) (Or.inl ⟨rfl, rfl⟩) (One.val rfl)
          · skip
            show OwnWP _ _ _ _ _ _ _ _ _ T46 (mkF m 331 #[.val (.int va), .val (.int vb), .val (.int vc), .val (.long vx), .second, .val (.int p1), .val (.int p2), .val (.int (0 : Int32)), .val (.int (0 : Int32)), .val (.int (2 : Int32)), .val (.int fe), .val (.int nn), .val (.ref arr), .val (.ref en), .val (.ref eA), .val (.ref dA), .val (.ref b4), .val (.int (0 : Int32)), .val (.int (1 : Int32))] [(.int (1 : Int32))])
            obtain ⟨xE50, xD50, xN50, xP50, xR50, xC50, xW50, xV50, xU50⟩ := O46
            have rb46 := own_rb1 ra36 p2 hR36 hp2
            have ok46 := own_relE_ok _ _ _ _ _ rl46 rb46
            have hR46 : Rok ra46 := ⟨ok46.1, ok46.2.1⟩
            have e46 : Dich (own_D dd (4 + s36)) (L36 + (own_bd ra36 p2).toInt) (own_r1 ra36 p2).toInt (0 + s36) := by rw [own_r1v ra36 p2 hR36 hp2]; exact own_bit1 _ _ _ _ _ _ f36 X36 hb46
            have f46 := own_relD dd (4 + s36) (0 + s36) s46 _ _ _ _ e46 rl46
            have su46 := ok46.2.2
            refine ow_istore C A46 at_331 (Ls' := #[.val (.int va), .val (.int vb), .val (.int vc), .val (.long vx), .second, .val (.int p1), .val (.int p2), .val (.int (0 : Int32)), .val (.int (0 : Int32)), .val (.int (2 : Int32)), .val (.int fe), .val (.int nn), .val (.ref arr), .val (.ref en), .val (.ref eA), .val (.ref dA), .val (.ref b4), .val (.int (0 : Int32)), .val (.int (1 : Int32))]) rfl rfl ?_
            refine ow_iload C A46 at_333 rfl rfl ?_
            refine ow_if_eq C A46 at_335 (by decide) (pcY := 349) (by decide) (pcN := 338) rfl (fun _ => ?_) (fun zq => absurd (by decide) zq)
            refine ow_iconst C A46 at_349 (v := 0) rfl rfl ?_
            refine ow_istore C A46 at_350 (Ls' := #[.val (.int va), .val (.int vb), .val (.int vc), .val (.long vx), .second, .val (.int p1), .val (.int p2), .val (.int (0 : Int32)), .val (.int (0 : Int32)), .val (.int (2 : Int32)), .val (.int fe), .val (.int nn), .val (.ref arr), .val (.ref en), .val (.ref eA), .val (.ref dA), .val (.ref b4), .val (.int (0 : Int32)), .val (.int (1 : Int32))]) rfl rfl ?_
            have hf0 : fe = 0 := by
              rcases hfe with q | ⟨-, rfl⟩
              · exact q
              · exfalso
                have g2 := own_back dd (4 + s1) _ _ _ _ _ e2 (by rw [show 4 + s1 + s2 = s1 + s2 + 4 from by omega]; exact iF)
                have rk : Rok ra1 := by have q := own_relE_ok _ _ _ _ _ e1 (own_rb0 _ _ own_full hp1); exact ⟨q.1, q.2.1⟩
                have bv := own_bdv ra1 p2 rk hp2
                have rv := own_r1v ra1 p2 rk hp2
                have r0 := own_r0v ra1 p2
                have g1 := own_back dd 4 _ _ _ _ _ e1 ⟨by omega, by unfold Rok at rk; omega⟩
                have bv1 := own_bdv 4294967295 p1 own_full hp1
                have rv1 := own_r1v 4294967295 p1 own_full hp1
                have r01 := own_r0v 4294967295 p1
                rw [own_fullv] at rv1 bv1
                omega
            subst hf0
            have f51 := ((((Ve.ext E6).keep K18 (ninS ne9 nin0)).keep K36 (ninS ne9 nin0)).keep K46 (ninS ne9 nin0))
            have f52 := (((f17.keep K18 (ninS ne10 nin0)).keep K36 (ninS ne10 nin0)).keep K46 (ninS ne10 nin0))
            exact law_352 hw C A46 va vb vc vx p1 p2 (0 : Int32) (0 : Int32) (2 : Int32) (0 : Int32) nn arr en eA dA b4 db18 ke kd kb18 dd ys _ ra46 co46 wi46 (0 : Int32) (.val (.int (1 : Int32))) ⟨xE50, xD50, xN50, xP50, xR50, xC50, xW50, xV50, xU50⟩ (f51) (f52) hdl hyl (by omega) (own_DIb _ _ _ _ _ I46) (Or.inl rfl) (Or.inl ⟨rfl, rfl⟩) (One.val rfl)
      · skip
        refine ow_iload C A18 at_290 rfl rfl ?_
        refine ow_if_le C A18 at_292 (by decide) (pcY := 318) (by decide) (pcN := 295) rfl (fun zq => absurd (by decide) zq) (fun _ => ?_)
        refine ow_aload C A18 at_295 rfl rfl rfl ?_
        refine ow_iload C A18 at_297 rfl rfl ?_
        refine ow_callV C A18 (argsL := [(.int p1)]) xE19 (rm_dd l Z a0 hw b4 db18 kb18 dd (4294967295 : Int64) co18 wi18 4 0 p1 T18.heap ⟨xE19, xD19, xN19, xP19, xR19, xC19, xW19, xV19, xU19⟩ I18 (by omega) (by omega) own_full hp1 []) tw_97 tw_98 (ow_nf hw tw_100) tw_100 tw_99 tw_49 tw_101 (by decide) (allS ows_b4 all0) (by decide) (by decide) (ck' := 6) (sk' := 116) rfl rfl (by decide) (by decide) rfl (lenOf pd_8 rfl) (S := []) rfl (W := 0) (Nat.le_of_eq rfl) at_299 rfl ?_
        intro T53 v53 K53 hQ53 A53
        obtain ⟨ra53, co53, wi53, s53, L53, O53, I53, hv53⟩ := hQ53
        rcases hv53 with ⟨rfl, hb53, rl53⟩ | ⟨rfl, hb53, rl53⟩
        · skip
          show OwnWP _ _ _ _ _ _ _ _ _ T53 (mkF m 302 #[.val (.int va), .val (.int vb), .val (.int vc), .val (.long vx), .second, .val (.int p1), .val (.int p2), .val (.int (0 : Int32)), .val (.int (1 : Int32)), .val (.int (2 : Int32)), .val (.int fe), .val (.int nn), .val (.ref arr), .val (.ref en), .val (.ref eA), .val (.ref dA), .val (.ref b4), .val (.int (1 : Int32)), .unset] [(.int (0 : Int32))])
          obtain ⟨xE54, xD54, xN54, xP54, xR54, xC54, xW54, xV54, xU54⟩ := O53
          have rb53 := own_rb0 (4294967295 : Int64) p1 own_full hp1
          have ok53 := own_relE_ok _ _ _ _ _ rl53 rb53
          have hR53 : Rok ra53 := ⟨ok53.1, ok53.2.1⟩
          have e53 : Dich (own_D dd 4) 0 (own_r0 (4294967295 : Int64) p1).toInt 0 := own_bit0 _ _ _ _ _ _ d0 X18 hb53
          have f53 := own_relD dd 4 0 s53 _ _ _ _ e53 rl53
          have su53 := ok53.2.2
          have q053 : Dich (own_D dd (4 + s53)) L53 ra53.toInt s53 := by have q1 := f53; rw [Nat.zero_add] at q1; exact q1
          have X53 : co53.toInt = own_D dd (4 + s53) - L53 := own_exact1 dd co53 wi53 _ _ _ _ s53 I53 q053 rl53 ⟨by omega, by omega⟩
          refine ow_istore C A53 at_302 (Ls' := #[.val (.int va), .val (.int vb), .val (.int vc), .val (.long vx), .second, .val (.int p1), .val (.int p2), .val (.int (0 : Int32)), .val (.int (1 : Int32)), .val (.int (2 : Int32)), .val (.int fe), .val (.int nn), .val (.ref arr), .val (.ref en), .val (.ref eA), .val (.ref dA), .val (.ref b4), .val (.int (1 : Int32)), .val (.int (0 : Int32))]) rfl rfl ?_
          refine ow_iload C A53 at_304 rfl rfl ?_
          refine ow_iload C A53 at_306 rfl rfl ?_
          refine ow_icmp_ne C A53 at_308 (by decide) (pcY := 315) (by decide) (pcN := 311) rfl (fun zq => absurd (by decide) zq) (fun _ => ?_)
          refine ow_iconst C A53 at_311 (v := 1) rfl rfl ?_
          refine ow_goto C A53 at_312 (by decide) (pc' := 316) (by decide) ?_
          refine ow_istore C A53 at_316 (Ls' := #[.val (.int va), .val (.int vb), .val (.int vc), .val (.long vx), .second, .val (.int p1), .val (.int p2), .val (.int (0 : Int32)), .val (.int (1 : Int32)), .val (.int (2 : Int32)), .val (.int fe), .val (.int nn), .val (.ref arr), .val (.ref en), .val (.ref eA), .val (.ref dA), .val (.ref b4), .val (.int (1 : Int32)), .val (.int (0 : Int32))]) rfl rfl ?_
          refine ow_iload C A53 at_318 rfl rfl ?_
          refine ow_iconst C A53 at_320 (v := 1) rfl rfl ?_
          refine ow_icmp_le C A53 at_321 (by decide) (pcY := 352) (by decide) (pcN := 324) rfl (fun zq => absurd (by decide) zq) (fun _ => ?_)
          refine ow_aload C A53 at_324 rfl rfl rfl ?_
          refine ow_iload C A53 at_326 rfl rfl ?_
          refine ow_callV C A53 (argsL := [(.int p2)]) xE54 (rm_dd l Z a0 hw b4 db18 kb18 dd ra53 co53 wi53 (4 + s53) L53 p2 T53.heap ⟨xE54, xD54, xN54, xP54, xR54, xC54, xW54, xV54, xU54⟩ I53 (by omega) (by omega) hR53 hp2 []) tw_97 tw_98 (ow_nf hw tw_100) tw_100 tw_99 tw_49 tw_101 (by decide) (allS ows_b4 all0) (by decide) (by decide) (ck' := 6) (sk' := 116) rfl rfl (by decide) (by decide) rfl (lenOf pd_8 rfl) (S := []) rfl (W := 0) (Nat.le_of_eq rfl) at_328 rfl ?_
          intro T55 v55 K55 hQ55 A55
          obtain ⟨ra55, co55, wi55, s55, L55, O55, I55, hv55⟩ := hQ55
          rcases hv55 with ⟨rfl, hb55, rl55⟩ | ⟨rfl, hb55, rl55⟩
          · skip
            show OwnWP _ _ _ _ _ _ _ _ _ T55 (mkF m 331 #[.val (.int va), .val (.int vb), .val (.int vc), .val (.long vx), .second, .val (.int p1), .val (.int p2), .val (.int (0 : Int32)), .val (.int (1 : Int32)), .val (.int (2 : Int32)), .val (.int fe), .val (.int nn), .val (.ref arr), .val (.ref en), .val (.ref eA), .val (.ref dA), .val (.ref b4), .val (.int (1 : Int32)), .val (.int (0 : Int32))] [(.int (0 : Int32))])
            obtain ⟨xE56, xD56, xN56, xP56, xR56, xC56, xW56, xV56, xU56⟩ := O55
            have rb55 := own_rb0 ra53 p2 hR53 hp2
            have ok55 := own_relE_ok _ _ _ _ _ rl55 rb55
            have hR55 : Rok ra55 := ⟨ok55.1, ok55.2.1⟩
            have e55 : Dich (own_D dd (4 + s53)) L53 (own_r0 ra53 p2).toInt (0 + s53) := own_bit0 _ _ _ _ _ _ f53 X53 hb55
            have f55 := own_relD dd (4 + s53) (0 + s53) s55 _ _ _ _ e55 rl55
            have su55 := ok55.2.2
            refine ow_istore C A55 at_331 (Ls' := #[.val (.int va), .val (.int vb), .val (.int vc), .val (.long vx), .second, .val (.int p1), .val (.int p2), .val (.int (0 : Int32)), .val (.int (1 : Int32)), .val (.int (2 : Int32)), .val (.int fe), .val (.int nn), .val (.ref arr), .val (.ref en), .val (.ref eA), .val (.ref dA), .val (.ref b4), .val (.int (1 : Int32)), .val (.int (0 : Int32))]) rfl rfl ?_
            refine ow_iload C A55 at_333 rfl rfl ?_
            refine ow_if_eq C A55 at_335 (by decide) (pcY := 349) (by decide) (pcN := 338) rfl (fun zq => absurd zq (by decide)) (fun _ => ?_)
            refine ow_iload C A55 at_338 rfl rfl ?_
            refine ow_iload C A55 at_340 rfl rfl ?_
            refine ow_icmp_ne C A55 at_342 (by decide) (pcY := 349) (by decide) (pcN := 345) rfl (fun _ => ?_) (fun zq => absurd zq (by decide))
            refine ow_iconst C A55 at_349 (v := 0) rfl rfl ?_
            refine ow_istore C A55 at_350 (Ls' := #[.val (.int va), .val (.int vb), .val (.int vc), .val (.long vx), .second, .val (.int p1), .val (.int p2), .val (.int (0 : Int32)), .val (.int (1 : Int32)), .val (.int (2 : Int32)), .val (.int fe), .val (.int nn), .val (.ref arr), .val (.ref en), .val (.ref eA), .val (.ref dA), .val (.ref b4), .val (.int (0 : Int32)), .val (.int (0 : Int32))]) rfl rfl ?_
            have hf0 : fe = 0 := by
              rcases hfe with q | ⟨-, rfl⟩
              · exact q
              · exfalso
                have g2 := own_back dd (4 + s1) _ _ _ _ _ e2 (by rw [show 4 + s1 + s2 = s1 + s2 + 4 from by omega]; exact iF)
                have rk : Rok ra1 := by have q := own_relE_ok _ _ _ _ _ e1 (own_rb0 _ _ own_full hp1); exact ⟨q.1, q.2.1⟩
                have bv := own_bdv ra1 p2 rk hp2
                have rv := own_r1v ra1 p2 rk hp2
                have r0 := own_r0v ra1 p2
                have g1 := own_back dd 4 _ _ _ _ _ e1 ⟨by omega, by unfold Rok at rk; omega⟩
                have bv1 := own_bdv 4294967295 p1 own_full hp1
                have rv1 := own_r1v 4294967295 p1 own_full hp1
                have r01 := own_r0v 4294967295 p1
                rw [own_fullv] at rv1 bv1
                obtain ⟨u1, u2, u3⟩ := own_relE_un _ _ _ _ _ _ _ _ e1 rl53
                obtain rfl : ra1 = ra53 := own_eq64 u1
                subst u2 u3
                omega
            subst hf0
            have f57 := ((((Ve.ext E6).keep K18 (ninS ne9 nin0)).keep K53 (ninS ne9 nin0)).keep K55 (ninS ne9 nin0))
            have f58 := (((f17.keep K18 (ninS ne10 nin0)).keep K53 (ninS ne10 nin0)).keep K55 (ninS ne10 nin0))
            exact law_352 hw C A55 va vb vc vx p1 p2 (0 : Int32) (1 : Int32) (2 : Int32) (0 : Int32) nn arr en eA dA b4 db18 ke kd kb18 dd ys _ ra55 co55 wi55 (0 : Int32) (.val (.int (0 : Int32))) ⟨xE56, xD56, xN56, xP56, xR56, xC56, xW56, xV56, xU56⟩ (f57) (f58) hdl hyl (by omega) (own_DIb _ _ _ _ _ I55) (Or.inl rfl) (Or.inl ⟨rfl, rfl⟩) (One.val rfl)
          · skip
            show OwnWP _ _ _ _ _ _ _ _ _ T55 (mkF m 331 #[.val (.int va), .val (.int vb), .val (.int vc), .val (.long vx), .second, .val (.int p1), .val (.int p2), .val (.int (0 : Int32)), .val (.int (1 : Int32)), .val (.int (2 : Int32)), .val (.int fe), .val (.int nn), .val (.ref arr), .val (.ref en), .val (.ref eA), .val (.ref dA), .val (.ref b4), .val (.int (1 : Int32)), .val (.int (0 : Int32))] [(.int (1 : Int32))])
            obtain ⟨xE59, xD59, xN59, xP59, xR59, xC59, xW59, xV59, xU59⟩ := O55
            have rb55 := own_rb1 ra53 p2 hR53 hp2
            have ok55 := own_relE_ok _ _ _ _ _ rl55 rb55
            have hR55 : Rok ra55 := ⟨ok55.1, ok55.2.1⟩
            have e55 : Dich (own_D dd (4 + s53)) (L53 + (own_bd ra53 p2).toInt) (own_r1 ra53 p2).toInt (0 + s53) := by rw [own_r1v ra53 p2 hR53 hp2]; exact own_bit1 _ _ _ _ _ _ f53 X53 hb55
            have f55 := own_relD dd (4 + s53) (0 + s53) s55 _ _ _ _ e55 rl55
            have su55 := ok55.2.2
            refine ow_istore C A55 at_331 (Ls' := #[.val (.int va), .val (.int vb), .val (.int vc), .val (.long vx), .second, .val (.int p1), .val (.int p2), .val (.int (0 : Int32)), .val (.int (1 : Int32)), .val (.int (2 : Int32)), .val (.int fe), .val (.int nn), .val (.ref arr), .val (.ref en), .val (.ref eA), .val (.ref dA), .val (.ref b4), .val (.int (1 : Int32)), .val (.int (1 : Int32))]) rfl rfl ?_
            refine ow_iload C A55 at_333 rfl rfl ?_
            refine ow_if_eq C A55 at_335 (by decide) (pcY := 349) (by decide) (pcN := 338) rfl (fun zq => absurd zq (by decide)) (fun _ => ?_)
            refine ow_iload C A55 at_338 rfl rfl ?_
            refine ow_iload C A55 at_340 rfl rfl ?_
            refine ow_icmp_ne C A55 at_342 (by decide) (pcY := 349) (by decide) (pcN := 345) rfl (fun zq => absurd (by decide) zq) (fun _ => ?_)
            refine ow_iconst C A55 at_345 (v := 1) rfl rfl ?_
            refine ow_goto C A55 at_346 (by decide) (pc' := 350) (by decide) ?_
            refine ow_istore C A55 at_350 (Ls' := #[.val (.int va), .val (.int vb), .val (.int vc), .val (.long vx), .second, .val (.int p1), .val (.int p2), .val (.int (0 : Int32)), .val (.int (1 : Int32)), .val (.int (2 : Int32)), .val (.int fe), .val (.int nn), .val (.ref arr), .val (.ref en), .val (.ref eA), .val (.ref dA), .val (.ref b4), .val (.int (1 : Int32)), .val (.int (1 : Int32))]) rfl rfl ?_
            obtain ⟨u1, u2, u3⟩ := own_relE_un _ _ _ _ _ _ _ _ e1 rl53
            obtain rfl : ra1 = ra53 := own_eq64 u1
            subst u2 u3
            obtain ⟨v1, v2, v3⟩ := own_relE_un _ _ _ _ _ _ _ _ e2 rl55
            subst v1 v2 v3
            have hiff := own_leafC dd ys _ (4 + _ + _) _ _ _ _ _ hF (by omega) rfl I55 (by have q := f55; rw [Nat.zero_add] at q; exact q) hbd
            have f60 := ((((Ve.ext E6).keep K18 (ninS ne9 nin0)).keep K53 (ninS ne9 nin0)).keep K55 (ninS ne9 nin0))
            have f61 := (((f17.keep K18 (ninS ne10 nin0)).keep K53 (ninS ne10 nin0)).keep K55 (ninS ne10 nin0))
            exact law_352 hw C A55 va vb vc vx p1 p2 (0 : Int32) (1 : Int32) (2 : Int32) fe nn arr en eA dA b4 db18 ke kd kb18 dd ys _ ra55 co55 wi55 (1 : Int32) (.val (.int (1 : Int32))) ⟨xE59, xD59, xN59, xP59, xR59, xC59, xW59, xV59, xU59⟩ (f60) (f61) hdl hyl (by omega) (own_DIb _ _ _ _ _ I55) hfe' (Or.inr ⟨rfl, hiff⟩) (One.val rfl)
        · skip
          show OwnWP _ _ _ _ _ _ _ _ _ T53 (mkF m 302 #[.val (.int va), .val (.int vb), .val (.int vc), .val (.long vx), .second, .val (.int p1), .val (.int p2), .val (.int (0 : Int32)), .val (.int (1 : Int32)), .val (.int (2 : Int32)), .val (.int fe), .val (.int nn), .val (.ref arr), .val (.ref en), .val (.ref eA), .val (.ref dA), .val (.ref b4), .val (.int (1 : Int32)), .unset] [(.int (1 : Int32))])
          obtain ⟨xE62, xD62, xN62, xP62, xR62, xC62, xW62, xV62, xU62⟩ := O53
          have rb53 := own_rb1 (4294967295 : Int64) p1 own_full hp1
          have ok53 := own_relE_ok _ _ _ _ _ rl53 rb53
          have hR53 : Rok ra53 := ⟨ok53.1, ok53.2.1⟩
          have e53 : Dich (own_D dd 4) (0 + (own_bd (4294967295 : Int64) p1).toInt) (own_r1 (4294967295 : Int64) p1).toInt 0 := by rw [own_r1v (4294967295 : Int64) p1 own_full hp1]; exact own_bit1 _ _ _ _ _ _ d0 X18 hb53
          have f53 := own_relD dd 4 0 s53 _ _ _ _ e53 rl53
          have su53 := ok53.2.2
          have q053 : Dich (own_D dd (4 + s53)) L53 ra53.toInt s53 := by have q1 := f53; rw [Nat.zero_add] at q1; exact q1
          have X53 : co53.toInt = own_D dd (4 + s53) - L53 := own_exact1 dd co53 wi53 _ _ _ _ s53 I53 q053 rl53 ⟨by omega, by omega⟩
          refine ow_istore C A53 at_302 (Ls' := #[.val (.int va), .val (.int vb), .val (.int vc), .val (.long vx), .second, .val (.int p1), .val (.int p2), .val (.int (0 : Int32)), .val (.int (1 : Int32)), .val (.int (2 : Int32)), .val (.int fe), .val (.int nn), .val (.ref arr), .val (.ref en), .val (.ref eA), .val (.ref dA), .val (.ref b4), .val (.int (1 : Int32)), .val (.int (1 : Int32))]) rfl rfl ?_
          refine ow_iload C A53 at_304 rfl rfl ?_
          refine ow_iload C A53 at_306 rfl rfl ?_
          refine ow_icmp_ne C A53 at_308 (by decide) (pcY := 315) (by decide) (pcN := 311) rfl (fun _ => ?_) (fun zq => absurd zq (by decide))
          refine ow_iconst C A53 at_315 (v := 0) rfl rfl ?_
          refine ow_istore C A53 at_316 (Ls' := #[.val (.int va), .val (.int vb), .val (.int vc), .val (.long vx), .second, .val (.int p1), .val (.int p2), .val (.int (0 : Int32)), .val (.int (1 : Int32)), .val (.int (2 : Int32)), .val (.int fe), .val (.int nn), .val (.ref arr), .val (.ref en), .val (.ref eA), .val (.ref dA), .val (.ref b4), .val (.int (0 : Int32)), .val (.int (1 : Int32))]) rfl rfl ?_
          refine ow_iload C A53 at_318 rfl rfl ?_
          refine ow_iconst C A53 at_320 (v := 1) rfl rfl ?_
          refine ow_icmp_le C A53 at_321 (by decide) (pcY := 352) (by decide) (pcN := 324) rfl (fun zq => absurd (by decide) zq) (fun _ => ?_)
          refine ow_aload C A53 at_324 rfl rfl rfl ?_
          refine ow_iload C A53 at_326 rfl rfl ?_
          refine ow_callV C A53 (argsL := [(.int p2)]) xE62 (rm_dd l Z a0 hw b4 db18 kb18 dd ra53 co53 wi53 (4 + s53) L53 p2 T53.heap ⟨xE62, xD62, xN62, xP62, xR62, xC62, xW62, xV62, xU62⟩ I53 (by omega) (by omega) hR53 hp2 []) tw_97 tw_98 (ow_nf hw tw_100) tw_100 tw_99 tw_49 tw_101 (by decide) (allS ows_b4 all0) (by decide) (by decide) (ck' := 6) (sk' := 116) rfl rfl (by decide) (by decide) rfl (lenOf pd_8 rfl) (S := []) rfl (W := 0) (Nat.le_of_eq rfl) at_328 rfl ?_
          intro T63 v63 K63 hQ63 A63
          obtain ⟨ra63, co63, wi63, s63, L63, O63, I63, hv63⟩ := hQ63
          rcases hv63 with ⟨rfl, hb63, rl63⟩ | ⟨rfl, hb63, rl63⟩
          · skip
            show OwnWP _ _ _ _ _ _ _ _ _ T63 (mkF m 331 #[.val (.int va), .val (.int vb), .val (.int vc), .val (.long vx), .second, .val (.int p1), .val (.int p2), .val (.int (0 : Int32)), .val (.int (1 : Int32)), .val (.int (2 : Int32)), .val (.int fe), .val (.int nn), .val (.ref arr), .val (.ref en), .val (.ref eA), .val (.ref dA), .val (.ref b4), .val (.int (0 : Int32)), .val (.int (1 : Int32))] [(.int (0 : Int32))])
            obtain ⟨xE64, xD64, xN64, xP64, xR64, xC64, xW64, xV64, xU64⟩ := O63
            have rb63 := own_rb0 ra53 p2 hR53 hp2
            have ok63 := own_relE_ok _ _ _ _ _ rl63 rb63
            have hR63 : Rok ra63 := ⟨ok63.1, ok63.2.1⟩
            have e63 : Dich (own_D dd (4 + s53)) L53 (own_r0 ra53 p2).toInt (0 + s53) := own_bit0 _ _ _ _ _ _ f53 X53 hb63
            have f63 := own_relD dd (4 + s53) (0 + s53) s63 _ _ _ _ e63 rl63
            have su63 := ok63.2.2
            refine ow_istore C A63 at_331 (Ls' := #[.val (.int va), .val (.int vb), .val (.int vc), .val (.long vx), .second, .val (.int p1), .val (.int p2), .val (.int (0 : Int32)), .val (.int (1 : Int32)), .val (.int (2 : Int32)), .val (.int fe), .val (.int nn), .val (.ref arr), .val (.ref en), .val (.ref eA), .val (.ref dA), .val (.ref b4), .val (.int (0 : Int32)), .val (.int (0 : Int32))]) rfl rfl ?_
            refine ow_iload C A63 at_333 rfl rfl ?_
            refine ow_if_eq C A63 at_335 (by decide) (pcY := 349) (by decide) (pcN := 338) rfl (fun _ => ?_) (fun zq => absurd (by decide) zq)
            refine ow_iconst C A63 at_349 (v := 0) rfl rfl ?_
            refine ow_istore C A63 at_350 (Ls' := #[.val (.int va), .val (.int vb), .val (.int vc), .val (.long vx), .second, .val (.int p1), .val (.int p2), .val (.int (0 : Int32)), .val (.int (1 : Int32)), .val (.int (2 : Int32)), .val (.int fe), .val (.int nn), .val (.ref arr), .val (.ref en), .val (.ref eA), .val (.ref dA), .val (.ref b4), .val (.int (0 : Int32)), .val (.int (0 : Int32))]) rfl rfl ?_
            have hf0 : fe = 0 := by
              rcases hfe with q | ⟨-, rfl⟩
              · exact q
              · exfalso
                have g2 := own_back dd (4 + s1) _ _ _ _ _ e2 (by rw [show 4 + s1 + s2 = s1 + s2 + 4 from by omega]; exact iF)
                have rk : Rok ra1 := by have q := own_relE_ok _ _ _ _ _ e1 (own_rb0 _ _ own_full hp1); exact ⟨q.1, q.2.1⟩
                have bv := own_bdv ra1 p2 rk hp2
                have rv := own_r1v ra1 p2 rk hp2
                have r0 := own_r0v ra1 p2
                have g1 := own_back dd 4 _ _ _ _ _ e1 ⟨by omega, by unfold Rok at rk; omega⟩
                have bv1 := own_bdv 4294967295 p1 own_full hp1
                have rv1 := own_r1v 4294967295 p1 own_full hp1
                have r01 := own_r0v 4294967295 p1
                rw [own_fullv] at rv1 bv1
                omega
            subst hf0
            have f65 := ((((Ve.ext E6).keep K18 (ninS ne9 nin0)).keep K53 (ninS ne9 nin0)).keep K63 (ninS ne9 nin0))
            have f66 := (((f17.keep K18 (ninS ne10 nin0)).keep K53 (ninS ne10 nin0)).keep K63 (ninS ne10 nin0))
            exact law_352 hw C A63 va vb vc vx p1 p2 (0 : Int32) (1 : Int32) (2 : Int32) (0 : Int32) nn arr en eA dA b4 db18 ke kd kb18 dd ys _ ra63 co63 wi63 (0 : Int32) (.val (.int (0 : Int32))) ⟨xE64, xD64, xN64, xP64, xR64, xC64, xW64, xV64, xU64⟩ (f65) (f66) hdl hyl (by omega) (own_DIb _ _ _ _ _ I63) (Or.inl rfl) (Or.inl ⟨rfl, rfl⟩) (One.val rfl)
          · skip
            show OwnWP _ _ _ _ _ _ _ _ _ T63 (mkF m 331 #[.val (.int va), .val (.int vb), .val (.int vc), .val (.long vx), .second, .val (.int p1), .val (.int p2), .val (.int (0 : Int32)), .val (.int (1 : Int32)), .val (.int (2 : Int32)), .val (.int fe), .val (.int nn), .val (.ref arr), .val (.ref en), .val (.ref eA), .val (.ref dA), .val (.ref b4), .val (.int (0 : Int32)), .val (.int (1 : Int32))] [(.int (1 : Int32))])
            obtain ⟨xE67, xD67, xN67, xP67, xR67, xC67, xW67, xV67, xU67⟩ := O63
            have rb63 := own_rb1 ra53 p2 hR53 hp2
            have ok63 := own_relE_ok _ _ _ _ _ rl63 rb63
            have hR63 : Rok ra63 := ⟨ok63.1, ok63.2.1⟩
            have e63 : Dich (own_D dd (4 + s53)) (L53 + (own_bd ra53 p2).toInt) (own_r1 ra53 p2).toInt (0 + s53) := by rw [own_r1v ra53 p2 hR53 hp2]; exact own_bit1 _ _ _ _ _ _ f53 X53 hb63
            have f63 := own_relD dd (4 + s53) (0 + s53) s63 _ _ _ _ e63 rl63
            have su63 := ok63.2.2
            refine ow_istore C A63 at_331 (Ls' := #[.val (.int va), .val (.int vb), .val (.int vc), .val (.long vx), .second, .val (.int p1), .val (.int p2), .val (.int (0 : Int32)), .val (.int (1 : Int32)), .val (.int (2 : Int32)), .val (.int fe), .val (.int nn), .val (.ref arr), .val (.ref en), .val (.ref eA), .val (.ref dA), .val (.ref b4), .val (.int (0 : Int32)), .val (.int (1 : Int32))]) rfl rfl ?_
            refine ow_iload C A63 at_333 rfl rfl ?_
            refine ow_if_eq C A63 at_335 (by decide) (pcY := 349) (by decide) (pcN := 338) rfl (fun _ => ?_) (fun zq => absurd (by decide) zq)
            refine ow_iconst C A63 at_349 (v := 0) rfl rfl ?_
            refine ow_istore C A63 at_350 (Ls' := #[.val (.int va), .val (.int vb), .val (.int vc), .val (.long vx), .second, .val (.int p1), .val (.int p2), .val (.int (0 : Int32)), .val (.int (1 : Int32)), .val (.int (2 : Int32)), .val (.int fe), .val (.int nn), .val (.ref arr), .val (.ref en), .val (.ref eA), .val (.ref dA), .val (.ref b4), .val (.int (0 : Int32)), .val (.int (1 : Int32))]) rfl rfl ?_
            have hf0 : fe = 0 := by
              rcases hfe with q | ⟨-, rfl⟩
              · exact q
              · exfalso
                have g2 := own_back dd (4 + s1) _ _ _ _ _ e2 (by rw [show 4 + s1 + s2 = s1 + s2 + 4 from by omega]; exact iF)
                have rk : Rok ra1 := by have q := own_relE_ok _ _ _ _ _ e1 (own_rb0 _ _ own_full hp1); exact ⟨q.1, q.2.1⟩
                have bv := own_bdv ra1 p2 rk hp2
                have rv := own_r1v ra1 p2 rk hp2
                have r0 := own_r0v ra1 p2
                have g1 := own_back dd 4 _ _ _ _ _ e1 ⟨by omega, by unfold Rok at rk; omega⟩
                have bv1 := own_bdv 4294967295 p1 own_full hp1
                have rv1 := own_r1v 4294967295 p1 own_full hp1
                have r01 := own_r0v 4294967295 p1
                rw [own_fullv] at rv1 bv1
                omega
            subst hf0
            have f68 := ((((Ve.ext E6).keep K18 (ninS ne9 nin0)).keep K53 (ninS ne9 nin0)).keep K63 (ninS ne9 nin0))
            have f69 := (((f17.keep K18 (ninS ne10 nin0)).keep K53 (ninS ne10 nin0)).keep K63 (ninS ne10 nin0))
            exact law_352 hw C A63 va vb vc vx p1 p2 (0 : Int32) (1 : Int32) (2 : Int32) (0 : Int32) nn arr en eA dA b4 db18 ke kd kb18 dd ys _ ra63 co63 wi63 (0 : Int32) (.val (.int (1 : Int32))) ⟨xE67, xD67, xN67, xP67, xR67, xC67, xW67, xV67, xU67⟩ (f68) (f69) hdl hyl (by omega) (own_DIb _ _ _ _ _ I63) (Or.inl rfl) (Or.inl ⟨rfl, rfl⟩) (One.val rfl)
    · rcases e2 with ⟨rfl, e2⟩ | ⟨rfl, e2⟩
      · skip
        refine ow_iload C A18 at_290 rfl rfl ?_
        refine ow_if_le C A18 at_292 (by decide) (pcY := 318) (by decide) (pcN := 295) rfl (fun zq => absurd (by decide) zq) (fun _ => ?_)
        refine ow_aload C A18 at_295 rfl rfl rfl ?_
        refine ow_iload C A18 at_297 rfl rfl ?_
        refine ow_callV C A18 (argsL := [(.int p1)]) xE19 (rm_dd l Z a0 hw b4 db18 kb18 dd (4294967295 : Int64) co18 wi18 4 0 p1 T18.heap ⟨xE19, xD19, xN19, xP19, xR19, xC19, xW19, xV19, xU19⟩ I18 (by omega) (by omega) own_full hp1 []) tw_97 tw_98 (ow_nf hw tw_100) tw_100 tw_99 tw_49 tw_101 (by decide) (allS ows_b4 all0) (by decide) (by decide) (ck' := 6) (sk' := 116) rfl rfl (by decide) (by decide) rfl (lenOf pd_8 rfl) (S := []) rfl (W := 0) (Nat.le_of_eq rfl) at_299 rfl ?_
        intro T70 v70 K70 hQ70 A70
        obtain ⟨ra70, co70, wi70, s70, L70, O70, I70, hv70⟩ := hQ70
        rcases hv70 with ⟨rfl, hb70, rl70⟩ | ⟨rfl, hb70, rl70⟩
        · skip
          show OwnWP _ _ _ _ _ _ _ _ _ T70 (mkF m 302 #[.val (.int va), .val (.int vb), .val (.int vc), .val (.long vx), .second, .val (.int p1), .val (.int p2), .val (.int (1 : Int32)), .val (.int (0 : Int32)), .val (.int (2 : Int32)), .val (.int fe), .val (.int nn), .val (.ref arr), .val (.ref en), .val (.ref eA), .val (.ref dA), .val (.ref b4), .val (.int (1 : Int32)), .unset] [(.int (0 : Int32))])
          obtain ⟨xE71, xD71, xN71, xP71, xR71, xC71, xW71, xV71, xU71⟩ := O70
          have rb70 := own_rb0 (4294967295 : Int64) p1 own_full hp1
          have ok70 := own_relE_ok _ _ _ _ _ rl70 rb70
          have hR70 : Rok ra70 := ⟨ok70.1, ok70.2.1⟩
          have e70 : Dich (own_D dd 4) 0 (own_r0 (4294967295 : Int64) p1).toInt 0 := own_bit0 _ _ _ _ _ _ d0 X18 hb70
          have f70 := own_relD dd 4 0 s70 _ _ _ _ e70 rl70
          have su70 := ok70.2.2
          have q070 : Dich (own_D dd (4 + s70)) L70 ra70.toInt s70 := by have q1 := f70; rw [Nat.zero_add] at q1; exact q1
          have X70 : co70.toInt = own_D dd (4 + s70) - L70 := own_exact1 dd co70 wi70 _ _ _ _ s70 I70 q070 rl70 ⟨by omega, by omega⟩
          refine ow_istore C A70 at_302 (Ls' := #[.val (.int va), .val (.int vb), .val (.int vc), .val (.long vx), .second, .val (.int p1), .val (.int p2), .val (.int (1 : Int32)), .val (.int (0 : Int32)), .val (.int (2 : Int32)), .val (.int fe), .val (.int nn), .val (.ref arr), .val (.ref en), .val (.ref eA), .val (.ref dA), .val (.ref b4), .val (.int (1 : Int32)), .val (.int (0 : Int32))]) rfl rfl ?_
          refine ow_iload C A70 at_304 rfl rfl ?_
          refine ow_iload C A70 at_306 rfl rfl ?_
          refine ow_icmp_ne C A70 at_308 (by decide) (pcY := 315) (by decide) (pcN := 311) rfl (fun _ => ?_) (fun zq => absurd zq (by decide))
          refine ow_iconst C A70 at_315 (v := 0) rfl rfl ?_
          refine ow_istore C A70 at_316 (Ls' := #[.val (.int va), .val (.int vb), .val (.int vc), .val (.long vx), .second, .val (.int p1), .val (.int p2), .val (.int (1 : Int32)), .val (.int (0 : Int32)), .val (.int (2 : Int32)), .val (.int fe), .val (.int nn), .val (.ref arr), .val (.ref en), .val (.ref eA), .val (.ref dA), .val (.ref b4), .val (.int (0 : Int32)), .val (.int (0 : Int32))]) rfl rfl ?_
          refine ow_iload C A70 at_318 rfl rfl ?_
          refine ow_iconst C A70 at_320 (v := 1) rfl rfl ?_
          refine ow_icmp_le C A70 at_321 (by decide) (pcY := 352) (by decide) (pcN := 324) rfl (fun zq => absurd (by decide) zq) (fun _ => ?_)
          refine ow_aload C A70 at_324 rfl rfl rfl ?_
          refine ow_iload C A70 at_326 rfl rfl ?_
          refine ow_callV C A70 (argsL := [(.int p2)]) xE71 (rm_dd l Z a0 hw b4 db18 kb18 dd ra70 co70 wi70 (4 + s70) L70 p2 T70.heap ⟨xE71, xD71, xN71, xP71, xR71, xC71, xW71, xV71, xU71⟩ I70 (by omega) (by omega) hR70 hp2 []) tw_97 tw_98 (ow_nf hw tw_100) tw_100 tw_99 tw_49 tw_101 (by decide) (allS ows_b4 all0) (by decide) (by decide) (ck' := 6) (sk' := 116) rfl rfl (by decide) (by decide) rfl (lenOf pd_8 rfl) (S := []) rfl (W := 0) (Nat.le_of_eq rfl) at_328 rfl ?_
          intro T72 v72 K72 hQ72 A72
          obtain ⟨ra72, co72, wi72, s72, L72, O72, I72, hv72⟩ := hQ72
          rcases hv72 with ⟨rfl, hb72, rl72⟩ | ⟨rfl, hb72, rl72⟩
          · skip
            show OwnWP _ _ _ _ _ _ _ _ _ T72 (mkF m 331 #[.val (.int va), .val (.int vb), .val (.int vc), .val (.long vx), .second, .val (.int p1), .val (.int p2), .val (.int (1 : Int32)), .val (.int (0 : Int32)), .val (.int (2 : Int32)), .val (.int fe), .val (.int nn), .val (.ref arr), .val (.ref en), .val (.ref eA), .val (.ref dA), .val (.ref b4), .val (.int (0 : Int32)), .val (.int (0 : Int32))] [(.int (0 : Int32))])
            obtain ⟨xE73, xD73, xN73, xP73, xR73, xC73, xW73, xV73, xU73⟩ := O72
            have rb72 := own_rb0 ra70 p2 hR70 hp2
            have ok72 := own_relE_ok _ _ _ _ _ rl72 rb72
            have hR72 : Rok ra72 := ⟨ok72.1, ok72.2.1⟩
            have e72 : Dich (own_D dd (4 + s70)) L70 (own_r0 ra70 p2).toInt (0 + s70) := own_bit0 _ _ _ _ _ _ f70 X70 hb72
            have f72 := own_relD dd (4 + s70) (0 + s70) s72 _ _ _ _ e72 rl72
            have su72 := ok72.2.2
            refine ow_istore C A72 at_331 (Ls' := #[.val (.int va), .val (.int vb), .val (.int vc), .val (.long vx), .second, .val (.int p1), .val (.int p2), .val (.int (1 : Int32)), .val (.int (0 : Int32)), .val (.int (2 : Int32)), .val (.int fe), .val (.int nn), .val (.ref arr), .val (.ref en), .val (.ref eA), .val (.ref dA), .val (.ref b4), .val (.int (0 : Int32)), .val (.int (0 : Int32))]) rfl rfl ?_
            refine ow_iload C A72 at_333 rfl rfl ?_
            refine ow_if_eq C A72 at_335 (by decide) (pcY := 349) (by decide) (pcN := 338) rfl (fun _ => ?_) (fun zq => absurd (by decide) zq)
            refine ow_iconst C A72 at_349 (v := 0) rfl rfl ?_
            refine ow_istore C A72 at_350 (Ls' := #[.val (.int va), .val (.int vb), .val (.int vc), .val (.long vx), .second, .val (.int p1), .val (.int p2), .val (.int (1 : Int32)), .val (.int (0 : Int32)), .val (.int (2 : Int32)), .val (.int fe), .val (.int nn), .val (.ref arr), .val (.ref en), .val (.ref eA), .val (.ref dA), .val (.ref b4), .val (.int (0 : Int32)), .val (.int (0 : Int32))]) rfl rfl ?_
            have hf0 : fe = 0 := by
              rcases hfe with q | ⟨-, rfl⟩
              · exact q
              · exfalso
                have g2 := own_back dd (4 + s1) _ _ _ _ _ e2 (by rw [show 4 + s1 + s2 = s1 + s2 + 4 from by omega]; exact iF)
                have rk : Rok ra1 := by have q := own_relE_ok _ _ _ _ _ e1 (own_rb1 _ _ own_full hp1); exact ⟨q.1, q.2.1⟩
                have bv := own_bdv ra1 p2 rk hp2
                have rv := own_r1v ra1 p2 rk hp2
                have r0 := own_r0v ra1 p2
                have g1 := own_back dd 4 _ _ _ _ _ e1 ⟨by omega, by unfold Rok at rk; omega⟩
                have bv1 := own_bdv 4294967295 p1 own_full hp1
                have rv1 := own_r1v 4294967295 p1 own_full hp1
                have r01 := own_r0v 4294967295 p1
                rw [own_fullv] at rv1 bv1
                omega
            subst hf0
            have f74 := ((((Ve.ext E6).keep K18 (ninS ne9 nin0)).keep K70 (ninS ne9 nin0)).keep K72 (ninS ne9 nin0))
            have f75 := (((f17.keep K18 (ninS ne10 nin0)).keep K70 (ninS ne10 nin0)).keep K72 (ninS ne10 nin0))
            exact law_352 hw C A72 va vb vc vx p1 p2 (1 : Int32) (0 : Int32) (2 : Int32) (0 : Int32) nn arr en eA dA b4 db18 ke kd kb18 dd ys _ ra72 co72 wi72 (0 : Int32) (.val (.int (0 : Int32))) ⟨xE73, xD73, xN73, xP73, xR73, xC73, xW73, xV73, xU73⟩ (f74) (f75) hdl hyl (by omega) (own_DIb _ _ _ _ _ I72) (Or.inl rfl) (Or.inl ⟨rfl, rfl⟩) (One.val rfl)
          · skip
            show OwnWP _ _ _ _ _ _ _ _ _ T72 (mkF m 331 #[.val (.int va), .val (.int vb), .val (.int vc), .val (.long vx), .second, .val (.int p1), .val (.int p2), .val (.int (1 : Int32)), .val (.int (0 : Int32)), .val (.int (2 : Int32)), .val (.int fe), .val (.int nn), .val (.ref arr), .val (.ref en), .val (.ref eA), .val (.ref dA), .val (.ref b4), .val (.int (0 : Int32)), .val (.int (0 : Int32))] [(.int (1 : Int32))])
            obtain ⟨xE76, xD76, xN76, xP76, xR76, xC76, xW76, xV76, xU76⟩ := O72
            have rb72 := own_rb1 ra70 p2 hR70 hp2
            have ok72 := own_relE_ok _ _ _ _ _ rl72 rb72
            have hR72 : Rok ra72 := ⟨ok72.1, ok72.2.1⟩
            have e72 : Dich (own_D dd (4 + s70)) (L70 + (own_bd ra70 p2).toInt) (own_r1 ra70 p2).toInt (0 + s70) := by rw [own_r1v ra70 p2 hR70 hp2]; exact own_bit1 _ _ _ _ _ _ f70 X70 hb72
            have f72 := own_relD dd (4 + s70) (0 + s70) s72 _ _ _ _ e72 rl72
            have su72 := ok72.2.2
            refine ow_istore C A72 at_331 (Ls' := #[.val (.int va), .val (.int vb), .val (.int vc), .val (.long vx), .second, .val (.int p1), .val (.int p2), .val (.int (1 : Int32)), .val (.int (0 : Int32)), .val (.int (2 : Int32)), .val (.int fe), .val (.int nn), .val (.ref arr), .val (.ref en), .val (.ref eA), .val (.ref dA), .val (.ref b4), .val (.int (0 : Int32)), .val (.int (1 : Int32))]) rfl rfl ?_
            refine ow_iload C A72 at_333 rfl rfl ?_
            refine ow_if_eq C A72 at_335 (by decide) (pcY := 349) (by decide) (pcN := 338) rfl (fun _ => ?_) (fun zq => absurd (by decide) zq)
            refine ow_iconst C A72 at_349 (v := 0) rfl rfl ?_
            refine ow_istore C A72 at_350 (Ls' := #[.val (.int va), .val (.int vb), .val (.int vc), .val (.long vx), .second, .val (.int p1), .val (.int p2), .val (.int (1 : Int32)), .val (.int (0 : Int32)), .val (.int (2 : Int32)), .val (.int fe), .val (.int nn), .val (.ref arr), .val (.ref en), .val (.ref eA), .val (.ref dA), .val (.ref b4), .val (.int (0 : Int32)), .val (.int (1 : Int32))]) rfl rfl ?_
            have hf0 : fe = 0 := by
              rcases hfe with q | ⟨-, rfl⟩
              · exact q
              · exfalso
                have g2 := own_back dd (4 + s1) _ _ _ _ _ e2 (by rw [show 4 + s1 + s2 = s1 + s2 + 4 from by omega]; exact iF)
                have rk : Rok ra1 := by have q := own_relE_ok _ _ _ _ _ e1 (own_rb1 _ _ own_full hp1); exact ⟨q.1, q.2.1⟩
                have bv := own_bdv ra1 p2 rk hp2
                have rv := own_r1v ra1 p2 rk hp2
                have r0 := own_r0v ra1 p2
                have g1 := own_back dd 4 _ _ _ _ _ e1 ⟨by omega, by unfold Rok at rk; omega⟩
                have bv1 := own_bdv 4294967295 p1 own_full hp1
                have rv1 := own_r1v 4294967295 p1 own_full hp1
                have r01 := own_r0v 4294967295 p1
                rw [own_fullv] at rv1 bv1
                omega
            subst hf0
            have f77 := ((((Ve.ext E6).keep K18 (ninS ne9 nin0)).keep K70 (ninS ne9 nin0)).keep K72 (ninS ne9 nin0))
            have f78 := (((f17.keep K18 (ninS ne10 nin0)).keep K70 (ninS ne10 nin0)).keep K72 (ninS ne10 nin0))
            exact law_352 hw C A72 va vb vc vx p1 p2 (1 : Int32) (0 : Int32) (2 : Int32) (0 : Int32) nn arr en eA dA b4 db18 ke kd kb18 dd ys _ ra72 co72 wi72 (0 : Int32) (.val (.int (1 : Int32))) ⟨xE76, xD76, xN76, xP76, xR76, xC76, xW76, xV76, xU76⟩ (f77) (f78) hdl hyl (by omega) (own_DIb _ _ _ _ _ I72) (Or.inl rfl) (Or.inl ⟨rfl, rfl⟩) (One.val rfl)
        · skip
          show OwnWP _ _ _ _ _ _ _ _ _ T70 (mkF m 302 #[.val (.int va), .val (.int vb), .val (.int vc), .val (.long vx), .second, .val (.int p1), .val (.int p2), .val (.int (1 : Int32)), .val (.int (0 : Int32)), .val (.int (2 : Int32)), .val (.int fe), .val (.int nn), .val (.ref arr), .val (.ref en), .val (.ref eA), .val (.ref dA), .val (.ref b4), .val (.int (1 : Int32)), .unset] [(.int (1 : Int32))])
          obtain ⟨xE79, xD79, xN79, xP79, xR79, xC79, xW79, xV79, xU79⟩ := O70
          have rb70 := own_rb1 (4294967295 : Int64) p1 own_full hp1
          have ok70 := own_relE_ok _ _ _ _ _ rl70 rb70
          have hR70 : Rok ra70 := ⟨ok70.1, ok70.2.1⟩
          have e70 : Dich (own_D dd 4) (0 + (own_bd (4294967295 : Int64) p1).toInt) (own_r1 (4294967295 : Int64) p1).toInt 0 := by rw [own_r1v (4294967295 : Int64) p1 own_full hp1]; exact own_bit1 _ _ _ _ _ _ d0 X18 hb70
          have f70 := own_relD dd 4 0 s70 _ _ _ _ e70 rl70
          have su70 := ok70.2.2
          have q070 : Dich (own_D dd (4 + s70)) L70 ra70.toInt s70 := by have q1 := f70; rw [Nat.zero_add] at q1; exact q1
          have X70 : co70.toInt = own_D dd (4 + s70) - L70 := own_exact1 dd co70 wi70 _ _ _ _ s70 I70 q070 rl70 ⟨by omega, by omega⟩
          refine ow_istore C A70 at_302 (Ls' := #[.val (.int va), .val (.int vb), .val (.int vc), .val (.long vx), .second, .val (.int p1), .val (.int p2), .val (.int (1 : Int32)), .val (.int (0 : Int32)), .val (.int (2 : Int32)), .val (.int fe), .val (.int nn), .val (.ref arr), .val (.ref en), .val (.ref eA), .val (.ref dA), .val (.ref b4), .val (.int (1 : Int32)), .val (.int (1 : Int32))]) rfl rfl ?_
          refine ow_iload C A70 at_304 rfl rfl ?_
          refine ow_iload C A70 at_306 rfl rfl ?_
          refine ow_icmp_ne C A70 at_308 (by decide) (pcY := 315) (by decide) (pcN := 311) rfl (fun zq => absurd (by decide) zq) (fun _ => ?_)
          refine ow_iconst C A70 at_311 (v := 1) rfl rfl ?_
          refine ow_goto C A70 at_312 (by decide) (pc' := 316) (by decide) ?_
          refine ow_istore C A70 at_316 (Ls' := #[.val (.int va), .val (.int vb), .val (.int vc), .val (.long vx), .second, .val (.int p1), .val (.int p2), .val (.int (1 : Int32)), .val (.int (0 : Int32)), .val (.int (2 : Int32)), .val (.int fe), .val (.int nn), .val (.ref arr), .val (.ref en), .val (.ref eA), .val (.ref dA), .val (.ref b4), .val (.int (1 : Int32)), .val (.int (1 : Int32))]) rfl rfl ?_
          refine ow_iload C A70 at_318 rfl rfl ?_
          refine ow_iconst C A70 at_320 (v := 1) rfl rfl ?_
          refine ow_icmp_le C A70 at_321 (by decide) (pcY := 352) (by decide) (pcN := 324) rfl (fun zq => absurd (by decide) zq) (fun _ => ?_)
          refine ow_aload C A70 at_324 rfl rfl rfl ?_
          refine ow_iload C A70 at_326 rfl rfl ?_
          refine ow_callV C A70 (argsL := [(.int p2)]) xE79 (rm_dd l Z a0 hw b4 db18 kb18 dd ra70 co70 wi70 (4 + s70) L70 p2 T70.heap ⟨xE79, xD79, xN79, xP79, xR79, xC79, xW79, xV79, xU79⟩ I70 (by omega) (by omega) hR70 hp2 []) tw_97 tw_98 (ow_nf hw tw_100) tw_100 tw_99 tw_49 tw_101 (by decide) (allS ows_b4 all0) (by decide) (by decide) (ck' := 6) (sk' := 116) rfl rfl (by decide) (by decide) rfl (lenOf pd_8 rfl) (S := []) rfl (W := 0) (Nat.le_of_eq rfl) at_328 rfl ?_
          intro T80 v80 K80 hQ80 A80
          obtain ⟨ra80, co80, wi80, s80, L80, O80, I80, hv80⟩ := hQ80
          rcases hv80 with ⟨rfl, hb80, rl80⟩ | ⟨rfl, hb80, rl80⟩
          · skip
            show OwnWP _ _ _ _ _ _ _ _ _ T80 (mkF m 331 #[.val (.int va), .val (.int vb), .val (.int vc), .val (.long vx), .second, .val (.int p1), .val (.int p2), .val (.int (1 : Int32)), .val (.int (0 : Int32)), .val (.int (2 : Int32)), .val (.int fe), .val (.int nn), .val (.ref arr), .val (.ref en), .val (.ref eA), .val (.ref dA), .val (.ref b4), .val (.int (1 : Int32)), .val (.int (1 : Int32))] [(.int (0 : Int32))])
            obtain ⟨xE81, xD81, xN81, xP81, xR81, xC81, xW81, xV81, xU81⟩ := O80
            have rb80 := own_rb0 ra70 p2 hR70 hp2
            have ok80 := own_relE_ok _ _ _ _ _ rl80 rb80
            have hR80 : Rok ra80 := ⟨ok80.1, ok80.2.1⟩
            have e80 : Dich (own_D dd (4 + s70)) L70 (own_r0 ra70 p2).toInt (0 + s70) := own_bit0 _ _ _ _ _ _ f70 X70 hb80
            have f80 := own_relD dd (4 + s70) (0 + s70) s80 _ _ _ _ e80 rl80
            have su80 := ok80.2.2
            refine ow_istore C A80 at_331 (Ls' := #[.val (.int va), .val (.int vb), .val (.int vc), .val (.long vx), .second, .val (.int p1), .val (.int p2), .val (.int (1 : Int32)), .val (.int (0 : Int32)), .val (.int (2 : Int32)), .val (.int fe), .val (.int nn), .val (.ref arr), .val (.ref en), .val (.ref eA), .val (.ref dA), .val (.ref b4), .val (.int (1 : Int32)), .val (.int (0 : Int32))]) rfl rfl ?_
            refine ow_iload C A80 at_333 rfl rfl ?_
            refine ow_if_eq C A80 at_335 (by decide) (pcY := 349) (by decide) (pcN := 338) rfl (fun zq => absurd zq (by decide)) (fun _ => ?_)
            refine ow_iload C A80 at_338 rfl rfl ?_
            refine ow_iload C A80 at_340 rfl rfl ?_
            refine ow_icmp_ne C A80 at_342 (by decide) (pcY := 349) (by decide) (pcN := 345) rfl (fun zq => absurd (by decide) zq) (fun _ => ?_)
            refine ow_iconst C A80 at_345 (v := 1) rfl rfl ?_
            refine ow_goto C A80 at_346 (by decide) (pc' := 350) (by decide) ?_
            refine ow_istore C A80 at_350 (Ls' := #[.val (.int va), .val (.int vb), .val (.int vc), .val (.long vx), .second, .val (.int p1), .val (.int p2), .val (.int (1 : Int32)), .val (.int (0 : Int32)), .val (.int (2 : Int32)), .val (.int fe), .val (.int nn), .val (.ref arr), .val (.ref en), .val (.ref eA), .val (.ref dA), .val (.ref b4), .val (.int (1 : Int32)), .val (.int (0 : Int32))]) rfl rfl ?_
            obtain ⟨u1, u2, u3⟩ := own_relE_un _ _ _ _ _ _ _ _ e1 rl70
            obtain rfl : ra1 = ra70 := own_eq64 u1
            subst u2 u3
            obtain ⟨v1, v2, v3⟩ := own_relE_un _ _ _ _ _ _ _ _ e2 rl80
            subst v1 v2 v3
            have hiff := own_leafC dd ys _ (4 + _ + _) _ _ _ _ _ hF (by omega) rfl I80 (by have q := f80; rw [Nat.zero_add] at q; exact q) hbd
            have f82 := ((((Ve.ext E6).keep K18 (ninS ne9 nin0)).keep K70 (ninS ne9 nin0)).keep K80 (ninS ne9 nin0))
            have f83 := (((f17.keep K18 (ninS ne10 nin0)).keep K70 (ninS ne10 nin0)).keep K80 (ninS ne10 nin0))
            exact law_352 hw C A80 va vb vc vx p1 p2 (1 : Int32) (0 : Int32) (2 : Int32) fe nn arr en eA dA b4 db18 ke kd kb18 dd ys _ ra80 co80 wi80 (1 : Int32) (.val (.int (0 : Int32))) ⟨xE81, xD81, xN81, xP81, xR81, xC81, xW81, xV81, xU81⟩ (f82) (f83) hdl hyl (by omega) (own_DIb _ _ _ _ _ I80) hfe' (Or.inr ⟨rfl, hiff⟩) (One.val rfl)
          · skip
            show OwnWP _ _ _ _ _ _ _ _ _ T80 (mkF m 331 #[.val (.int va), .val (.int vb), .val (.int vc), .val (.long vx), .second, .val (.int p1), .val (.int p2), .val (.int (1 : Int32)), .val (.int (0 : Int32)), .val (.int (2 : Int32)), .val (.int fe), .val (.int nn), .val (.ref arr), .val (.ref en), .val (.ref eA), .val (.ref dA), .val (.ref b4), .val (.int (1 : Int32)), .val (.int (1 : Int32))] [(.int (1 : Int32))])
            obtain ⟨xE84, xD84, xN84, xP84, xR84, xC84, xW84, xV84, xU84⟩ := O80
            have rb80 := own_rb1 ra70 p2 hR70 hp2
            have ok80 := own_relE_ok _ _ _ _ _ rl80 rb80
            have hR80 : Rok ra80 := ⟨ok80.1, ok80.2.1⟩
            have e80 : Dich (own_D dd (4 + s70)) (L70 + (own_bd ra70 p2).toInt) (own_r1 ra70 p2).toInt (0 + s70) := by rw [own_r1v ra70 p2 hR70 hp2]; exact own_bit1 _ _ _ _ _ _ f70 X70 hb80
            have f80 := own_relD dd (4 + s70) (0 + s70) s80 _ _ _ _ e80 rl80
            have su80 := ok80.2.2
            refine ow_istore C A80 at_331 (Ls' := #[.val (.int va), .val (.int vb), .val (.int vc), .val (.long vx), .second, .val (.int p1), .val (.int p2), .val (.int (1 : Int32)), .val (.int (0 : Int32)), .val (.int (2 : Int32)), .val (.int fe), .val (.int nn), .val (.ref arr), .val (.ref en), .val (.ref eA), .val (.ref dA), .val (.ref b4), .val (.int (1 : Int32)), .val (.int (1 : Int32))]) rfl rfl ?_
            refine ow_iload C A80 at_333 rfl rfl ?_
            refine ow_if_eq C A80 at_335 (by decide) (pcY := 349) (by decide) (pcN := 338) rfl (fun zq => absurd zq (by decide)) (fun _ => ?_)
            refine ow_iload C A80 at_338 rfl rfl ?_
            refine ow_iload C A80 at_340 rfl rfl ?_
            refine ow_icmp_ne C A80 at_342 (by decide) (pcY := 349) (by decide) (pcN := 345) rfl (fun _ => ?_) (fun zq => absurd zq (by decide))
            refine ow_iconst C A80 at_349 (v := 0) rfl rfl ?_
            refine ow_istore C A80 at_350 (Ls' := #[.val (.int va), .val (.int vb), .val (.int vc), .val (.long vx), .second, .val (.int p1), .val (.int p2), .val (.int (1 : Int32)), .val (.int (0 : Int32)), .val (.int (2 : Int32)), .val (.int fe), .val (.int nn), .val (.ref arr), .val (.ref en), .val (.ref eA), .val (.ref dA), .val (.ref b4), .val (.int (0 : Int32)), .val (.int (1 : Int32))]) rfl rfl ?_
            have hf0 : fe = 0 := by
              rcases hfe with q | ⟨-, rfl⟩
              · exact q
              · exfalso
                have g2 := own_back dd (4 + s1) _ _ _ _ _ e2 (by rw [show 4 + s1 + s2 = s1 + s2 + 4 from by omega]; exact iF)
                have rk : Rok ra1 := by have q := own_relE_ok _ _ _ _ _ e1 (own_rb1 _ _ own_full hp1); exact ⟨q.1, q.2.1⟩
                have bv := own_bdv ra1 p2 rk hp2
                have rv := own_r1v ra1 p2 rk hp2
                have r0 := own_r0v ra1 p2
                have g1 := own_back dd 4 _ _ _ _ _ e1 ⟨by omega, by unfold Rok at rk; omega⟩
                have bv1 := own_bdv 4294967295 p1 own_full hp1
                have rv1 := own_r1v 4294967295 p1 own_full hp1
                have r01 := own_r0v 4294967295 p1
                rw [own_fullv] at rv1 bv1
                obtain ⟨u1, u2, u3⟩ := own_relE_un _ _ _ _ _ _ _ _ e1 rl70
                obtain rfl : ra1 = ra70 := own_eq64 u1
                subst u2 u3
                omega
            subst hf0
            have f85 := ((((Ve.ext E6).keep K18 (ninS ne9 nin0)).keep K70 (ninS ne9 nin0)).keep K80 (ninS ne9 nin0))
            have f86 := (((f17.keep K18 (ninS ne10 nin0)).keep K70 (ninS ne10 nin0)).keep K80 (ninS ne10 nin0))
            exact law_352 hw C A80 va vb vc vx p1 p2 (1 : Int32) (0 : Int32) (2 : Int32) (0 : Int32) nn arr en eA dA b4 db18 ke kd kb18 dd ys _ ra80 co80 wi80 (0 : Int32) (.val (.int (1 : Int32))) ⟨xE84, xD84, xN84, xP84, xR84, xC84, xW84, xV84, xU84⟩ (f85) (f86) hdl hyl (by omega) (own_DIb _ _ _ _ _ I80) (Or.inl rfl) (Or.inl ⟨rfl, rfl⟩) (One.val rfl)
      · skip
        refine ow_iload C A18 at_290 rfl rfl ?_
        refine ow_if_le C A18 at_292 (by decide) (pcY := 318) (by decide) (pcN := 295) rfl (fun zq => absurd (by decide) zq) (fun _ => ?_)
        refine ow_aload C A18 at_295 rfl rfl rfl ?_
        refine ow_iload C A18 at_297 rfl rfl ?_
        refine ow_callV C A18 (argsL := [(.int p1)]) xE19 (rm_dd l Z a0 hw b4 db18 kb18 dd (4294967295 : Int64) co18 wi18 4 0 p1 T18.heap ⟨xE19, xD19, xN19, xP19, xR19, xC19, xW19, xV19, xU19⟩ I18 (by omega) (by omega) own_full hp1 []) tw_97 tw_98 (ow_nf hw tw_100) tw_100 tw_99 tw_49 tw_101 (by decide) (allS ows_b4 all0) (by decide) (by decide) (ck' := 6) (sk' := 116) rfl rfl (by decide) (by decide) rfl (lenOf pd_8 rfl) (S := []) rfl (W := 0) (Nat.le_of_eq rfl) at_299 rfl ?_
        intro T87 v87 K87 hQ87 A87
        obtain ⟨ra87, co87, wi87, s87, L87, O87, I87, hv87⟩ := hQ87
        rcases hv87 with ⟨rfl, hb87, rl87⟩ | ⟨rfl, hb87, rl87⟩
        · skip
          show OwnWP _ _ _ _ _ _ _ _ _ T87 (mkF m 302 #[.val (.int va), .val (.int vb), .val (.int vc), .val (.long vx), .second, .val (.int p1), .val (.int p2), .val (.int (1 : Int32)), .val (.int (1 : Int32)), .val (.int (2 : Int32)), .val (.int fe), .val (.int nn), .val (.ref arr), .val (.ref en), .val (.ref eA), .val (.ref dA), .val (.ref b4), .val (.int (1 : Int32)), .unset] [(.int (0 : Int32))])
          obtain ⟨xE88, xD88, xN88, xP88, xR88, xC88, xW88, xV88, xU88⟩ := O87
          have rb87 := own_rb0 (4294967295 : Int64) p1 own_full hp1
          have ok87 := own_relE_ok _ _ _ _ _ rl87 rb87
          have hR87 : Rok ra87 := ⟨ok87.1, ok87.2.1⟩
          have e87 : Dich (own_D dd 4) 0 (own_r0 (4294967295 : Int64) p1).toInt 0 := own_bit0 _ _ _ _ _ _ d0 X18 hb87
          have f87 := own_relD dd 4 0 s87 _ _ _ _ e87 rl87
          have su87 := ok87.2.2
          have q087 : Dich (own_D dd (4 + s87)) L87 ra87.toInt s87 := by have q1 := f87; rw [Nat.zero_add] at q1; exact q1
          have X87 : co87.toInt = own_D dd (4 + s87) - L87 := own_exact1 dd co87 wi87 _ _ _ _ s87 I87 q087 rl87 ⟨by omega, by omega⟩
          refine ow_istore C A87 at_302 (Ls' := #[.val (.int va), .val (.int vb), .val (.int vc), .val (.long vx), .second, .val (.int p1), .val (.int p2), .val (.int (1 : Int32)), .val (.int (1 : Int32)), .val (.int (2 : Int32)), .val (.int fe), .val (.int nn), .val (.ref arr), .val (.ref en), .val (.ref eA), .val (.ref dA), .val (.ref b4), .val (.int (1 : Int32)), .val (.int (0 : Int32))]) rfl rfl ?_
          refine ow_iload C A87 at_304 rfl rfl ?_
          refine ow_iload C A87 at_306 rfl rfl ?_
          refine ow_icmp_ne C A87 at_308 (by decide) (pcY := 315) (by decide) (pcN := 311) rfl (fun _ => ?_) (fun zq => absurd zq (by decide))
          refine ow_iconst C A87 at_315 (v := 0) rfl rfl ?_
          refine ow_istore C A87 at_316 (Ls' := #[.val (.int va), .val (.int vb), .val (.int vc), .val (.long vx), .second, .val (.int p1), .val (.int p2), .val (.int (1 : Int32)), .val (.int (1 : Int32)), .val (.int (2 : Int32)), .val (.int fe), .val (.int nn), .val (.ref arr), .val (.ref en), .val (.ref eA), .val (.ref dA), .val (.ref b4), .val (.int (0 : Int32)), .val (.int (0 : Int32))]) rfl rfl ?_
          refine ow_iload C A87 at_318 rfl rfl ?_
          refine ow_iconst C A87 at_320 (v := 1) rfl rfl ?_
          refine ow_icmp_le C A87 at_321 (by decide) (pcY := 352) (by decide) (pcN := 324) rfl (fun zq => absurd (by decide) zq) (fun _ => ?_)
          refine ow_aload C A87 at_324 rfl rfl rfl ?_
          refine ow_iload C A87 at_326 rfl rfl ?_
          refine ow_callV C A87 (argsL := [(.int p2)]) xE88 (rm_dd l Z a0 hw b4 db18 kb18 dd ra87 co87 wi87 (4 + s87) L87 p2 T87.heap ⟨xE88, xD88, xN88, xP88, xR88, xC88, xW88, xV88, xU88⟩ I87 (by omega) (by omega) hR87 hp2 []) tw_97 tw_98 (ow_nf hw tw_100) tw_100 tw_99 tw_49 tw_101 (by decide) (allS ows_b4 all0) (by decide) (by decide) (ck' := 6) (sk' := 116) rfl rfl (by decide) (by decide) rfl (lenOf pd_8 rfl) (S := []) rfl (W := 0) (Nat.le_of_eq rfl) at_328 rfl ?_
          intro T89 v89 K89 hQ89 A89
          obtain ⟨ra89, co89, wi89, s89, L89, O89, I89, hv89⟩ := hQ89
          rcases hv89 with ⟨rfl, hb89, rl89⟩ | ⟨rfl, hb89, rl89⟩
          · skip
            show OwnWP _ _ _ _ _ _ _ _ _ T89 (mkF m 331 #[.val (.int va), .val (.int vb), .val (.int vc), .val (.long vx), .second, .val (.int p1), .val (.int p2), .val (.int (1 : Int32)), .val (.int (1 : Int32)), .val (.int (2 : Int32)), .val (.int fe), .val (.int nn), .val (.ref arr), .val (.ref en), .val (.ref eA), .val (.ref dA), .val (.ref b4), .val (.int (0 : Int32)), .val (.int (0 : Int32))] [(.int (0 : Int32))])
            obtain ⟨xE90, xD90, xN90, xP90, xR90, xC90, xW90, xV90, xU90⟩ := O89
            have rb89 := own_rb0 ra87 p2 hR87 hp2
            have ok89 := own_relE_ok _ _ _ _ _ rl89 rb89
            have hR89 : Rok ra89 := ⟨ok89.1, ok89.2.1⟩
            have e89 : Dich (own_D dd (4 + s87)) L87 (own_r0 ra87 p2).toInt (0 + s87) := own_bit0 _ _ _ _ _ _ f87 X87 hb89
            have f89 := own_relD dd (4 + s87) (0 + s87) s89 _ _ _ _ e89 rl89
            have su89 := ok89.2.2
            refine ow_istore C A89 at_331 (Ls' := #[.val (.int va), .val (.int vb), .val (.int vc), .val (.long vx), .second, .val (.int p1), .val (.int p2), .val (.int (1 : Int32)), .val (.int (1 : Int32)), .val (.int (2 : Int32)), .val (.int fe), .val (.int nn), .val (.ref arr), .val (.ref en), .val (.ref eA), .val (.ref dA), .val (.ref b4), .val (.int (0 : Int32)), .val (.int (0 : Int32))]) rfl rfl ?_
            refine ow_iload C A89 at_333 rfl rfl ?_
            refine ow_if_eq C A89 at_335 (by decide) (pcY := 349) (by decide) (pcN := 338) rfl (fun _ => ?_) (fun zq => absurd (by decide) zq)
            refine ow_iconst C A89 at_349 (v := 0) rfl rfl ?_
            refine ow_istore C A89 at_350 (Ls' := #[.val (.int va), .val (.int vb), .val (.int vc), .val (.long vx), .second, .val (.int p1), .val (.int p2), .val (.int (1 : Int32)), .val (.int (1 : Int32)), .val (.int (2 : Int32)), .val (.int fe), .val (.int nn), .val (.ref arr), .val (.ref en), .val (.ref eA), .val (.ref dA), .val (.ref b4), .val (.int (0 : Int32)), .val (.int (0 : Int32))]) rfl rfl ?_
            have hf0 : fe = 0 := by
              rcases hfe with q | ⟨-, rfl⟩
              · exact q
              · exfalso
                have g2 := own_back dd (4 + s1) _ _ _ _ _ e2 (by rw [show 4 + s1 + s2 = s1 + s2 + 4 from by omega]; exact iF)
                have rk : Rok ra1 := by have q := own_relE_ok _ _ _ _ _ e1 (own_rb1 _ _ own_full hp1); exact ⟨q.1, q.2.1⟩
                have bv := own_bdv ra1 p2 rk hp2
                have rv := own_r1v ra1 p2 rk hp2
                have r0 := own_r0v ra1 p2
                have g1 := own_back dd 4 _ _ _ _ _ e1 ⟨by omega, by unfold Rok at rk; omega⟩
                have bv1 := own_bdv 4294967295 p1 own_full hp1
                have rv1 := own_r1v 4294967295 p1 own_full hp1
                have r01 := own_r0v 4294967295 p1
                rw [own_fullv] at rv1 bv1
                omega
            subst hf0
            have f91 := ((((Ve.ext E6).keep K18 (ninS ne9 nin0)).keep K87 (ninS ne9 nin0)).keep K89 (ninS ne9 nin0))
            have f92 := (((f17.keep K18 (ninS ne10 nin0)).keep K87 (ninS ne10 nin0)).keep K89 (ninS ne10 nin0))
            exact law_352 hw C A89 va vb vc vx p1 p2 (1 : Int32) (1 : Int32) (2 : Int32) (0 : Int32) nn arr en eA dA b4 db18 ke kd kb18 dd ys _ ra89 co89 wi89 (0 : Int32) (.val (.int (0 : Int32))) ⟨xE90, xD90, xN90, xP90, xR90, xC90, xW90, xV90, xU90⟩ (f91) (f92) hdl hyl (by omega) (own_DIb _ _ _ _ _ I89) (Or.inl rfl) (Or.inl ⟨rfl, rfl⟩) (One.val rfl)
          · skip
            show OwnWP _ _ _ _ _ _ _ _ _ T89 (mkF m 331 #[.val (.int va), .val (.int vb), .val (.int vc), .val (.long vx), .second, .val (.int p1), .val (.int p2), .val (.int (1 : Int32)), .val (.int (1 : Int32)), .val (.int (2 : Int32)), .val (.int fe), .val (.int nn), .val (.ref arr), .val (.ref en), .val (.ref eA), .val (.ref dA), .val (.ref b4), .val (.int (0 : Int32)), .val (.int (0 : Int32))] [(.int (1 : Int32))])
            obtain ⟨xE93, xD93, xN93, xP93, xR93, xC93, xW93, xV93, xU93⟩ := O89
            have rb89 := own_rb1 ra87 p2 hR87 hp2
            have ok89 := own_relE_ok _ _ _ _ _ rl89 rb89
            have hR89 : Rok ra89 := ⟨ok89.1, ok89.2.1⟩
            have e89 : Dich (own_D dd (4 + s87)) (L87 + (own_bd ra87 p2).toInt) (own_r1 ra87 p2).toInt (0 + s87) := by rw [own_r1v ra87 p2 hR87 hp2]; exact own_bit1 _ _ _ _ _ _ f87 X87 hb89
            have f89 := own_relD dd (4 + s87) (0 + s87) s89 _ _ _ _ e89 rl89
            have su89 := ok89.2.2
            refine ow_istore C A89 at_331 (Ls' := #[.val (.int va), .val (.int vb), .val (.int vc), .val (.long vx), .second, .val (.int p1), .val (.int p2), .val (.int (1 : Int32)), .val (.int (1 : Int32)), .val (.int (2 : Int32)), .val (.int fe), .val (.int nn), .val (.ref arr), .val (.ref en), .val (.ref eA), .val (.ref dA), .val (.ref b4), .val (.int (0 : Int32)), .val (.int (1 : Int32))]) rfl rfl ?_
            refine ow_iload C A89 at_333 rfl rfl ?_
            refine ow_if_eq C A89 at_335 (by decide) (pcY := 349) (by decide) (pcN := 338) rfl (fun _ => ?_) (fun zq => absurd (by decide) zq)
            refine ow_iconst C A89 at_349 (v := 0) rfl rfl ?_
            refine ow_istore C A89 at_350 (Ls' := #[.val (.int va), .val (.int vb), .val (.int vc), .val (.long vx), .second, .val (.int p1), .val (.int p2), .val (.int (1 : Int32)), .val (.int (1 : Int32)), .val (.int (2 : Int32)), .val (.int fe), .val (.int nn), .val (.ref arr), .val (.ref en), .val (.ref eA), .val (.ref dA), .val (.ref b4), .val (.int (0 : Int32)), .val (.int (1 : Int32))]) rfl rfl ?_
            have hf0 : fe = 0 := by
              rcases hfe with q | ⟨-, rfl⟩
              · exact q
              · exfalso
                have g2 := own_back dd (4 + s1) _ _ _ _ _ e2 (by rw [show 4 + s1 + s2 = s1 + s2 + 4 from by omega]; exact iF)
                have rk : Rok ra1 := by have q := own_relE_ok _ _ _ _ _ e1 (own_rb1 _ _ own_full hp1); exact ⟨q.1, q.2.1⟩
                have bv := own_bdv ra1 p2 rk hp2
                have rv := own_r1v ra1 p2 rk hp2
                have r0 := own_r0v ra1 p2
                have g1 := own_back dd 4 _ _ _ _ _ e1 ⟨by omega, by unfold Rok at rk; omega⟩
                have bv1 := own_bdv 4294967295 p1 own_full hp1
                have rv1 := own_r1v 4294967295 p1 own_full hp1
                have r01 := own_r0v 4294967295 p1
                rw [own_fullv] at rv1 bv1
                omega
            subst hf0
            have f94 := ((((Ve.ext E6).keep K18 (ninS ne9 nin0)).keep K87 (ninS ne9 nin0)).keep K89 (ninS ne9 nin0))
            have f95 := (((f17.keep K18 (ninS ne10 nin0)).keep K87 (ninS ne10 nin0)).keep K89 (ninS ne10 nin0))
            exact law_352 hw C A89 va vb vc vx p1 p2 (1 : Int32) (1 : Int32) (2 : Int32) (0 : Int32) nn arr en eA dA b4 db18 ke kd kb18 dd ys _ ra89 co89 wi89 (0 : Int32) (.val (.int (1 : Int32))) ⟨xE93, xD93, xN93, xP93, xR93, xC93, xW93, xV93, xU93⟩ (f94) (f95) hdl hyl (by omega) (own_DIb _ _ _ _ _ I89) (Or.inl rfl) (Or.inl ⟨rfl, rfl⟩) (One.val rfl)
        · skip
          show OwnWP _ _ _ _ _ _ _ _ _ T87 (mkF m 302 #[.val (.int va), .val (.int vb), .val (.int vc), .val (.long vx), .second, .val (.int p1), .val (.int p2), .val (.int (1 : Int32)), .val (.int (1 : Int32)), .val (.int (2 : Int32)), .val (.int fe), .val (.int nn), .val (.ref arr), .val (.ref en), .val (.ref eA), .val (.ref dA), .val (.ref b4), .val (.int (1 : Int32)), .unset] [(.int (1 : Int32))])
          obtain ⟨xE96, xD96, xN96, xP96, xR96, xC96, xW96, xV96, xU96⟩ := O87
          have rb87 := own_rb1 (4294967295 : Int64) p1 own_full hp1
          have ok87 := own_relE_ok _ _ _ _ _ rl87 rb87
          have hR87 : Rok ra87 := ⟨ok87.1, ok87.2.1⟩
          have e87 : Dich (own_D dd 4) (0 + (own_bd (4294967295 : Int64) p1).toInt) (own_r1 (4294967295 : Int64) p1).toInt 0 := by rw [own_r1v (4294967295 : Int64) p1 own_full hp1]; exact own_bit1 _ _ _ _ _ _ d0 X18 hb87
          have f87 := own_relD dd 4 0 s87 _ _ _ _ e87 rl87
          have su87 := ok87.2.2
          have q087 : Dich (own_D dd (4 + s87)) L87 ra87.toInt s87 := by have q1 := f87; rw [Nat.zero_add] at q1; exact q1
          have X87 : co87.toInt = own_D dd (4 + s87) - L87 := own_exact1 dd co87 wi87 _ _ _ _ s87 I87 q087 rl87 ⟨by omega, by omega⟩
          refine ow_istore C A87 at_302 (Ls' := #[.val (.int va), .val (.int vb), .val (.int vc), .val (.long vx), .second, .val (.int p1), .val (.int p2), .val (.int (1 : Int32)), .val (.int (1 : Int32)), .val (.int (2 : Int32)), .val (.int fe), .val (.int nn), .val (.ref arr), .val (.ref en), .val (.ref eA), .val (.ref dA), .val (.ref b4), .val (.int (1 : Int32)), .val (.int (1 : Int32))]) rfl rfl ?_
          refine ow_iload C A87 at_304 rfl rfl ?_
          refine ow_iload C A87 at_306 rfl rfl ?_
          refine ow_icmp_ne C A87 at_308 (by decide) (pcY := 315) (by decide) (pcN := 311) rfl (fun zq => absurd (by decide) zq) (fun _ => ?_)
          refine ow_iconst C A87 at_311 (v := 1) rfl rfl ?_
          refine ow_goto C A87 at_312 (by decide) (pc' := 316) (by decide) ?_
          refine ow_istore C A87 at_316 (Ls' := #[.val (.int va), .val (.int vb), .val (.int vc), .val (.long vx), .second, .val (.int p1), .val (.int p2), .val (.int (1 : Int32)), .val (.int (1 : Int32)), .val (.int (2 : Int32)), .val (.int fe), .val (.int nn), .val (.ref arr), .val (.ref en), .val (.ref eA), .val (.ref dA), .val (.ref b4), .val (.int (1 : Int32)), .val (.int (1 : Int32))]) rfl rfl ?_
          refine ow_iload C A87 at_318 rfl rfl ?_
          refine ow_iconst C A87 at_320 (v := 1) rfl rfl ?_
          refine ow_icmp_le C A87 at_321 (by decide) (pcY := 352) (by decide) (pcN := 324) rfl (fun zq => absurd (by decide) zq) (fun _ => ?_)
          refine ow_aload C A87 at_324 rfl rfl rfl ?_
          refine ow_iload C A87 at_326 rfl rfl ?_
          refine ow_callV C A87 (argsL := [(.int p2)]) xE96 (rm_dd l Z a0 hw b4 db18 kb18 dd ra87 co87 wi87 (4 + s87) L87 p2 T87.heap ⟨xE96, xD96, xN96, xP96, xR96, xC96, xW96, xV96, xU96⟩ I87 (by omega) (by omega) hR87 hp2 []) tw_97 tw_98 (ow_nf hw tw_100) tw_100 tw_99 tw_49 tw_101 (by decide) (allS ows_b4 all0) (by decide) (by decide) (ck' := 6) (sk' := 116) rfl rfl (by decide) (by decide) rfl (lenOf pd_8 rfl) (S := []) rfl (W := 0) (Nat.le_of_eq rfl) at_328 rfl ?_
          intro T97 v97 K97 hQ97 A97
          obtain ⟨ra97, co97, wi97, s97, L97, O97, I97, hv97⟩ := hQ97
          rcases hv97 with ⟨rfl, hb97, rl97⟩ | ⟨rfl, hb97, rl97⟩
          · skip
            show OwnWP _ _ _ _ _ _ _ _ _ T97 (mkF m 331 #[.val (.int va), .val (.int vb), .val (.int vc), .val (.long vx), .second, .val (.int p1), .val (.int p2), .val (.int (1 : Int32)), .val (.int (1 : Int32)), .val (.int (2 : Int32)), .val (.int fe), .val (.int nn), .val (.ref arr), .val (.ref en), .val (.ref eA), .val (.ref dA), .val (.ref b4), .val (.int (1 : Int32)), .val (.int (1 : Int32))] [(.int (0 : Int32))])
            obtain ⟨xE98, xD98, xN98, xP98, xR98, xC98, xW98, xV98, xU98⟩ := O97
            have rb97 := own_rb0 ra87 p2 hR87 hp2
            have ok97 := own_relE_ok _ _ _ _ _ rl97 rb97
            have hR97 : Rok ra97 := ⟨ok97.1, ok97.2.1⟩
            have e97 : Dich (own_D dd (4 + s87)) L87 (own_r0 ra87 p2).toInt (0 + s87) := own_bit0 _ _ _ _ _ _ f87 X87 hb97
            have f97 := own_relD dd (4 + s87) (0 + s87) s97 _ _ _ _ e97 rl97
            have su97 := ok97.2.2
            refine ow_istore C A97 at_331 (Ls' := #[.val (.int va), .val (.int vb), .val (.int vc), .val (.long vx), .second, .val (.int p1), .val (.int p2), .val (.int (1 : Int32)), .val (.int (1 : Int32)), .val (.int (2 : Int32)), .val (.int fe), .val (.int nn), .val (.ref arr), .val (.ref en), .val (.ref eA), .val (.ref dA), .val (.ref b4), .val (.int (1 : Int32)), .val (.int (0 : Int32))]) rfl rfl ?_
            refine ow_iload C A97 at_333 rfl rfl ?_
            refine ow_if_eq C A97 at_335 (by decide) (pcY := 349) (by decide) (pcN := 338) rfl (fun zq => absurd zq (by decide)) (fun _ => ?_)
            refine ow_iload C A97 at_338 rfl rfl ?_
            refine ow_iload C A97 at_340 rfl rfl ?_
            refine ow_icmp_ne C A97 at_342 (by decide) (pcY := 349) (by decide) (pcN := 345) rfl (fun _ => ?_) (fun zq => absurd zq (by decide))
            refine ow_iconst C A97 at_349 (v := 0) rfl rfl ?_
            refine ow_istore C A97 at_350 (Ls' := #[.val (.int va), .val (.int vb), .val (.int vc), .val (.long vx), .second, .val (.int p1), .val (.int p2), .val (.int (1 : Int32)), .val (.int (1 : Int32)), .val (.int (2 : Int32)), .val (.int fe), .val (.int nn), .val (.ref arr), .val (.ref en), .val (.ref eA), .val (.ref dA), .val (.ref b4), .val (.int (0 : Int32)), .val (.int (0 : Int32))]) rfl rfl ?_
            have hf0 : fe = 0 := by
              rcases hfe with q | ⟨-, rfl⟩
              · exact q
              · exfalso
                have g2 := own_back dd (4 + s1) _ _ _ _ _ e2 (by rw [show 4 + s1 + s2 = s1 + s2 + 4 from by omega]; exact iF)
                have rk : Rok ra1 := by have q := own_relE_ok _ _ _ _ _ e1 (own_rb1 _ _ own_full hp1); exact ⟨q.1, q.2.1⟩
                have bv := own_bdv ra1 p2 rk hp2
                have rv := own_r1v ra1 p2 rk hp2
                have r0 := own_r0v ra1 p2
                have g1 := own_back dd 4 _ _ _ _ _ e1 ⟨by omega, by unfold Rok at rk; omega⟩
                have bv1 := own_bdv 4294967295 p1 own_full hp1
                have rv1 := own_r1v 4294967295 p1 own_full hp1
                have r01 := own_r0v 4294967295 p1
                rw [own_fullv] at rv1 bv1
                obtain ⟨u1, u2, u3⟩ := own_relE_un _ _ _ _ _ _ _ _ e1 rl87
                obtain rfl : ra1 = ra87 := own_eq64 u1
                subst u2 u3
                omega
            subst hf0
            have f99 := ((((Ve.ext E6).keep K18 (ninS ne9 nin0)).keep K87 (ninS ne9 nin0)).keep K97 (ninS ne9 nin0))
            have f100 := (((f17.keep K18 (ninS ne10 nin0)).keep K87 (ninS ne10 nin0)).keep K97 (ninS ne10 nin0))
            exact law_352 hw C A97 va vb vc vx p1 p2 (1 : Int32) (1 : Int32) (2 : Int32) (0 : Int32) nn arr en eA dA b4 db18 ke kd kb18 dd ys _ ra97 co97 wi97 (0 : Int32) (.val (.int (0 : Int32))) ⟨xE98, xD98, xN98, xP98, xR98, xC98, xW98, xV98, xU98⟩ (f99) (f100) hdl hyl (by omega) (own_DIb _ _ _ _ _ I97) (Or.inl rfl) (Or.inl ⟨rfl, rfl⟩) (One.val rfl)
          · skip
            show OwnWP _ _ _ _ _ _ _ _ _ T97 (mkF m 331 #[.val (.int va), .val (.int vb), .val (.int vc), .val (.long vx), .second, .val (.int p1), .val (.int p2), .val (.int (1 : Int32)), .val (.int (1 : Int32)), .val (.int (2 : Int32)), .val (.int fe), .val (.int nn), .val (.ref arr), .val (.ref en), .val (.ref eA), .val (.ref dA), .val (.ref b4), .val (.int (1 : Int32)), .val (.int (1 : Int32))] [(.int (1 : Int32))])
            obtain ⟨xE101, xD101, xN101, xP101, xR101, xC101, xW101, xV101, xU101⟩ := O97
            have rb97 := own_rb1 ra87 p2 hR87 hp2
            have ok97 := own_relE_ok _ _ _ _ _ rl97 rb97
            have hR97 : Rok ra97 := ⟨ok97.1, ok97.2.1⟩
            have e97 : Dich (own_D dd (4 + s87)) (L87 + (own_bd ra87 p2).toInt) (own_r1 ra87 p2).toInt (0 + s87) := by rw [own_r1v ra87 p2 hR87 hp2]; exact own_bit1 _ _ _ _ _ _ f87 X87 hb97
            have f97 := own_relD dd (4 + s87) (0 + s87) s97 _ _ _ _ e97 rl97
            have su97 := ok97.2.2
            refine ow_istore C A97 at_331 (Ls' := #[.val (.int va), .val (.int vb), .val (.int vc), .val (.long vx), .second, .val (.int p1), .val (.int p2), .val (.int (1 : Int32)), .val (.int (1 : Int32)), .val (.int (2 : Int32)), .val (.int fe), .val (.int nn), .val (.ref arr), .val (.ref en), .val (.ref eA), .val (.ref dA), .val (.ref b4), .val (.int (1 : Int32)), .val (.int (1 : Int32))]) rfl rfl ?_
            refine ow_iload C A97 at_333 rfl rfl ?_
            refine ow_if_eq C A97 at_335 (by decide) (pcY := 349) (by decide) (pcN := 338) rfl (fun zq => absurd zq (by decide)) (fun _ => ?_)
            refine ow_iload C A97 at_338 rfl rfl ?_
            refine ow_iload C A97 at_340 rfl rfl ?_
            refine ow_icmp_ne C A97 at_342 (by decide) (pcY := 349) (by decide) (pcN := 345) rfl (fun zq => absurd (by decide) zq) (fun _ => ?_)
            refine ow_iconst C A97 at_345 (v := 1) rfl rfl ?_
            refine ow_goto C A97 at_346 (by decide) (pc' := 350) (by decide) ?_
            refine ow_istore C A97 at_350 (Ls' := #[.val (.int va), .val (.int vb), .val (.int vc), .val (.long vx), .second, .val (.int p1), .val (.int p2), .val (.int (1 : Int32)), .val (.int (1 : Int32)), .val (.int (2 : Int32)), .val (.int fe), .val (.int nn), .val (.ref arr), .val (.ref en), .val (.ref eA), .val (.ref dA), .val (.ref b4), .val (.int (1 : Int32)), .val (.int (1 : Int32))]) rfl rfl ?_
            obtain ⟨u1, u2, u3⟩ := own_relE_un _ _ _ _ _ _ _ _ e1 rl87
            obtain rfl : ra1 = ra87 := own_eq64 u1
            subst u2 u3
            obtain ⟨v1, v2, v3⟩ := own_relE_un _ _ _ _ _ _ _ _ e2 rl97
            subst v1 v2 v3
            have hiff := own_leafC dd ys _ (4 + _ + _) _ _ _ _ _ hF (by omega) rfl I97 (by have q := f97; rw [Nat.zero_add] at q; exact q) hbd
            have f102 := ((((Ve.ext E6).keep K18 (ninS ne9 nin0)).keep K87 (ninS ne9 nin0)).keep K97 (ninS ne9 nin0))
            have f103 := (((f17.keep K18 (ninS ne10 nin0)).keep K87 (ninS ne10 nin0)).keep K97 (ninS ne10 nin0))
            exact law_352 hw C A97 va vb vc vx p1 p2 (1 : Int32) (1 : Int32) (2 : Int32) fe nn arr en eA dA b4 db18 ke kd kb18 dd ys _ ra97 co97 wi97 (1 : Int32) (.val (.int (1 : Int32))) ⟨xE101, xD101, xN101, xP101, xR101, xC101, xW101, xV101, xU101⟩ (f102) (f103) hdl hyl (by omega) (own_DIb _ _ _ _ _ I97) hfe' (Or.inr ⟨rfl, hiff⟩) (One.val rfl)
set_option maxRecDepth 65536 in
set_option maxHeartbeats 40000000 in
theorem law_217 {p : Program} {l : Launch} {e : Env} {s : State} {m : MethodId} {args : Array Value} {below : List Frame} {meth : Method} {c : Code} {Z : State} {a0 : Array Value} {h0 h : Heap} {T : State} (hw : ∀ d ∈ tables_1, d.before a0 Z = true) (C : OwnCtx p s m meth c Z a0 tables_1 x code maxLocals ret) (A : OwnPos p l e room_1 s m args below meth c h0 [] T h 1 8) (va vb vc : Int32) (vx : Int64) (p1 p2 b1 b2 k fe nn : Int32) (arr : Addr) (ka : ClassId) (ds : List Int32) (Va : Arv Z h arr ka .byte (Int32.ofNat ds.length) (ds.map Value.int) (.int (0 : Int32))) (hdl : ds.length ≤ 8) (hbd : Byt ds) (hfe : fe = 0 ∨ fe = 1) (hk : k = 0 ∨ k = 1 ∨ k = 2) (hp1 : Pok p1) (hp2 : Pok p2) (hb1 : b1 = 0 ∨ b1 = 1) (hb2 : b2 = 0 ∨ b2 = 1) :
    OwnWP p e below s h0 [] Q0 room_1.cells room_1.slots T (mkF m 217 #[.val (.int va), .val (.int vb), .val (.int vc), .val (.long vx), .second, .val (.int p1), .val (.int p2), .val (.int b1), .val (.int b2), .val (.int k), .val (.int fe), .val (.int nn), .val (.ref arr), .unset, .unset, .unset, .unset, .unset, .unset] []) := by
  refine ow_new C A tw_2 tw_3 tw_4 at_217 rfl (ck' := 2) (sk' := 14) rfl rfl (by decide) (by decide) ?_
  intro T1 h3 b4 g5 E6 X7 D8 A2
  have ne9 : arr ≠ b4 := Nat.ne_of_lt (Nat.lt_of_lt_of_le Va.lt (Nat.le_of_eq g5.symm))
  have ows_b4 : b4 ∈ ([] : List Addr) ∨ h0.size ≤ b4 := Or.inr (Nat.le_trans (ow_le A) (Nat.le_of_eq g5.symm))
  have f10 : Fld Z h3 b4 "com/example/phasorwire/phasorwire/RangeEncoder" "range" "J" (.long (0 : Int64)) := D8 (Or.inl (hw _ tw_13)) (ty := .long) (by decide)
  have f11 : Fld Z h3 b4 "com/example/phasorwire/phasorwire/RangeEncoder" "held" "I" (.int (0 : Int32)) := D8 (Or.inl (hw _ tw_15)) (ty := .int) (by decide)
  have f12 : Fld Z h3 b4 "com/example/phasorwire/phasorwire/RangeEncoder" "bytes" "[B" .null := D8 (Or.inl (hw _ tw_17)) (ty := (.array .byte)) (by decide)
  have f13 : Fld Z h3 b4 "com/example/phasorwire/phasorwire/RangeEncoder" "low" "J" (.long (0 : Int64)) := D8 (Or.inl (hw _ tw_24)) (ty := .long) (by decide)
  have f14 : Fld Z h3 b4 "com/example/phasorwire/phasorwire/RangeEncoder" "heldOnes" "J" (.long (0 : Int64)) := D8 (Or.inl (hw _ tw_31)) (ty := .long) (by decide)
  have f15 : Fld Z h3 b4 "com/example/phasorwire/phasorwire/RangeEncoder" "length" "I" (.int (0 : Int32)) := D8 (Or.inl (hw _ tw_34)) (ty := .int) (by decide)
  refine ow_dup C A2 at_220 rfl rfl ?_
  have f16 := (Va.ext E6)
  refine ow_callI C A2 (argsL := []) (a := b4) (rm_init l Z a0 hw b4 h3 X7 f13 f10 f11 f14 f12 f15 []) rfl tw_5 tw_6 tw_4 tw_7 (by decide) (allS ows_b4 all0) (by decide) (by decide) (ck' := 3) (sk' := 46) rfl rfl (by decide) (by decide) rfl (lenOf pd_2 rfl) (S := [(.ref b4)]) rfl (W := 1) (Nat.le_of_eq rfl) at_221 rfl ?_
  intro T17 v17 K17 hQ17 A17
  obtain ⟨rfl, bb17, kb17, O17, g17⟩ := hQ17
  show OwnWP _ _ _ _ _ _ _ _ _ T17 (mkF m 224 #[.val (.int va), .val (.int vb), .val (.int vc), .val (.long vx), .second, .val (.int p1), .val (.int p2), .val (.int b1), .val (.int b2), .val (.int k), .val (.int fe), .val (.int nn), .val (.ref arr), .unset, .unset, .unset, .unset, .unset, .unset] [(.ref b4)])
  obtain ⟨xE18, xL18, xR18, xH18, xO18, xB18, xN18, xV18, xU18⟩ := O17
  have ne17 : arr ≠ bb17 := Nat.ne_of_lt (Nat.lt_of_lt_of_le f16.lt g17)
  have J17 : EI 0 (-1) 0 [] 0 0 4294967295 := ⟨by decide, by decide, by decide, by decide, own_byt_nil, Or.inl ⟨by decide, rfl, rfl, rfl, by decide⟩⟩
  refine ow_astore C A17 at_224 rfl (Ls' := #[.val (.int va), .val (.int vb), .val (.int vc), .val (.long vx), .second, .val (.int p1), .val (.int p2), .val (.int b1), .val (.int b2), .val (.int k), .val (.int fe), .val (.int nn), .val (.ref arr), .val (.ref b4), .unset, .unset, .unset, .unset, .unset]) rfl rfl ?_
  have big := own_big p1 hp1
  rcases hk with rfl | rfl | rfl
  · skip
    refine ow_iload C A17 at_226 rfl rfl ?_
    refine ow_if_le C A17 at_228 (by decide) (pcY := 240) (by decide) (pcN := 231) rfl (fun _ => ?_) (fun zq => absurd zq (by decide))
    refine ow_iload C A17 at_240 rfl rfl ?_
    refine ow_iconst C A17 at_242 (v := 1) rfl rfl ?_
    refine ow_icmp_le C A17 at_243 (by decide) (pcY := 255) (by decide) (pcN := 246) rfl (fun _ => ?_) (fun zq => absurd zq (by decide))
    refine ow_aload C A17 at_255 rfl rfl rfl ?_
    refine ow_callV C A17 (argsL := []) xE18 (rm_fin l Z a0 hw b4 bb17 kb17 (0 : Int64) (4294967295 : Int64) (-1 : Int32) (0 : Int64) ([] : List Int32) 0 0 T17.heap ⟨xE18, xL18, xR18, xH18, xO18, xB18, xN18, xV18, xU18⟩ J17 (by omega) own_full []) tw_18 tw_19 (ow_nf hw tw_21) tw_21 tw_20 tw_4 tw_22 (by decide) (allS ows_b4 (allS (Or.inr (Nat.le_trans (ow_le A2) g17)) all0)) (by decide) (by decide) (ck' := 4) (sk' := 78) rfl rfl (by decide) (by decide) rfl (lenOf pd_9 rfl) (S := []) rfl (W := 0) (Nat.le_of_eq rfl) at_257 rfl ?_
    intro T19 v19 K19 hQ19 A19
    obtain ⟨rr19, kr19, ys19, rfl, g19, yR19, y119, y219, y319, y419⟩ := hQ19
    show OwnWP _ _ _ _ _ _ _ _ _ T19 (mkF m 260 #[.val (.int va), .val (.int vb), .val (.int vc), .val (.long vx), .second, .val (.int p1), .val (.int p2), .val (.int b1), .val (.int b2), .val (.int (0 : Int32)), .val (.int fe), .val (.int nn), .val (.ref arr), .val (.ref b4), .unset, .unset, .unset, .unset, .unset] [(.ref rr19)])
    refine ow_astore C A19 at_260 rfl (Ls' := #[.val (.int va), .val (.int vb), .val (.int vc), .val (.long vx), .second, .val (.int p1), .val (.int p2), .val (.int b1), .val (.int b2), .val (.int (0 : Int32)), .val (.int fe), .val (.int nn), .val (.ref arr), .val (.ref b4), .val (.ref rr19), .unset, .unset, .unset, .unset]) rfl rfl ?_
    have hF : Fin ys19 0 0 4294967295 := ⟨y119, y219, y319, y419, by decide, by decide, by decide⟩
    have hE : EF (0 : Int32) b1 b2 p1 p2 ys19 0 0 4294967295 := Or.inl ⟨rfl, rfl, rfl, rfl⟩
    rcases hfe with rfl | rfl
    · skip
      refine ow_iload C A19 at_262 rfl rfl ?_
      refine ow_if_eq C A19 at_264 (by decide) (pcY := 272) (by decide) (pcN := 267) rfl (fun _ => ?_) (fun zq => absurd (by decide) zq)
      refine ow_aload C A19 at_272 rfl rfl rfl ?_
      refine ow_astore C A19 at_274 rfl (Ls' := #[.val (.int va), .val (.int vb), .val (.int vc), .val (.long vx), .second, .val (.int p1), .val (.int p2), .val (.int b1), .val (.int b2), .val (.int (0 : Int32)), .val (.int (0 : Int32)), .val (.int nn), .val (.ref arr), .val (.ref b4), .val (.ref rr19), .val (.ref arr), .unset, .unset, .unset]) rfl rfl ?_
      have f20 := ((f16.keep K17 (ninS ne9 nin0)).keep K19 (ninS ne9 (ninS ne17 nin0)))
      exact law_276 hw C A19 va vb vc vx p1 p2 b1 b2 (0 : Int32) (0 : Int32) nn arr b4 rr19 arr kr19 ka ds ys19 _ _ _ yR19 f20 hdl hbd (Or.inl rfl) hE hF hp1 hp2 hb1 hb2
    · skip
      refine ow_iload C A19 at_262 rfl rfl ?_
      refine ow_if_eq C A19 at_264 (by decide) (pcY := 272) (by decide) (pcN := 267) rfl (fun zq => absurd zq (by decide)) (fun _ => ?_)
      refine ow_aload C A19 at_267 rfl rfl rfl ?_
      refine ow_goto C A19 at_269 (by decide) (pc' := 274) (by decide) ?_
      refine ow_astore C A19 at_274 rfl (Ls' := #[.val (.int va), .val (.int vb), .val (.int vc), .val (.long vx), .second, .val (.int p1), .val (.int p2), .val (.int b1), .val (.int b2), .val (.int (0 : Int32)), .val (.int (1 : Int32)), .val (.int nn), .val (.ref arr), .val (.ref b4), .val (.ref rr19), .val (.ref rr19), .unset, .unset, .unset]) rfl rfl ?_
      exact law_276 hw C A19 va vb vc vx p1 p2 b1 b2 (0 : Int32) (1 : Int32) nn arr b4 rr19 rr19 kr19 kr19 ys19 ys19 _ _ _ yR19 yR19 (by have q := hF.2.2.1; have q2 := hF.2.2.2.2.2.2; omega) y119 (Or.inr ⟨rfl, rfl⟩) hE hF hp1 hp2 hb1 hb2
  · rcases hb1 with rfl | rfl
    · skip
      refine ow_iload C A17 at_226 rfl rfl ?_
      refine ow_if_le C A17 at_228 (by decide) (pcY := 240) (by decide) (pcN := 231) rfl (fun zq => absurd (by decide) zq) (fun _ => ?_)
      refine ow_aload C A17 at_231 rfl rfl rfl ?_
      refine ow_iload C A17 at_233 rfl rfl ?_
      refine ow_iload C A17 at_235 rfl rfl ?_
      refine ow_callV C A17 (argsL := [(.int p1), (.int (0 : Int32))]) xE18 (rm_enc0 l Z a0 hw b4 bb17 kb17 (0 : Int64) (4294967295 : Int64) (-1 : Int32) (0 : Int64) ([] : List Int32) p1 0 0 T17.heap ⟨xE18, xL18, xR18, xH18, xO18, xB18, xN18, xV18, xU18⟩ J17 (by omega) own_full hp1 []) tw_85 tw_86 (ow_nf hw tw_88) tw_88 tw_87 tw_4 tw_89 (by decide) (allS ows_b4 (allS (Or.inr (Nat.le_trans (ow_le A2) g17)) all0)) (by decide) (by decide) (ck' := 3) (sk' := 46) rfl rfl (by decide) (by decide) rfl (lenOf pd_10 rfl) (S := []) rfl (W := 0) (Nat.le_of_eq rfl) at_237 rfl ?_
      intro T21 v21 K21 hQ21 A21
      obtain ⟨rfl, lo21, ra21, he21, on21, bs21, s21, L21, O21, rl21, I21⟩ := hQ21
      show OwnWP _ _ _ _ _ _ _ _ _ T21 (mkF m 240 #[.val (.int va), .val (.int vb), .val (.int vc), .val (.long vx), .second, .val (.int p1), .val (.int p2), .val (.int (0 : Int32)), .val (.int b2), .val (.int (1 : Int32)), .val (.int fe), .val (.int nn), .val (.ref arr), .val (.ref b4), .unset, .unset, .unset, .unset, .unset] [])
      obtain ⟨xE22, xL22, xR22, xH22, xO22, xB22, xN22, xV22, xU22⟩ := O21
      have rb21 := own_rb0 (4294967295 : Int64) p1 own_full hp1
      have ok21 := own_relE_ok _ _ _ _ _ rl21 rb21
      have hR21 : Rok ra21 := ⟨ok21.1, ok21.2.1⟩
      have su21 := ok21.2.2
      refine ow_iload C A21 at_240 rfl rfl ?_
      refine ow_iconst C A21 at_242 (v := 1) rfl rfl ?_
      refine ow_icmp_le C A21 at_243 (by decide) (pcY := 255) (by decide) (pcN := 246) rfl (fun _ => ?_) (fun zq => absurd zq (by decide))
      refine ow_aload C A21 at_255 rfl rfl rfl ?_
      refine ow_callV C A21 (argsL := []) xE22 (rm_fin l Z a0 hw b4 bb17 kb17 lo21 ra21 he21 on21 bs21 (0 + s21) L21 T21.heap ⟨xE22, xL22, xR22, xH22, xO22, xB22, xN22, xV22, xU22⟩ I21 (by omega) hR21 []) tw_18 tw_19 (ow_nf hw tw_21) tw_21 tw_20 tw_4 tw_22 (by decide) (allS ows_b4 (allS (Or.inr (Nat.le_trans (ow_le A2) g17)) all0)) (by decide) (by decide) (ck' := 4) (sk' := 78) rfl rfl (by decide) (by decide) rfl (lenOf pd_9 rfl) (S := []) rfl (W := 0) (Nat.le_of_eq rfl) at_257 rfl ?_
      intro T23 v23 K23 hQ23 A23
      obtain ⟨rr23, kr23, ys23, rfl, g23, yR23, y123, y223, y323, y423⟩ := hQ23
      show OwnWP _ _ _ _ _ _ _ _ _ T23 (mkF m 260 #[.val (.int va), .val (.int vb), .val (.int vc), .val (.long vx), .second, .val (.int p1), .val (.int p2), .val (.int (0 : Int32)), .val (.int b2), .val (.int (1 : Int32)), .val (.int fe), .val (.int nn), .val (.ref arr), .val (.ref b4), .unset, .unset, .unset, .unset, .unset] [(.ref rr23)])
      refine ow_astore C A23 at_260 rfl (Ls' := #[.val (.int va), .val (.int vb), .val (.int vc), .val (.long vx), .second, .val (.int p1), .val (.int p2), .val (.int (0 : Int32)), .val (.int b2), .val (.int (1 : Int32)), .val (.int fe), .val (.int nn), .val (.ref arr), .val (.ref b4), .val (.ref rr23), .unset, .unset, .unset, .unset]) rfl rfl ?_
      have hF : Fin ys23 (0 + s21) L21 ra21.toInt := ⟨y123, y223, y323, y423, ok21.1, ok21.2.1, by have z := rb21; unfold own_relE at rl21; omega⟩
      have hE : EF (1 : Int32) (0 : Int32) b2 p1 p2 ys23 (0 + s21) L21 ra21.toInt := Or.inr (Or.inl ⟨rfl, rfl, by rw [Nat.zero_add]; exact rl21⟩)
      rcases hfe with rfl | rfl
      · skip
        refine ow_iload C A23 at_262 rfl rfl ?_
        refine ow_if_eq C A23 at_264 (by decide) (pcY := 272) (by decide) (pcN := 267) rfl (fun _ => ?_) (fun zq => absurd (by decide) zq)
        refine ow_aload C A23 at_272 rfl rfl rfl ?_
        refine ow_astore C A23 at_274 rfl (Ls' := #[.val (.int va), .val (.int vb), .val (.int vc), .val (.long vx), .second, .val (.int p1), .val (.int p2), .val (.int (0 : Int32)), .val (.int b2), .val (.int (1 : Int32)), .val (.int (0 : Int32)), .val (.int nn), .val (.ref arr), .val (.ref b4), .val (.ref rr23), .val (.ref arr), .unset, .unset, .unset]) rfl rfl ?_
        have f24 := (((f16.keep K17 (ninS ne9 nin0)).keep K21 (ninS ne9 (ninS ne17 nin0))).keep K23 (ninS ne9 (ninS ne17 nin0)))
        exact law_276 hw C A23 va vb vc vx p1 p2 (0 : Int32) b2 (1 : Int32) (0 : Int32) nn arr b4 rr23 arr kr23 ka ds ys23 _ _ _ yR23 f24 hdl hbd (Or.inl rfl) hE hF hp1 hp2 (Or.inl rfl) hb2
      · skip
        refine ow_iload C A23 at_262 rfl rfl ?_
        refine ow_if_eq C A23 at_264 (by decide) (pcY := 272) (by decide) (pcN := 267) rfl (fun zq => absurd zq (by decide)) (fun _ => ?_)
        refine ow_aload C A23 at_267 rfl rfl rfl ?_
        refine ow_goto C A23 at_269 (by decide) (pc' := 274) (by decide) ?_
        refine ow_astore C A23 at_274 rfl (Ls' := #[.val (.int va), .val (.int vb), .val (.int vc), .val (.long vx), .second, .val (.int p1), .val (.int p2), .val (.int (0 : Int32)), .val (.int b2), .val (.int (1 : Int32)), .val (.int (1 : Int32)), .val (.int nn), .val (.ref arr), .val (.ref b4), .val (.ref rr23), .val (.ref rr23), .unset, .unset, .unset]) rfl rfl ?_
        exact law_276 hw C A23 va vb vc vx p1 p2 (0 : Int32) b2 (1 : Int32) (1 : Int32) nn arr b4 rr23 rr23 kr23 kr23 ys23 ys23 _ _ _ yR23 yR23 (by have q := hF.2.2.1; have q2 := hF.2.2.2.2.2.2; omega) y123 (Or.inr ⟨rfl, rfl⟩) hE hF hp1 hp2 (Or.inl rfl) hb2
    · skip
      refine ow_iload C A17 at_226 rfl rfl ?_
      refine ow_if_le C A17 at_228 (by decide) (pcY := 240) (by decide) (pcN := 231) rfl (fun zq => absurd (by decide) zq) (fun _ => ?_)
      refine ow_aload C A17 at_231 rfl rfl rfl ?_
      refine ow_iload C A17 at_233 rfl rfl ?_
      refine ow_iload C A17 at_235 rfl rfl ?_
      refine ow_callV C A17 (argsL := [(.int p1), (.int (1 : Int32))]) xE18 (rm_enc1 l Z a0 hw b4 bb17 kb17 (0 : Int64) (4294967295 : Int64) (-1 : Int32) (0 : Int64) ([] : List Int32) p1 0 0 T17.heap ⟨xE18, xL18, xR18, xH18, xO18, xB18, xN18, xV18, xU18⟩ J17 (by omega) own_full hp1 []) tw_85 tw_86 (ow_nf hw tw_88) tw_88 tw_87 tw_4 tw_89 (by decide) (allS ows_b4 (allS (Or.inr (Nat.le_trans (ow_le A2) g17)) all0)) (by decide) (by decide) (ck' := 3) (sk' := 46) rfl rfl (by decide) (by decide) rfl (lenOf pd_10 rfl) (S := []) rfl (W := 0) (Nat.le_of_eq rfl) at_237 rfl ?_
      intro T25 v25 K25 hQ25 A25
      obtain ⟨rfl, lo25, ra25, he25, on25, bs25, s25, L25, O25, rl25, I25⟩ := hQ25
      show OwnWP _ _ _ _ _ _ _ _ _ T25 (mkF m 240 #[.val (.int va), .val (.int vb), .val (.int vc), .val (.long vx), .second, .val (.int p1), .val (.int p2), .val (.int (1 : Int32)), .val (.int b2), .val (.int (1 : Int32)), .val (.int fe), .val (.int nn), .val (.ref arr), .val (.ref b4), .unset, .unset, .unset, .unset, .unset] [])
      obtain ⟨xE26, xL26, xR26, xH26, xO26, xB26, xN26, xV26, xU26⟩ := O25
      have rb25 := own_rb1 (4294967295 : Int64) p1 own_full hp1
      have ok25 := own_relE_ok _ _ _ _ _ rl25 rb25
      have hR25 : Rok ra25 := ⟨ok25.1, ok25.2.1⟩
      have su25 := ok25.2.2
      refine ow_iload C A25 at_240 rfl rfl ?_
      refine ow_iconst C A25 at_242 (v := 1) rfl rfl ?_
      refine ow_icmp_le C A25 at_243 (by decide) (pcY := 255) (by decide) (pcN := 246) rfl (fun _ => ?_) (fun zq => absurd zq (by decide))
      refine ow_aload C A25 at_255 rfl rfl rfl ?_
      refine ow_callV C A25 (argsL := []) xE26 (rm_fin l Z a0 hw b4 bb17 kb17 lo25 ra25 he25 on25 bs25 (0 + s25) L25 T25.heap ⟨xE26, xL26, xR26, xH26, xO26, xB26, xN26, xV26, xU26⟩ I25 (by omega) hR25 []) tw_18 tw_19 (ow_nf hw tw_21) tw_21 tw_20 tw_4 tw_22 (by decide) (allS ows_b4 (allS (Or.inr (Nat.le_trans (ow_le A2) g17)) all0)) (by decide) (by decide) (ck' := 4) (sk' := 78) rfl rfl (by decide) (by decide) rfl (lenOf pd_9 rfl) (S := []) rfl (W := 0) (Nat.le_of_eq rfl) at_257 rfl ?_
      intro T27 v27 K27 hQ27 A27
      obtain ⟨rr27, kr27, ys27, rfl, g27, yR27, y127, y227, y327, y427⟩ := hQ27
      show OwnWP _ _ _ _ _ _ _ _ _ T27 (mkF m 260 #[.val (.int va), .val (.int vb), .val (.int vc), .val (.long vx), .second, .val (.int p1), .val (.int p2), .val (.int (1 : Int32)), .val (.int b2), .val (.int (1 : Int32)), .val (.int fe), .val (.int nn), .val (.ref arr), .val (.ref b4), .unset, .unset, .unset, .unset, .unset] [(.ref rr27)])
      refine ow_astore C A27 at_260 rfl (Ls' := #[.val (.int va), .val (.int vb), .val (.int vc), .val (.long vx), .second, .val (.int p1), .val (.int p2), .val (.int (1 : Int32)), .val (.int b2), .val (.int (1 : Int32)), .val (.int fe), .val (.int nn), .val (.ref arr), .val (.ref b4), .val (.ref rr27), .unset, .unset, .unset, .unset]) rfl rfl ?_
      have hF : Fin ys27 (0 + s25) L25 ra25.toInt := ⟨y127, y227, y327, y427, ok25.1, ok25.2.1, by have z := rb25; unfold own_relE at rl25; omega⟩
      have hE : EF (1 : Int32) (1 : Int32) b2 p1 p2 ys27 (0 + s25) L25 ra25.toInt := Or.inr (Or.inr (Or.inl ⟨rfl, rfl, by rw [Nat.zero_add]; exact rl25⟩))
      rcases hfe with rfl | rfl
      · skip
        refine ow_iload C A27 at_262 rfl rfl ?_
        refine ow_if_eq C A27 at_264 (by decide) (pcY := 272) (by decide) (pcN := 267) rfl (fun _ => ?_) (fun zq => absurd (by decide) zq)
        refine ow_aload C A27 at_272 rfl rfl rfl ?_
        refine ow_astore C A27 at_274 rfl (Ls' := #[.val (.int va), .val (.int vb), .val (.int vc), .val (.long vx), .second, .val (.int p1), .val (.int p2), .val (.int (1 : Int32)), .val (.int b2), .val (.int (1 : Int32)), .val (.int (0 : Int32)), .val (.int nn), .val (.ref arr), .val (.ref b4), .val (.ref rr27), .val (.ref arr), .unset, .unset, .unset]) rfl rfl ?_
        have f28 := (((f16.keep K17 (ninS ne9 nin0)).keep K25 (ninS ne9 (ninS ne17 nin0))).keep K27 (ninS ne9 (ninS ne17 nin0)))
        exact law_276 hw C A27 va vb vc vx p1 p2 (1 : Int32) b2 (1 : Int32) (0 : Int32) nn arr b4 rr27 arr kr27 ka ds ys27 _ _ _ yR27 f28 hdl hbd (Or.inl rfl) hE hF hp1 hp2 (Or.inr rfl) hb2
      · skip
        refine ow_iload C A27 at_262 rfl rfl ?_
        refine ow_if_eq C A27 at_264 (by decide) (pcY := 272) (by decide) (pcN := 267) rfl (fun zq => absurd zq (by decide)) (fun _ => ?_)
        refine ow_aload C A27 at_267 rfl rfl rfl ?_
        refine ow_goto C A27 at_269 (by decide) (pc' := 274) (by decide) ?_
        refine ow_astore C A27 at_274 rfl (Ls' := #[.val (.int va), .val (.int vb), .val (.int vc), .val (.long vx), .second, .val (.int p1), .val (.int p2), .val (.int (1 : Int32)), .val (.int b2), .val (.int (1 : Int32)), .val (.int (1 : Int32)), .val (.int nn), .val (.ref arr), .val (.ref b4), .val (.ref rr27), .val (.ref rr27), .unset, .unset, .unset]) rfl rfl ?_
        exact law_276 hw C A27 va vb vc vx p1 p2 (1 : Int32) b2 (1 : Int32) (1 : Int32) nn arr b4 rr27 rr27 kr27 kr27 ys27 ys27 _ _ _ yR27 yR27 (by have q := hF.2.2.1; have q2 := hF.2.2.2.2.2.2; omega) y127 (Or.inr ⟨rfl, rfl⟩) hE hF hp1 hp2 (Or.inr rfl) hb2
  · rcases hb1 with rfl | rfl
    · rcases hb2 with rfl | rfl
      · skip
        refine ow_iload C A17 at_226 rfl rfl ?_
        refine ow_if_le C A17 at_228 (by decide) (pcY := 240) (by decide) (pcN := 231) rfl (fun zq => absurd (by decide) zq) (fun _ => ?_)
        refine ow_aload C A17 at_231 rfl rfl rfl ?_
        refine ow_iload C A17 at_233 rfl rfl ?_
        refine ow_iload C A17 at_235 rfl rfl ?_
        refine ow_callV C A17 (argsL := [(.int p1), (.int (0 : Int32))]) xE18 (rm_enc0 l Z a0 hw b4 bb17 kb17 (0 : Int64) (4294967295 : Int64) (-1 : Int32) (0 : Int64) ([] : List Int32) p1 0 0 T17.heap ⟨xE18, xL18, xR18, xH18, xO18, xB18, xN18, xV18, xU18⟩ J17 (by omega) own_full hp1 []) tw_85 tw_86 (ow_nf hw tw_88) tw_88 tw_87 tw_4 tw_89 (by decide) (allS ows_b4 (allS (Or.inr (Nat.le_trans (ow_le A2) g17)) all0)) (by decide) (by decide) (ck' := 3) (sk' := 46) rfl rfl (by decide) (by decide) rfl (lenOf pd_10 rfl) (S := []) rfl (W := 0) (Nat.le_of_eq rfl) at_237 rfl ?_
        intro T29 v29 K29 hQ29 A29
        obtain ⟨rfl, lo29, ra29, he29, on29, bs29, s29, L29, O29, rl29, I29⟩ := hQ29
        show OwnWP _ _ _ _ _ _ _ _ _ T29 (mkF m 240 #[.val (.int va), .val (.int vb), .val (.int vc), .val (.long vx), .second, .val (.int p1), .val (.int p2), .val (.int (0 : Int32)), .val (.int (0 : Int32)), .val (.int (2 : Int32)), .val (.int fe), .val (.int nn), .val (.ref arr), .val (.ref b4), .unset, .unset, .unset, .unset, .unset] [])
        obtain ⟨xE30, xL30, xR30, xH30, xO30, xB30, xN30, xV30, xU30⟩ := O29
        have rb29 := own_rb0 (4294967295 : Int64) p1 own_full hp1
        have ok29 := own_relE_ok _ _ _ _ _ rl29 rb29
        have hR29 : Rok ra29 := ⟨ok29.1, ok29.2.1⟩
        have su29 := ok29.2.2
        refine ow_iload C A29 at_240 rfl rfl ?_
        refine ow_iconst C A29 at_242 (v := 1) rfl rfl ?_
        refine ow_icmp_le C A29 at_243 (by decide) (pcY := 255) (by decide) (pcN := 246) rfl (fun zq => absurd (by decide) zq) (fun _ => ?_)
        refine ow_aload C A29 at_246 rfl rfl rfl ?_
        refine ow_iload C A29 at_248 rfl rfl ?_
        refine ow_iload C A29 at_250 rfl rfl ?_
        refine ow_callV C A29 (argsL := [(.int p2), (.int (0 : Int32))]) xE30 (rm_enc0 l Z a0 hw b4 bb17 kb17 lo29 ra29 he29 on29 bs29 p2 (0 + s29) L29 T29.heap ⟨xE30, xL30, xR30, xH30, xO30, xB30, xN30, xV30, xU30⟩ I29 (by omega) hR29 hp2 []) tw_85 tw_86 (ow_nf hw tw_88) tw_88 tw_87 tw_4 tw_89 (by decide) (allS ows_b4 (allS (Or.inr (Nat.le_trans (ow_le A2) g17)) all0)) (by decide) (by decide) (ck' := 3) (sk' := 46) rfl rfl (by decide) (by decide) rfl (lenOf pd_10 rfl) (S := []) rfl (W := 0) (Nat.le_of_eq rfl) at_252 rfl ?_
        intro T31 v31 K31 hQ31 A31
        obtain ⟨rfl, lo31, ra31, he31, on31, bs31, s31, L31, O31, rl31, I31⟩ := hQ31
        show OwnWP _ _ _ _ _ _ _ _ _ T31 (mkF m 255 #[.val (.int va), .val (.int vb), .val (.int vc), .val (.long vx), .second, .val (.int p1), .val (.int p2), .val (.int (0 : Int32)), .val (.int (0 : Int32)), .val (.int (2 : Int32)), .val (.int fe), .val (.int nn), .val (.ref arr), .val (.ref b4), .unset, .unset, .unset, .unset, .unset] [])
        obtain ⟨xE32, xL32, xR32, xH32, xO32, xB32, xN32, xV32, xU32⟩ := O31
        have rb31 := own_rb0 ra29 p2 hR29 hp2
        have ok31 := own_relE_ok _ _ _ _ _ rl31 rb31
        have hR31 : Rok ra31 := ⟨ok31.1, ok31.2.1⟩
        have su31 := ok31.2.2
        refine ow_aload C A31 at_255 rfl rfl rfl ?_
        refine ow_callV C A31 (argsL := []) xE32 (rm_fin l Z a0 hw b4 bb17 kb17 lo31 ra31 he31 on31 bs31 ((0 + s29) + s31) L31 T31.heap ⟨xE32, xL32, xR32, xH32, xO32, xB32, xN32, xV32, xU32⟩ I31 (by omega) hR31 []) tw_18 tw_19 (ow_nf hw tw_21) tw_21 tw_20 tw_4 tw_22 (by decide) (allS ows_b4 (allS (Or.inr (Nat.le_trans (ow_le A2) g17)) all0)) (by decide) (by decide) (ck' := 4) (sk' := 78) rfl rfl (by decide) (by decide) rfl (lenOf pd_9 rfl) (S := []) rfl (W := 0) (Nat.le_of_eq rfl) at_257 rfl ?_
        intro T33 v33 K33 hQ33 A33
        obtain ⟨rr33, kr33, ys33, rfl, g33, yR33, y133, y233, y333, y433⟩ := hQ33
        show OwnWP _ _ _ _ _ _ _ _ _ T33 (mkF m 260 #[.val (.int va), .val (.int vb), .val (.int vc), .val (.long vx), .second, .val (.int p1), .val (.int p2), .val (.int (0 : Int32)), .val (.int (0 : Int32)), .val (.int (2 : Int32)), .val (.int fe), .val (.int nn), .val (.ref arr), .val (.ref b4), .unset, .unset, .unset, .unset, .unset] [(.ref rr33)])
        refine ow_astore C A33 at_260 rfl (Ls' := #[.val (.int va), .val (.int vb), .val (.int vc), .val (.long vx), .second, .val (.int p1), .val (.int p2), .val (.int (0 : Int32)), .val (.int (0 : Int32)), .val (.int (2 : Int32)), .val (.int fe), .val (.int nn), .val (.ref arr), .val (.ref b4), .val (.ref rr33), .unset, .unset, .unset, .unset]) rfl rfl ?_
        have hF : Fin ys33 ((0 + s29) + s31) L31 ra31.toInt := ⟨y133, y233, y333, y433, ok31.1, ok31.2.1, by have z := rb29; unfold own_relE at rl29; have z2 := rb31; unfold own_relE at rl31; omega⟩
        have hE : EF (2 : Int32) (0 : Int32) (0 : Int32) p1 p2 ys33 ((0 + s29) + s31) L31 ra31.toInt := Or.inr (Or.inr (Or.inr ⟨rfl, ra29, L29, s29, s31, by rw [Nat.zero_add], Or.inl ⟨rfl, rl29⟩, Or.inl ⟨rfl, rl31⟩⟩))
        rcases hfe with rfl | rfl
        · skip
          refine ow_iload C A33 at_262 rfl rfl ?_
          refine ow_if_eq C A33 at_264 (by decide) (pcY := 272) (by decide) (pcN := 267) rfl (fun _ => ?_) (fun zq => absurd (by decide) zq)
          refine ow_aload C A33 at_272 rfl rfl rfl ?_
          refine ow_astore C A33 at_274 rfl (Ls' := #[.val (.int va), .val (.int vb), .val (.int vc), .val (.long vx), .second, .val (.int p1), .val (.int p2), .val (.int (0 : Int32)), .val (.int (0 : Int32)), .val (.int (2 : Int32)), .val (.int (0 : Int32)), .val (.int nn), .val (.ref arr), .val (.ref b4), .val (.ref rr33), .val (.ref arr), .unset, .unset, .unset]) rfl rfl ?_
          have f34 := ((((f16.keep K17 (ninS ne9 nin0)).keep K29 (ninS ne9 (ninS ne17 nin0))).keep K31 (ninS ne9 (ninS ne17 nin0))).keep K33 (ninS ne9 (ninS ne17 nin0)))
          exact law_276 hw C A33 va vb vc vx p1 p2 (0 : Int32) (0 : Int32) (2 : Int32) (0 : Int32) nn arr b4 rr33 arr kr33 ka ds ys33 _ _ _ yR33 f34 hdl hbd (Or.inl rfl) hE hF hp1 hp2 (Or.inl rfl) (Or.inl rfl)
        · skip
          refine ow_iload C A33 at_262 rfl rfl ?_
          refine ow_if_eq C A33 at_264 (by decide) (pcY := 272) (by decide) (pcN := 267) rfl (fun zq => absurd zq (by decide)) (fun _ => ?_)
          refine ow_aload C A33 at_267 rfl rfl rfl ?_
          refine ow_goto C A33 at_269 (by decide) (pc' := 274) (by decide) ?_
          refine ow_astore C A33 at_274 rfl (Ls' := #[.val (.int va), .val (.int vb), .val (.int vc), .val (.long vx), .second, .val (.int p1), .val (.int p2), .val (.int (0 : Int32)), .val (.int (0 : Int32)), .val (.int (2 : Int32)), .val (.int (1 : Int32)), .val (.int nn), .val (.ref arr), .val (.ref b4), .val (.ref rr33), .val (.ref rr33), .unset, .unset, .unset]) rfl rfl ?_
          exact law_276 hw C A33 va vb vc vx p1 p2 (0 : Int32) (0 : Int32) (2 : Int32) (1 : Int32) nn arr b4 rr33 rr33 kr33 kr33 ys33 ys33 _ _ _ yR33 yR33 (by have q := hF.2.2.1; have q2 := hF.2.2.2.2.2.2; omega) y133 (Or.inr ⟨rfl, rfl⟩) hE hF hp1 hp2 (Or.inl rfl) (Or.inl rfl)
      · skip
        refine ow_iload C A17 at_226 rfl rfl ?_
        refine ow_if_le C A17 at_228 (by decide) (pcY := 240) (by decide) (pcN := 231) rfl (fun zq => absurd (by decide) zq) (fun _ => ?_)
        refine ow_aload C A17 at_231 rfl rfl rfl ?_
        refine ow_iload C A17 at_233 rfl rfl ?_
        refine ow_iload C A17 at_235 rfl rfl ?_
        refine ow_callV C A17 (argsL := [(.int p1), (.int (0 : Int32))]) xE18 (rm_enc0 l Z a0 hw b4 bb17 kb17 (0 : Int64) (4294967295 : Int64) (-1 : Int32) (0 : Int64) ([] : List Int32) p1 0 0 T17.heap ⟨xE18, xL18, xR18, xH18, xO18, xB18, xN18, xV18, xU18⟩ J17 (by omega) own_full hp1 []) tw_85 tw_86 (ow_nf hw tw_88) tw_88 tw_87 tw_4 tw_89 (by decide) (allS ows_b4 (allS (Or.inr (Nat.le_trans (ow_le A2) g17)) all0)) (by decide) (by decide) (ck' := 3) (sk' := 46) rfl rfl (by decide) (by decide) rfl (lenOf pd_10 rfl) (S := []) rfl (W := 0) (Nat.le_of_eq rfl) at_237 rfl ?_
        intro T35 v35 K35 hQ35 A35
        obtain ⟨rfl, lo35, ra35, he35, on35, bs35, s35, L35, O35, rl35, I35⟩ := hQ35
        show OwnWP _ _ _ _ _ _ _ _ _ T35 (mkF m 240 #[.val (.int va), .val (.int vb), .val (.int vc), .val (.long vx), .second, .val (.int p1), .val (.int p2), .val (.int (0 : Int32)), .val (.int (1 : Int32)), .val (.int (2 : Int32)), .val (.int fe), .val (.int nn), .val (.ref arr), .val (.ref b4), .unset, .unset, .unset, .unset, .unset] [])
        obtain ⟨xE36, xL36, xR36, xH36, xO36, xB36, xN36, xV36, xU36⟩ := O35
        have rb35 := own_rb0 (4294967295 : Int64) p1 own_full hp1
        have ok35 := own_relE_ok _ _ _ _ _ rl35 rb35
        have hR35 : Rok ra35 := ⟨ok35.1, ok35.2.1⟩
        have su35 := ok35.2.2
        refine ow_iload C A35 at_240 rfl rfl ?_
        refine ow_iconst C A35 at_242 (v := 1) rfl rfl ?_
        refine ow_icmp_le C A35 at_243 (by decide) (pcY := 255) (by decide) (pcN := 246) rfl (fun zq => absurd (by decide) zq) (fun _ => ?_)
        refine ow_aload C A35 at_246 rfl rfl rfl ?_
        refine ow_iload C A35 at_248 rfl rfl ?_
        refine ow_iload C A35 at_250 rfl rfl ?_
        refine ow_callV C A35 (argsL := [(.int p2), (.int (1 : Int32))]) xE36 (rm_enc1 l Z a0 hw b4 bb17 kb17 lo35 ra35 he35 on35 bs35 p2 (0 + s35) L35 T35.heap ⟨xE36, xL36, xR36, xH36, xO36, xB36, xN36, xV36, xU36⟩ I35 (by omega) hR35 hp2 []) tw_85 tw_86 (ow_nf hw tw_88) tw_88 tw_87 tw_4 tw_89 (by decide) (allS ows_b4 (allS (Or.inr (Nat.le_trans (ow_le A2) g17)) all0)) (by decide) (by decide) (ck' := 3) (sk' := 46) rfl rfl (by decide) (by decide) rfl (lenOf pd_10 rfl) (S := []) rfl (W := 0) (Nat.le_of_eq rfl) at_252 rfl ?_
        intro T37 v37 K37 hQ37 A37
        obtain ⟨rfl, lo37, ra37, he37, on37, bs37, s37, L37, O37, rl37, I37⟩ := hQ37
        show OwnWP _ _ _ _ _ _ _ _ _ T37 (mkF m 255 #[.val (.int va), .val (.int vb), .val (.int vc), .val (.long vx), .second, .val (.int p1), .val (.int p2), .val (.int (0 : Int32)), .val (.int (1 : Int32)), .val (.int (2 : Int32)), .val (.int fe), .val (.int nn), .val (.ref arr), .val (.ref b4), .unset, .unset, .unset, .unset, .unset] [])
        obtain ⟨xE38, xL38, xR38, xH38, xO38, xB38, xN38, xV38, xU38⟩ := O37
        have rb37 := own_rb1 ra35 p2 hR35 hp2
        have ok37 := own_relE_ok _ _ _ _ _ rl37 rb37
        have hR37 : Rok ra37 := ⟨ok37.1, ok37.2.1⟩
        have su37 := ok37.2.2
        refine ow_aload C A37 at_255 rfl rfl rfl ?_
        refine ow_callV C A37 (argsL := []) xE38 (rm_fin l Z a0 hw b4 bb17 kb17 lo37 ra37 he37 on37 bs37 ((0 + s35) + s37) L37 T37.heap ⟨xE38, xL38, xR38, xH38, xO38, xB38, xN38, xV38, xU38⟩ I37 (by omega) hR37 []) tw_18 tw_19 (ow_nf hw tw_21) tw_21 tw_20 tw_4 tw_22 (by decide) (allS ows_b4 (allS (Or.inr (Nat.le_trans (ow_le A2) g17)) all0)) (by decide) (by decide) (ck' := 4) (sk' := 78) rfl rfl (by decide) (by decide) rfl (lenOf pd_9 rfl) (S := []) rfl (W := 0) (Nat.le_of_eq rfl) at_257 rfl ?_
        intro T39 v39 K39 hQ39 A39
        obtain ⟨rr39, kr39, ys39, rfl, g39, yR39, y139, y239, y339, y439⟩ := hQ39
        show OwnWP _ _ _ _ _ _ _ _ _ T39 (mkF m 260 #[.val (.int va), .val (.int vb), .val (.int vc), .val (.long vx), .second, .val (.int p1), .val (.int p2), .val (.int (0 : Int32)), .val (.int (1 : Int32)), .val (.int (2 : Int32)), .val (.int fe), .val (.int nn), .val (.ref arr), .val (.ref b4), .unset, .unset, .unset, .unset, .unset] [(.ref rr39)])
        refine ow_astore C A39 at_260 rfl (Ls' := #[.val (.int va), .val (.int vb), .val (.int vc), .val (.long vx), .second, .val (.int p1), .val (.int p2), .val (.int (0 : Int32)), .val (.int (1 : Int32)), .val (.int (2 : Int32)), .val (.int fe), .val (.int nn), .val (.ref arr), .val (.ref b4), .val (.ref rr39), .unset, .unset, .unset, .unset]) rfl rfl ?_
        have hF : Fin ys39 ((0 + s35) + s37) L37 ra37.toInt := ⟨y139, y239, y339, y439, ok37.1, ok37.2.1, by have z := rb35; unfold own_relE at rl35; have z2 := rb37; unfold own_relE at rl37; omega⟩
        have hE : EF (2 : Int32) (0 : Int32) (1 : Int32) p1 p2 ys39 ((0 + s35) + s37) L37 ra37.toInt := Or.inr (Or.inr (Or.inr ⟨rfl, ra35, L35, s35, s37, by rw [Nat.zero_add], Or.inl ⟨rfl, rl35⟩, Or.inr ⟨rfl, rl37⟩⟩))
        rcases hfe with rfl | rfl
        · skip
          refine ow_iload C A39 at_262 rfl rfl ?_
          refine ow_if_eq C A39 at_264 (by decide) (pcY := 272) (by decide) (pcN := 267) rfl (fun _ => ?_) (fun zq => absurd (by decide) zq)
          refine ow_aload C A39 at_272 rfl rfl rfl ?_
          refine ow_astore C A39 at_274 rfl (Ls' := #[.val (.int va), .val (.int vb), .val (.int vc), .val (.long vx), .second, .val (.int p1), .val (.int p2), .val (.int (0 : Int32)), .val (.int (1 : Int32)), .val (.int (2 : Int32)), .val (.int (0 : Int32)), .val (.int nn), .val (.ref arr), .val (.ref b4), .val (.ref rr39), .val (.ref arr), .unset, .unset, .unset]) rfl rfl ?_
          have f40 := ((((f16.keep K17 (ninS ne9 nin0)).keep K35 (ninS ne9 (ninS ne17 nin0))).keep K37 (ninS ne9 (ninS ne17 nin0))).keep K39 (ninS ne9 (ninS ne17 nin0)))
          exact law_276 hw C A39 va vb vc vx p1 p2 (0 : Int32) (1 : Int32) (2 : Int32) (0 : Int32) nn arr b4 rr39 arr kr39 ka ds ys39 _ _ _ yR39 f40 hdl hbd (Or.inl rfl) hE hF hp1 hp2 (Or.inl rfl) (Or.inr rfl)
        · skip
          refine ow_iload C A39 at_262 rfl rfl ?_
          refine ow_if_eq C A39 at_264 (by decide) (pcY := 272) (by decide) (pcN := 267) rfl (fun zq => absurd zq (by decide)) (fun _ => ?_)
          refine ow_aload C A39 at_267 rfl rfl rfl ?_
          refine ow_goto C A39 at_269 (by decide) (pc' := 274) (by decide) ?_
          refine ow_astore C A39 at_274 rfl (Ls' := #[.val (.int va), .val (.int vb), .val (.int vc), .val (.long vx), .second, .val (.int p1), .val (.int p2), .val (.int (0 : Int32)), .val (.int (1 : Int32)), .val (.int (2 : Int32)), .val (.int (1 : Int32)), .val (.int nn), .val (.ref arr), .val (.ref b4), .val (.ref rr39), .val (.ref rr39), .unset, .unset, .unset]) rfl rfl ?_
          exact law_276 hw C A39 va vb vc vx p1 p2 (0 : Int32) (1 : Int32) (2 : Int32) (1 : Int32) nn arr b4 rr39 rr39 kr39 kr39 ys39 ys39 _ _ _ yR39 yR39 (by have q := hF.2.2.1; have q2 := hF.2.2.2.2.2.2; omega) y139 (Or.inr ⟨rfl, rfl⟩) hE hF hp1 hp2 (Or.inl rfl) (Or.inr rfl)
    · rcases hb2 with rfl | rfl
      · skip
        refine ow_iload C A17 at_226 rfl rfl ?_
        refine ow_if_le C A17 at_228 (by decide) (pcY := 240) (by decide) (pcN := 231) rfl (fun zq => absurd (by decide) zq) (fun _ => ?_)
        refine ow_aload C A17 at_231 rfl rfl rfl ?_
        refine ow_iload C A17 at_233 rfl rfl ?_
        refine ow_iload C A17 at_235 rfl rfl ?_
        refine ow_callV C A17 (argsL := [(.int p1), (.int (1 : Int32))]) xE18 (rm_enc1 l Z a0 hw b4 bb17 kb17 (0 : Int64) (4294967295 : Int64) (-1 : Int32) (0 : Int64) ([] : List Int32) p1 0 0 T17.heap ⟨xE18, xL18, xR18, xH18, xO18, xB18, xN18, xV18, xU18⟩ J17 (by omega) own_full hp1 []) tw_85 tw_86 (ow_nf hw tw_88) tw_88 tw_87 tw_4 tw_89 (by decide) (allS ows_b4 (allS (Or.inr (Nat.le_trans (ow_le A2) g17)) all0)) (by decide) (by decide) (ck' := 3) (sk' := 46) rfl rfl (by decide) (by decide) rfl (lenOf pd_10 rfl) (S := []) rfl (W := 0) (Nat.le_of_eq rfl) at_237 rfl ?_
        intro T41 v41 K41 hQ41 A41
        obtain ⟨rfl, lo41, ra41, he41, on41, bs41, s41, L41, O41, rl41, I41⟩ := hQ41
        show OwnWP _ _ _ _ _ _ _ _ _ T41 (mkF m 240 #[.val (.int va), .val (.int vb), .val (.int vc), .val (.long vx), .second, .val (.int p1), .val (.int p2), .val (.int (1 : Int32)), .val (.int (0 : Int32)), .val (.int (2 : Int32)), .val (.int fe), .val (.int nn), .val (.ref arr), .val (.ref b4), .unset, .unset, .unset, .unset, .unset] [])
        obtain ⟨xE42, xL42, xR42, xH42, xO42, xB42, xN42, xV42, xU42⟩ := O41
        have rb41 := own_rb1 (4294967295 : Int64) p1 own_full hp1
        have ok41 := own_relE_ok _ _ _ _ _ rl41 rb41
        have hR41 : Rok ra41 := ⟨ok41.1, ok41.2.1⟩
        have su41 := ok41.2.2
        refine ow_iload C A41 at_240 rfl rfl ?_
        refine ow_iconst C A41 at_242 (v := 1) rfl rfl ?_
        refine ow_icmp_le C A41 at_243 (by decide) (pcY := 255) (by decide) (pcN := 246) rfl (fun zq => absurd (by decide) zq) (fun _ => ?_)
        refine ow_aload C A41 at_246 rfl rfl rfl ?_
        refine ow_iload C A41 at_248 rfl rfl ?_
        refine ow_iload C A41 at_250 rfl rfl ?_
        refine ow_callV C A41 (argsL := [(.int p2), (.int (0 : Int32))]) xE42 (rm_enc0 l Z a0 hw b4 bb17 kb17 lo41 ra41 he41 on41 bs41 p2 (0 + s41) L41 T41.heap ⟨xE42, xL42, xR42, xH42, xO42, xB42, xN42, xV42, xU42⟩ I41 (by omega) hR41 hp2 []) tw_85 tw_86 (ow_nf hw tw_88) tw_88 tw_87 tw_4 tw_89 (by decide) (allS ows_b4 (allS (Or.inr (Nat.le_trans (ow_le A2) g17)) all0)) (by decide) (by decide) (ck' := 3) (sk' := 46) rfl rfl (by decide) (by decide) rfl (lenOf pd_10 rfl) (S := []) rfl (W := 0) (Nat.le_of_eq rfl) at_252 rfl ?_
        intro T43 v43 K43 hQ43 A43
        obtain ⟨rfl, lo43, ra43, he43, on43, bs43, s43, L43, O43, rl43, I43⟩ := hQ43
        show OwnWP _ _ _ _ _ _ _ _ _ T43 (mkF m 255 #[.val (.int va), .val (.int vb), .val (.int vc), .val (.long vx), .second, .val (.int p1), .val (.int p2), .val (.int (1 : Int32)), .val (.int (0 : Int32)), .val (.int (2 : Int32)), .val (.int fe), .val (.int nn), .val (.ref arr), .val (.ref b4), .unset, .unset, .unset, .unset, .unset] [])
        obtain ⟨xE44, xL44, xR44, xH44, xO44, xB44, xN44, xV44, xU44⟩ := O43
        have rb43 := own_rb0 ra41 p2 hR41 hp2
        have ok43 := own_relE_ok _ _ _ _ _ rl43 rb43
        have hR43 : Rok ra43 := ⟨ok43.1, ok43.2.1⟩
        have su43 := ok43.2.2
        refine ow_aload C A43 at_255 rfl rfl rfl ?_
        refine ow_callV C A43 (argsL := []) xE44 (rm_fin l Z a0 hw b4 bb17 kb17 lo43 ra43 he43 on43 bs43 ((0 + s41) + s43) L43 T43.heap ⟨xE44, xL44, xR44, xH44, xO44, xB44, xN44, xV44, xU44⟩ I43 (by omega) hR43 []) tw_18 tw_19 (ow_nf hw tw_21) tw_21 tw_20 tw_4 tw_22 (by decide) (allS ows_b4 (allS (Or.inr (Nat.le_trans (ow_le A2) g17)) all0)) (by decide) (by decide) (ck' := 4) (sk' := 78) rfl rfl (by decide) (by decide) rfl (lenOf pd_9 rfl) (S := []) rfl (W := 0) (Nat.le_of_eq rfl) at_257 rfl ?_
        intro T45 v45 K45 hQ45 A45
        obtain ⟨rr45, kr45, ys45, rfl, g45, yR45, y145, y245, y345, y445⟩ := hQ45
        show OwnWP _ _ _ _ _ _ _ _ _ T45 (mkF m 260 #[.val (.int va), .val (.int vb), .val (.int vc), .val (.long vx), .second, .val (.int p1), .val (.int p2), .val (.int (1 : Int32)), .val (.int (0 : Int32)), .val (.int (2 : Int32)), .val (.int fe), .val (.int nn), .val (.ref arr), .val (.ref b4), .unset, .unset, .unset, .unset, .unset] [(.ref rr45)])
        refine ow_astore C A45 at_260 rfl (Ls' := #[.val (.int va), .val (.int vb), .val (.int vc), .val (.long vx), .second, .val (.int p1), .val (.int p2), .val (.int (1 : Int32)), .val (.int (0 : Int32)), .val (.int (2 : Int32)), .val (.int fe), .val (.int nn), .val (.ref arr), .val (.ref b4), .val (.ref rr45), .unset, .unset, .unset, .unset]) rfl rfl ?_
        have hF : Fin ys45 ((0 + s41) + s43) L43 ra43.toInt := ⟨y145, y245, y345, y445, ok43.1, ok43.2.1, by have z := rb41; unfold own_relE at rl41; have z2 := rb43; unfold own_relE at rl43; omega⟩
        have hE : EF (2 : Int32) (1 : Int32) (0 : Int32) p1 p2 ys45 ((0 + s41) + s43) L43 ra43.toInt := Or.inr (Or.inr (Or.inr ⟨rfl, ra41, L41, s41, s43, by rw [Nat.zero_add], Or.inr ⟨rfl, rl41⟩, Or.inl ⟨rfl, rl43⟩⟩))
        rcases hfe with rfl | rfl
        · skip
          refine ow_iload C A45 at_262 rfl rfl ?_
          refine ow_if_eq C A45 at_264 (by decide) (pcY := 272) (by decide) (pcN := 267) rfl (fun _ => ?_) (fun zq => absurd (by decide) zq)
          refine ow_aload C A45 at_272 rfl rfl rfl ?_
          refine ow_astore C A45 at_274 rfl (Ls' := #[.val (.int va), .val (.int vb), .val (.int vc), .val (.long vx), .second, .val (.int p1), .val (.int p2), .val (.int (1 : Int32)), .val (.int (0 : Int32)), .val (.int (2 : Int32)), .val (.int (0 : Int32)), .val (.int nn), .val (.ref arr), .val (.ref b4), .val (.ref rr45), .val (.ref arr), .unset, .unset, .unset]) rfl rfl ?_
          have f46 := ((((f16.keep K17 (ninS ne9 nin0)).keep K41 (ninS ne9 (ninS ne17 nin0))).keep K43 (ninS ne9 (ninS ne17 nin0))).keep K45 (ninS ne9 (ninS ne17 nin0)))
          exact law_276 hw C A45 va vb vc vx p1 p2 (1 : Int32) (0 : Int32) (2 : Int32) (0 : Int32) nn arr b4 rr45 arr kr45 ka ds ys45 _ _ _ yR45 f46 hdl hbd (Or.inl rfl) hE hF hp1 hp2 (Or.inr rfl) (Or.inl rfl)
        · skip
          refine ow_iload C A45 at_262 rfl rfl ?_
          refine ow_if_eq C A45 at_264 (by decide) (pcY := 272) (by decide) (pcN := 267) rfl (fun zq => absurd zq (by decide)) (fun _ => ?_)
          refine ow_aload C A45 at_267 rfl rfl rfl ?_
          refine ow_goto C A45 at_269 (by decide) (pc' := 274) (by decide) ?_
          refine ow_astore C A45 at_274 rfl (Ls' := #[.val (.int va), .val (.int vb), .val (.int vc), .val (.long vx), .second, .val (.int p1), .val (.int p2), .val (.int (1 : Int32)), .val (.int (0 : Int32)), .val (.int (2 : Int32)), .val (.int (1 : Int32)), .val (.int nn), .val (.ref arr), .val (.ref b4), .val (.ref rr45), .val (.ref rr45), .unset, .unset, .unset]) rfl rfl ?_
          exact law_276 hw C A45 va vb vc vx p1 p2 (1 : Int32) (0 : Int32) (2 : Int32) (1 : Int32) nn arr b4 rr45 rr45 kr45 kr45 ys45 ys45 _ _ _ yR45 yR45 (by have q := hF.2.2.1; have q2 := hF.2.2.2.2.2.2; omega) y145 (Or.inr ⟨rfl, rfl⟩) hE hF hp1 hp2 (Or.inr rfl) (Or.inl rfl)
      · skip
        refine ow_iload C A17 at_226 rfl rfl ?_
        refine ow_if_le C A17 at_228 (by decide) (pcY := 240) (by decide) (pcN := 231) rfl (fun zq => absurd (by decide) zq) (fun _ => ?_)
        refine ow_aload C A17 at_231 rfl rfl rfl ?_
        refine ow_iload C A17 at_233 rfl rfl ?_
        refine ow_iload C A17 at_235 rfl rfl ?_
        refine ow_callV C A17 (argsL := [(.int p1), (.int (1 : Int32))]) xE18 (rm_enc1 l Z a0 hw b4 bb17 kb17 (0 : Int64) (4294967295 : Int64) (-1 : Int32) (0 : Int64) ([] : List Int32) p1 0 0 T17.heap ⟨xE18, xL18, xR18, xH18, xO18, xB18, xN18, xV18, xU18⟩ J17 (by omega) own_full hp1 []) tw_85 tw_86 (ow_nf hw tw_88) tw_88 tw_87 tw_4 tw_89 (by decide) (allS ows_b4 (allS (Or.inr (Nat.le_trans (ow_le A2) g17)) all0)) (by decide) (by decide) (ck' := 3) (sk' := 46) rfl rfl (by decide) (by decide) rfl (lenOf pd_10 rfl) (S := []) rfl (W := 0) (Nat.le_of_eq rfl) at_237 rfl ?_
        intro T47 v47 K47 hQ47 A47
        obtain ⟨rfl, lo47, ra47, he47, on47, bs47, s47, L47, O47, rl47, I47⟩ := hQ47
        show OwnWP _ _ _ _ _ _ _ _ _ T47 (mkF m 240 #[.val (.int va), .val (.int vb), .val (.int vc), .val (.long vx), .second, .val (.int p1), .val (.int p2), .val (.int (1 : Int32)), .val (.int (1 : Int32)), .val (.int (2 : Int32)), .val (.int fe), .val (.int nn), .val (.ref arr), .val (.ref b4), .unset, .unset, .unset, .unset, .unset] [])
        obtain ⟨xE48, xL48, xR48, xH48, xO48, xB48, xN48, xV48, xU48⟩ := O47
        have rb47 := own_rb1 (4294967295 : Int64) p1 own_full hp1
        have ok47 := own_relE_ok _ _ _ _ _ rl47 rb47
        have hR47 : Rok ra47 := ⟨ok47.1, ok47.2.1⟩
        have su47 := ok47.2.2
        refine ow_iload C A47 at_240 rfl rfl ?_
        refine ow_iconst C A47 at_242 (v := 1) rfl rfl ?_
        refine ow_icmp_le C A47 at_243 (by decide) (pcY := 255) (by decide) (pcN := 246) rfl (fun zq => absurd (by decide) zq) (fun _ => ?_)
        refine ow_aload C A47 at_246 rfl rfl rfl ?_
        refine ow_iload C A47 at_248 rfl rfl ?_
        refine ow_iload C A47 at_250 rfl rfl ?_
        refine ow_callV C A47 (argsL := [(.int p2), (.int (1 : Int32))]) xE48 (rm_enc1 l Z a0 hw b4 bb17 kb17 lo47 ra47 he47 on47 bs47 p2 (0 + s47) L47 T47.heap ⟨xE48, xL48, xR48, xH48, xO48, xB48, xN48, xV48, xU48⟩ I47 (by omega) hR47 hp2 []) tw_85 tw_86 (ow_nf hw tw_88) tw_88 tw_87 tw_4 tw_89 (by decide) (allS ows_b4 (allS (Or.inr (Nat.le_trans (ow_le A2) g17)) all0)) (by decide) (by decide) (ck' := 3) (sk' := 46) rfl rfl (by decide) (by decide) rfl (lenOf pd_10 rfl) (S := []) rfl (W := 0) (Nat.le_of_eq rfl) at_252 rfl ?_
        intro T49 v49 K49 hQ49 A49
        obtain ⟨rfl, lo49, ra49, he49, on49, bs49, s49, L49, O49, rl49, I49⟩ := hQ49
        show OwnWP _ _ _ _ _ _ _ _ _ T49 (mkF m 255 #[.val (.int va), .val (.int vb), .val (.int vc), .val (.long vx), .second, .val (.int p1), .val (.int p2), .val (.int (1 : Int32)), .val (.int (1 : Int32)), .val (.int (2 : Int32)), .val (.int fe), .val (.int nn), .val (.ref arr), .val (.ref b4), .unset, .unset, .unset, .unset, .unset] [])
        obtain ⟨xE50, xL50, xR50, xH50, xO50, xB50, xN50, xV50, xU50⟩ := O49
        have rb49 := own_rb1 ra47 p2 hR47 hp2
        have ok49 := own_relE_ok _ _ _ _ _ rl49 rb49
        have hR49 : Rok ra49 := ⟨ok49.1, ok49.2.1⟩
        have su49 := ok49.2.2
        refine ow_aload C A49 at_255 rfl rfl rfl ?_
        refine ow_callV C A49 (argsL := []) xE50 (rm_fin l Z a0 hw b4 bb17 kb17 lo49 ra49 he49 on49 bs49 ((0 + s47) + s49) L49 T49.heap ⟨xE50, xL50, xR50, xH50, xO50, xB50, xN50, xV50, xU50⟩ I49 (by omega) hR49 []) tw_18 tw_19 (ow_nf hw tw_21) tw_21 tw_20 tw_4 tw_22 (by decide) (allS ows_b4 (allS (Or.inr (Nat.le_trans (ow_le A2) g17)) all0)) (by decide) (by decide) (ck' := 4) (sk' := 78) rfl rfl (by decide) (by decide) rfl (lenOf pd_9 rfl) (S := []) rfl (W := 0) (Nat.le_of_eq rfl) at_257 rfl ?_
        intro T51 v51 K51 hQ51 A51
        obtain ⟨rr51, kr51, ys51, rfl, g51, yR51, y151, y251, y351, y451⟩ := hQ51
        show OwnWP _ _ _ _ _ _ _ _ _ T51 (mkF m 260 #[.val (.int va), .val (.int vb), .val (.int vc), .val (.long vx), .second, .val (.int p1), .val (.int p2), .val (.int (1 : Int32)), .val (.int (1 : Int32)), .val (.int (2 : Int32)), .val (.int fe), .val (.int nn), .val (.ref arr), .val (.ref b4), .unset, .unset, .unset, .unset, .unset] [(.ref rr51)])
        refine ow_astore C A51 at_260 rfl (Ls' := #[.val (.int va), .val (.int vb), .val (.int vc), .val (.long vx), .second, .val (.int p1), .val (.int p2), .val (.int (1 : Int32)), .val (.int (1 : Int32)), .val (.int (2 : Int32)), .val (.int fe), .val (.int nn), .val (.ref arr), .val (.ref b4), .val (.ref rr51), .unset, .unset, .unset, .unset]) rfl rfl ?_
        have hF : Fin ys51 ((0 + s47) + s49) L49 ra49.toInt := ⟨y151, y251, y351, y451, ok49.1, ok49.2.1, by have z := rb47; unfold own_relE at rl47; have z2 := rb49; unfold own_relE at rl49; omega⟩
        have hE : EF (2 : Int32) (1 : Int32) (1 : Int32) p1 p2 ys51 ((0 + s47) + s49) L49 ra49.toInt := Or.inr (Or.inr (Or.inr ⟨rfl, ra47, L47, s47, s49, by rw [Nat.zero_add], Or.inr ⟨rfl, rl47⟩, Or.inr ⟨rfl, rl49⟩⟩))
        rcases hfe with rfl | rfl
        · skip
          refine ow_iload C A51 at_262 rfl rfl ?_
          refine ow_if_eq C A51 at_264 (by decide) (pcY := 272) (by decide) (pcN := 267) rfl (fun _ => ?_) (fun zq => absurd (by decide) zq)
          refine ow_aload C A51 at_272 rfl rfl rfl ?_
          refine ow_astore C A51 at_274 rfl (Ls' := #[.val (.int va), .val (.int vb), .val (.int vc), .val (.long vx), .second, .val (.int p1), .val (.int p2), .val (.int (1 : Int32)), .val (.int (1 : Int32)), .val (.int (2 : Int32)), .val (.int (0 : Int32)), .val (.int nn), .val (.ref arr), .val (.ref b4), .val (.ref rr51), .val (.ref arr), .unset, .unset, .unset]) rfl rfl ?_
          have f52 := ((((f16.keep K17 (ninS ne9 nin0)).keep K47 (ninS ne9 (ninS ne17 nin0))).keep K49 (ninS ne9 (ninS ne17 nin0))).keep K51 (ninS ne9 (ninS ne17 nin0)))
          exact law_276 hw C A51 va vb vc vx p1 p2 (1 : Int32) (1 : Int32) (2 : Int32) (0 : Int32) nn arr b4 rr51 arr kr51 ka ds ys51 _ _ _ yR51 f52 hdl hbd (Or.inl rfl) hE hF hp1 hp2 (Or.inr rfl) (Or.inr rfl)
        · skip
          refine ow_iload C A51 at_262 rfl rfl ?_
          refine ow_if_eq C A51 at_264 (by decide) (pcY := 272) (by decide) (pcN := 267) rfl (fun zq => absurd zq (by decide)) (fun _ => ?_)
          refine ow_aload C A51 at_267 rfl rfl rfl ?_
          refine ow_goto C A51 at_269 (by decide) (pc' := 274) (by decide) ?_
          refine ow_astore C A51 at_274 rfl (Ls' := #[.val (.int va), .val (.int vb), .val (.int vc), .val (.long vx), .second, .val (.int p1), .val (.int p2), .val (.int (1 : Int32)), .val (.int (1 : Int32)), .val (.int (2 : Int32)), .val (.int (1 : Int32)), .val (.int nn), .val (.ref arr), .val (.ref b4), .val (.ref rr51), .val (.ref rr51), .unset, .unset, .unset]) rfl rfl ?_
          exact law_276 hw C A51 va vb vc vx p1 p2 (1 : Int32) (1 : Int32) (2 : Int32) (1 : Int32) nn arr b4 rr51 rr51 kr51 kr51 ys51 ys51 _ _ _ yR51 yR51 (by have q := hF.2.2.1; have q2 := hF.2.2.2.2.2.2; omega) y151 (Or.inr ⟨rfl, rfl⟩) hE hF hp1 hp2 (Or.inr rfl) (Or.inr rfl)
set_option maxRecDepth 65536 in
set_option maxHeartbeats 40000000 in
theorem law_70 {p : Program} {l : Launch} {e : Env} {s : State} {m : MethodId} {args : Array Value} {below : List Frame} {meth : Method} {c : Code} {Z : State} {a0 : Array Value} {h0 h : Heap} {T : State} (hw : ∀ d ∈ tables_1, d.before a0 Z = true) (C : OwnCtx p s m meth c Z a0 tables_1 x code maxLocals ret) (A : OwnPos p l e room_1 s m args below meth c h0 [] T h 0 0) (va vb vc : Int32) (vx : Int64) (p1 p2 b1 b2 k fe : Int32) (hfe : fe = 0 ∨ fe = 1) (hk : k = 0 ∨ k = 1 ∨ k = 2) (hp1 : Pok p1) (hp2 : Pok p2) (hb1 : b1 = 0 ∨ b1 = 1) (hb2 : b2 = 0 ∨ b2 = 1) :
    OwnWP p e below s h0 [] Q0 room_1.cells room_1.slots T (mkF m 70 #[.val (.int va), .val (.int vb), .val (.int vc), .val (.long vx), .second, .val (.int p1), .val (.int p2), .val (.int b1), .val (.int b2), .val (.int k), .unset, .unset, .unset, .unset, .unset, .unset, .unset, .unset, .unset] [(.int fe)]) := by
  refine ow_istore C A at_70 (Ls' := #[.val (.int va), .val (.int vb), .val (.int vc), .val (.long vx), .second, .val (.int p1), .val (.int p2), .val (.int b1), .val (.int b2), .val (.int k), .val (.int fe), .unset, .unset, .unset, .unset, .unset, .unset, .unset, .unset]) rfl rfl ?_
  refine ow_iloadN C A at_72 rfl rfl ?_
  refine ow_iconst C A at_73 (v := 5) rfl rfl ?_
  refine ow_iushr C A at_74 rfl ?_
  refine ow_bipush C A at_75 (v := 15) rfl rfl ?_
  refine ow_iand C A at_77 rfl ?_
  refine ow_bipush C A at_78 (v := 9) rfl rfl ?_
  refine ow_irem C A at_80 (by decide) rfl ?_
  obtain ⟨n9, h9, e9⟩ := own_mod9 (own_ushr vc (5 : Int32))
  rw [e9]
  rcases own_nine n9 h9 with rfl | rfl | rfl | rfl | rfl | rfl | rfl | rfl | rfl
  · skip
    show OwnWP _ _ _ _ _ _ _ _ _ T (mkF m 81 #[.val (.int va), .val (.int vb), .val (.int vc), .val (.long vx), .second, .val (.int p1), .val (.int p2), .val (.int b1), .val (.int b2), .val (.int k), .val (.int fe), .unset, .unset, .unset, .unset, .unset, .unset, .unset, .unset] [(.int (0 : Int32))])
    refine ow_istore C A at_81 (Ls' := #[.val (.int va), .val (.int vb), .val (.int vc), .val (.long vx), .second, .val (.int p1), .val (.int p2), .val (.int b1), .val (.int b2), .val (.int k), .val (.int fe), .val (.int (0 : Int32)), .unset, .unset, .unset, .unset, .unset, .unset, .unset]) rfl rfl ?_
    refine ow_iload C A at_83 rfl rfl ?_
    refine ow_newA C A (ty := .byte) rfl tw_1 at_85 rfl (by decide) (cap := 8) (by decide) (by decide) (ck' := 1) (sk' := 8) rfl rfl (by decide) (by decide) ?_
    intro T1 h3 b4 kk5 g6 E7 V8 A2
    have ows_b4 : b4 ∈ ([] : List Addr) ∨ h0.size ≤ b4 := Or.inr (Nat.le_trans (ow_le A) (Nat.le_of_eq g6.symm))
    have V9 : Arv Z h3 b4 kk5 .byte (0 : Int32) [] (.int (0 : Int32)) := V8.pad (pad_rep [] (.int (0 : Int32)) 0)
    refine ow_astore C A2 at_87 rfl (Ls' := #[.val (.int va), .val (.int vb), .val (.int vc), .val (.long vx), .second, .val (.int p1), .val (.int p2), .val (.int b1), .val (.int b2), .val (.int k), .val (.int fe), .val (.int (0 : Int32)), .val (.ref b4), .unset, .unset, .unset, .unset, .unset, .unset]) rfl rfl ?_
    refine ow_iload C A2 at_89 rfl rfl ?_
    refine ow_if_le C A2 at_91 (by decide) (pcY := 101) (by decide) (pcN := 94) rfl (fun _ => ?_) (fun zq => absurd zq (by decide))
    refine ow_iload C A2 at_101 rfl rfl ?_
    refine ow_iconst C A2 at_103 (v := 1) rfl rfl ?_
    refine ow_icmp_le C A2 at_104 (by decide) (pcY := 117) (by decide) (pcN := 107) rfl (fun _ => ?_) (fun zq => absurd zq (by decide))
    refine ow_iload C A2 at_117 rfl rfl ?_
    refine ow_iconst C A2 at_119 (v := 2) rfl rfl ?_
    refine ow_icmp_le C A2 at_120 (by decide) (pcY := 133) (by decide) (pcN := 123) rfl (fun _ => ?_) (fun zq => absurd zq (by decide))
    refine ow_iload C A2 at_133 rfl rfl ?_
    refine ow_iconst C A2 at_135 (v := 3) rfl rfl ?_
    refine ow_icmp_le C A2 at_136 (by decide) (pcY := 149) (by decide) (pcN := 139) rfl (fun _ => ?_) (fun zq => absurd zq (by decide))
    refine ow_iload C A2 at_149 rfl rfl ?_
    refine ow_iconst C A2 at_151 (v := 4) rfl rfl ?_
    refine ow_icmp_le C A2 at_152 (by decide) (pcY := 165) (by decide) (pcN := 155) rfl (fun _ => ?_) (fun zq => absurd zq (by decide))
    refine ow_iload C A2 at_165 rfl rfl ?_
    refine ow_iconst C A2 at_167 (v := 5) rfl rfl ?_
    refine ow_icmp_le C A2 at_168 (by decide) (pcY := 181) (by decide) (pcN := 171) rfl (fun _ => ?_) (fun zq => absurd zq (by decide))
    refine ow_iload C A2 at_181 rfl rfl ?_
    refine ow_bipush C A2 at_183 (v := 6) rfl rfl ?_
    refine ow_icmp_le C A2 at_185 (by decide) (pcY := 199) (by decide) (pcN := 188) rfl (fun _ => ?_) (fun zq => absurd zq (by decide))
    refine ow_iload C A2 at_199 rfl rfl ?_
    refine ow_bipush C A2 at_201 (v := 7) rfl rfl ?_
    refine ow_icmp_le C A2 at_203 (by decide) (pcY := 217) (by decide) (pcN := 206) rfl (fun _ => ?_) (fun zq => absurd zq (by decide))
    exact law_217 hw C A2 va vb vc vx p1 p2 b1 b2 k fe (0 : Int32) b4 kk5 [] V9 (Nat.le_of_ble_eq_true rfl) (own_bytlist _ (by intro y hy; simp only [List.mem_cons, List.not_mem_nil, or_false] at hy; skip)) hfe hk hp1 hp2 hb1 hb2
  · skip
    show OwnWP _ _ _ _ _ _ _ _ _ T (mkF m 81 #[.val (.int va), .val (.int vb), .val (.int vc), .val (.long vx), .second, .val (.int p1), .val (.int p2), .val (.int b1), .val (.int b2), .val (.int k), .val (.int fe), .unset, .unset, .unset, .unset, .unset, .unset, .unset, .unset] [(.int (1 : Int32))])
    refine ow_istore C A at_81 (Ls' := #[.val (.int va), .val (.int vb), .val (.int vc), .val (.long vx), .second, .val (.int p1), .val (.int p2), .val (.int b1), .val (.int b2), .val (.int k), .val (.int fe), .val (.int (1 : Int32)), .unset, .unset, .unset, .unset, .unset, .unset, .unset]) rfl rfl ?_
    refine ow_iload C A at_83 rfl rfl ?_
    refine ow_newA C A (ty := .byte) rfl tw_1 at_85 rfl (by decide) (cap := 8) (by decide) (by decide) (ck' := 1) (sk' := 8) rfl rfl (by decide) (by decide) ?_
    intro T10 h12 b13 kk14 g15 E16 V17 A11
    have ows_b13 : b13 ∈ ([] : List Addr) ∨ h0.size ≤ b13 := Or.inr (Nat.le_trans (ow_le A) (Nat.le_of_eq g15.symm))
    have V18 : Arv Z h12 b13 kk14 .byte (1 : Int32) [(.int (0 : Int32))] (.int (0 : Int32)) := V17.pad (pad_rep [] (.int (0 : Int32)) 1)
    refine ow_astore C A11 at_87 rfl (Ls' := #[.val (.int va), .val (.int vb), .val (.int vc), .val (.long vx), .second, .val (.int p1), .val (.int p2), .val (.int b1), .val (.int b2), .val (.int k), .val (.int fe), .val (.int (1 : Int32)), .val (.ref b13), .unset, .unset, .unset, .unset, .unset, .unset]) rfl rfl ?_
    refine ow_iload C A11 at_89 rfl rfl ?_
    refine ow_if_le C A11 at_91 (by decide) (pcY := 101) (by decide) (pcN := 94) rfl (fun zq => absurd (by decide) zq) (fun _ => ?_)
    refine ow_aload C A11 at_94 rfl rfl rfl ?_
    refine ow_iconst C A11 at_96 (v := 0) rfl rfl ?_
    refine ow_lloadN C A11 at_97 rfl rfl ?_
    refine ow_l2i C A11 at_98 rfl ?_
    refine ow_i2b C A11 at_99 rfl ?_
    refine ow_bastore C A11 V18 ⟨by decide, by decide⟩ (i := 0) rfl (Nat.le_of_ble_eq_true rfl) ows_b13 at_100 rfl ?_
    intro T19 h21 W22 V23 A20
    have V24 : Arv Z h21 b13 kk14 .byte (1 : Int32) [(.int vx.toInt32.toInt8.toInt32.toInt8.toInt32)] (.int (0 : Int32)) := V23
    refine ow_iload C A20 at_101 rfl rfl ?_
    refine ow_iconst C A20 at_103 (v := 1) rfl rfl ?_
    refine ow_icmp_le C A20 at_104 (by decide) (pcY := 117) (by decide) (pcN := 107) rfl (fun _ => ?_) (fun zq => absurd zq (by decide))
    refine ow_iload C A20 at_117 rfl rfl ?_
    refine ow_iconst C A20 at_119 (v := 2) rfl rfl ?_
    refine ow_icmp_le C A20 at_120 (by decide) (pcY := 133) (by decide) (pcN := 123) rfl (fun _ => ?_) (fun zq => absurd zq (by decide))
    refine ow_iload C A20 at_133 rfl rfl ?_
    refine ow_iconst C A20 at_135 (v := 3) rfl rfl ?_
    refine ow_icmp_le C A20 at_136 (by decide) (pcY := 149) (by decide) (pcN := 139) rfl (fun _ => ?_) (fun zq => absurd zq (by decide))
    refine ow_iload C A20 at_149 rfl rfl ?_
    refine ow_iconst C A20 at_151 (v := 4) rfl rfl ?_
    refine ow_icmp_le C A20 at_152 (by decide) (pcY := 165) (by decide) (pcN := 155) rfl (fun _ => ?_) (fun zq => absurd zq (by decide))
    refine ow_iload C A20 at_165 rfl rfl ?_
    refine ow_iconst C A20 at_167 (v := 5) rfl rfl ?_
    refine ow_icmp_le C A20 at_168 (by decide) (pcY := 181) (by decide) (pcN := 171) rfl (fun _ => ?_) (fun zq => absurd zq (by decide))
    refine ow_iload C A20 at_181 rfl rfl ?_
    refine ow_bipush C A20 at_183 (v := 6) rfl rfl ?_
    refine ow_icmp_le C A20 at_185 (by decide) (pcY := 199) (by decide) (pcN := 188) rfl (fun _ => ?_) (fun zq => absurd zq (by decide))
    refine ow_iload C A20 at_199 rfl rfl ?_
    refine ow_bipush C A20 at_201 (v := 7) rfl rfl ?_
    refine ow_icmp_le C A20 at_203 (by decide) (pcY := 217) (by decide) (pcN := 206) rfl (fun _ => ?_) (fun zq => absurd zq (by decide))
    exact law_217 hw C A20 va vb vc vx p1 p2 b1 b2 k fe (1 : Int32) b13 kk14 [vx.toInt32.toInt8.toInt32.toInt8.toInt32] V24 (Nat.le_of_ble_eq_true rfl) (own_bytlist _ (by intro y hy; simp only [List.mem_cons, List.not_mem_nil, or_false] at hy; subst hy; exact own_byb _)) hfe hk hp1 hp2 hb1 hb2
  · skip
    show OwnWP _ _ _ _ _ _ _ _ _ T (mkF m 81 #[.val (.int va), .val (.int vb), .val (.int vc), .val (.long vx), .second, .val (.int p1), .val (.int p2), .val (.int b1), .val (.int b2), .val (.int k), .val (.int fe), .unset, .unset, .unset, .unset, .unset, .unset, .unset, .unset] [(.int (2 : Int32))])
    refine ow_istore C A at_81 (Ls' := #[.val (.int va), .val (.int vb), .val (.int vc), .val (.long vx), .second, .val (.int p1), .val (.int p2), .val (.int b1), .val (.int b2), .val (.int k), .val (.int fe), .val (.int (2 : Int32)), .unset, .unset, .unset, .unset, .unset, .unset, .unset]) rfl rfl ?_
    refine ow_iload C A at_83 rfl rfl ?_
    refine ow_newA C A (ty := .byte) rfl tw_1 at_85 rfl (by decide) (cap := 8) (by decide) (by decide) (ck' := 1) (sk' := 8) rfl rfl (by decide) (by decide) ?_
    intro T25 h27 b28 kk29 g30 E31 V32 A26
    have ows_b28 : b28 ∈ ([] : List Addr) ∨ h0.size ≤ b28 := Or.inr (Nat.le_trans (ow_le A) (Nat.le_of_eq g30.symm))
    have V33 : Arv Z h27 b28 kk29 .byte (2 : Int32) [(.int (0 : Int32)), (.int (0 : Int32))] (.int (0 : Int32)) := V32.pad (pad_rep [] (.int (0 : Int32)) 2)
    refine ow_astore C A26 at_87 rfl (Ls' := #[.val (.int va), .val (.int vb), .val (.int vc), .val (.long vx), .second, .val (.int p1), .val (.int p2), .val (.int b1), .val (.int b2), .val (.int k), .val (.int fe), .val (.int (2 : Int32)), .val (.ref b28), .unset, .unset, .unset, .unset, .unset, .unset]) rfl rfl ?_
    refine ow_iload C A26 at_89 rfl rfl ?_
    refine ow_if_le C A26 at_91 (by decide) (pcY := 101) (by decide) (pcN := 94) rfl (fun zq => absurd (by decide) zq) (fun _ => ?_)
    refine ow_aload C A26 at_94 rfl rfl rfl ?_
    refine ow_iconst C A26 at_96 (v := 0) rfl rfl ?_
    refine ow_lloadN C A26 at_97 rfl rfl ?_
    refine ow_l2i C A26 at_98 rfl ?_
    refine ow_i2b C A26 at_99 rfl ?_
    refine ow_bastore C A26 V33 ⟨by decide, by decide⟩ (i := 0) rfl (Nat.le_of_ble_eq_true rfl) ows_b28 at_100 rfl ?_
    intro T34 h36 W37 V38 A35
    have V39 : Arv Z h36 b28 kk29 .byte (2 : Int32) [(.int vx.toInt32.toInt8.toInt32.toInt8.toInt32), (.int (0 : Int32))] (.int (0 : Int32)) := V38
    refine ow_iload C A35 at_101 rfl rfl ?_
    refine ow_iconst C A35 at_103 (v := 1) rfl rfl ?_
    refine ow_icmp_le C A35 at_104 (by decide) (pcY := 117) (by decide) (pcN := 107) rfl (fun zq => absurd (by decide) zq) (fun _ => ?_)
    refine ow_aload C A35 at_107 rfl rfl rfl ?_
    refine ow_iconst C A35 at_109 (v := 1) rfl rfl ?_
    refine ow_lloadN C A35 at_110 rfl rfl ?_
    refine ow_bipush C A35 at_111 (v := 8) rfl rfl ?_
    refine ow_lushr C A35 at_113 rfl ?_
    refine ow_l2i C A35 at_114 rfl ?_
    refine ow_i2b C A35 at_115 rfl ?_
    refine ow_bastore C A35 V39 ⟨by decide, by decide⟩ (i := 1) rfl (Nat.le_of_ble_eq_true rfl) ows_b28 at_116 rfl ?_
    intro T40 h42 W43 V44 A41
    have V45 : Arv Z h42 b28 kk29 .byte (2 : Int32) [(.int vx.toInt32.toInt8.toInt32.toInt8.toInt32), (.int (own_ushrL vx (8 : Int32)).toInt32.toInt8.toInt32.toInt8.toInt32)] (.int (0 : Int32)) := V44
    refine ow_iload C A41 at_117 rfl rfl ?_
    refine ow_iconst C A41 at_119 (v := 2) rfl rfl ?_
    refine ow_icmp_le C A41 at_120 (by decide) (pcY := 133) (by decide) (pcN := 123) rfl (fun _ => ?_) (fun zq => absurd zq (by decide))
    refine ow_iload C A41 at_133 rfl rfl ?_
    refine ow_iconst C A41 at_135 (v := 3) rfl rfl ?_
    refine ow_icmp_le C A41 at_136 (by decide) (pcY := 149) (by decide) (pcN := 139) rfl (fun _ => ?_) (fun zq => absurd zq (by decide))
    refine ow_iload C A41 at_149 rfl rfl ?_
    refine ow_iconst C A41 at_151 (v := 4) rfl rfl ?_
    refine ow_icmp_le C A41 at_152 (by decide) (pcY := 165) (by decide) (pcN := 155) rfl (fun _ => ?_) (fun zq => absurd zq (by decide))
    refine ow_iload C A41 at_165 rfl rfl ?_
    refine ow_iconst C A41 at_167 (v := 5) rfl rfl ?_
    refine ow_icmp_le C A41 at_168 (by decide) (pcY := 181) (by decide) (pcN := 171) rfl (fun _ => ?_) (fun zq => absurd zq (by decide))
    refine ow_iload C A41 at_181 rfl rfl ?_
    refine ow_bipush C A41 at_183 (v := 6) rfl rfl ?_
    refine ow_icmp_le C A41 at_185 (by decide) (pcY := 199) (by decide) (pcN := 188) rfl (fun _ => ?_) (fun zq => absurd zq (by decide))
    refine ow_iload C A41 at_199 rfl rfl ?_
    refine ow_bipush C A41 at_201 (v := 7) rfl rfl ?_
    refine ow_icmp_le C A41 at_203 (by decide) (pcY := 217) (by decide) (pcN := 206) rfl (fun _ => ?_) (fun zq => absurd zq (by decide))
    exact law_217 hw C A41 va vb vc vx p1 p2 b1 b2 k fe (2 : Int32) b28 kk29 [vx.toInt32.toInt8.toInt32.toInt8.toInt32, (own_ushrL vx (8 : Int32)).toInt32.toInt8.toInt32.toInt8.toInt32] V45 (Nat.le_of_ble_eq_true rfl) (own_bytlist _ (by intro y hy; simp only [List.mem_cons, List.not_mem_nil, or_false] at hy; rcases hy with rfl | rfl <;> exact own_byb _)) hfe hk hp1 hp2 hb1 hb2
  · skip
    show OwnWP _ _ _ _ _ _ _ _ _ T (mkF m 81 #[.val (.int va), .val (.int vb), .val (.int vc), .val (.long vx), .second, .val (.int p1), .val (.int p2), .val (.int b1), .val (.int b2), .val (.int k), .val (.int fe), .unset, .unset, .unset, .unset, .unset, .unset, .unset, .unset] [(.int (3 : Int32))])
    refine ow_istore C A at_81 (Ls' := #[.val (.int va), .val (.int vb), .val (.int vc), .val (.long vx), .second, .val (.int p1), .val (.int p2), .val (.int b1), .val (.int b2), .val (.int k), .val (.int fe), .val (.int (3 : Int32)), .unset, .unset, .unset, .unset, .unset, .unset, .unset]) rfl rfl ?_
    refine ow_iload C A at_83 rfl rfl ?_
    refine ow_newA C A (ty := .byte) rfl tw_1 at_85 rfl (by decide) (cap := 8) (by decide) (by decide) (ck' := 1) (sk' := 8) rfl rfl (by decide) (by decide) ?_
    intro T46 h48 b49 kk50 g51 E52 V53 A47
    have ows_b49 : b49 ∈ ([] : List Addr) ∨ h0.size ≤ b49 := Or.inr (Nat.le_trans (ow_le A) (Nat.le_of_eq g51.symm))
    have V54 : Arv Z h48 b49 kk50 .byte (3 : Int32) [(.int (0 : Int32)), (.int (0 : Int32)), (.int (0 : Int32))] (.int (0 : Int32)) := V53.pad (pad_rep [] (.int (0 : Int32)) 3)
    refine ow_astore C A47 at_87 rfl (Ls' := #[.val (.int va), .val (.int vb), .val (.int vc), .val (.long vx), .second, .val (.int p1), .val (.int p2), .val (.int b1), .val (.int b2), .val (.int k), .val (.int fe), .val (.int (3 : Int32)), .val (.ref b49), .unset, .unset, .unset, .unset, .unset, .unset]) rfl rfl ?_
    refine ow_iload C A47 at_89 rfl rfl ?_
    refine ow_if_le C A47 at_91 (by decide) (pcY := 101) (by decide) (pcN := 94) rfl (fun zq => absurd (by decide) zq) (fun _ => ?_)
    refine ow_aload C A47 at_94 rfl rfl rfl ?_
    refine ow_iconst C A47 at_96 (v := 0) rfl rfl ?_
    refine ow_lloadN C A47 at_97 rfl rfl ?_
    refine ow_l2i C A47 at_98 rfl ?_
    refine ow_i2b C A47 at_99 rfl ?_
    refine ow_bastore C A47 V54 ⟨by decide, by decide⟩ (i := 0) rfl (Nat.le_of_ble_eq_true rfl) ows_b49 at_100 rfl ?_
    intro T55 h57 W58 V59 A56
    have V60 : Arv Z h57 b49 kk50 .byte (3 : Int32) [(.int vx.toInt32.toInt8.toInt32.toInt8.toInt32), (.int (0 : Int32)), (.int (0 : Int32))] (.int (0 : Int32)) := V59
    refine ow_iload C A56 at_101 rfl rfl ?_
    refine ow_iconst C A56 at_103 (v := 1) rfl rfl ?_
    refine ow_icmp_le C A56 at_104 (by decide) (pcY := 117) (by decide) (pcN := 107) rfl (fun zq => absurd (by decide) zq) (fun _ => ?_)
    refine ow_aload C A56 at_107 rfl rfl rfl ?_
    refine ow_iconst C A56 at_109 (v := 1) rfl rfl ?_
    refine ow_lloadN C A56 at_110 rfl rfl ?_
    refine ow_bipush C A56 at_111 (v := 8) rfl rfl ?_
    refine ow_lushr C A56 at_113 rfl ?_
    refine ow_l2i C A56 at_114 rfl ?_
    refine ow_i2b C A56 at_115 rfl ?_
    refine ow_bastore C A56 V60 ⟨by decide, by decide⟩ (i := 1) rfl (Nat.le_of_ble_eq_true rfl) ows_b49 at_116 rfl ?_
    intro T61 h63 W64 V65 A62
    have V66 : Arv Z h63 b49 kk50 .byte (3 : Int32) [(.int vx.toInt32.toInt8.toInt32.toInt8.toInt32), (.int (own_ushrL vx (8 : Int32)).toInt32.toInt8.toInt32.toInt8.toInt32), (.int (0 : Int32))] (.int (0 : Int32)) := V65
    refine ow_iload C A62 at_117 rfl rfl ?_
    refine ow_iconst C A62 at_119 (v := 2) rfl rfl ?_
    refine ow_icmp_le C A62 at_120 (by decide) (pcY := 133) (by decide) (pcN := 123) rfl (fun zq => absurd (by decide) zq) (fun _ => ?_)
    refine ow_aload C A62 at_123 rfl rfl rfl ?_
    refine ow_iconst C A62 at_125 (v := 2) rfl rfl ?_
    refine ow_lloadN C A62 at_126 rfl rfl ?_
    refine ow_bipush C A62 at_127 (v := 16) rfl rfl ?_
    refine ow_lushr C A62 at_129 rfl ?_
    refine ow_l2i C A62 at_130 rfl ?_
    refine ow_i2b C A62 at_131 rfl ?_
    refine ow_bastore C A62 V66 ⟨by decide, by decide⟩ (i := 2) rfl (Nat.le_of_ble_eq_true rfl) ows_b49 at_132 rfl ?_
    intro T67 h69 W70 V71 A68
    have V72 : Arv Z h69 b49 kk50 .byte (3 : Int32) [(.int vx.toInt32.toInt8.toInt32.toInt8.toInt32), (.int (own_ushrL vx (8 : Int32)).toInt32.toInt8.toInt32.toInt8.toInt32), (.int (own_ushrL vx (16 : Int32)).toInt32.toInt8.toInt32.toInt8.toInt32)] (.int (0 : Int32)) := V71
    refine ow_iload C A68 at_133 rfl rfl ?_
    refine ow_iconst C A68 at_135 (v := 3) rfl rfl ?_
    refine ow_icmp_le C A68 at_136 (by decide) (pcY := 149) (by decide) (pcN := 139) rfl (fun _ => ?_) (fun zq => absurd zq (by decide))
    refine ow_iload C A68 at_149 rfl rfl ?_
    refine ow_iconst C A68 at_151 (v := 4) rfl rfl ?_
    refine ow_icmp_le C A68 at_152 (by decide) (pcY := 165) (by decide) (pcN := 155) rfl (fun _ => ?_) (fun zq => absurd zq (by decide))
    refine ow_iload C A68 at_165 rfl rfl ?_
    refine ow_iconst C A68 at_167 (v := 5) rfl rfl ?_
    refine ow_icmp_le C A68 at_168 (by decide) (pcY := 181) (by decide) (pcN := 171) rfl (fun _ => ?_) (fun zq => absurd zq (by decide))
    refine ow_iload C A68 at_181 rfl rfl ?_
    refine ow_bipush C A68 at_183 (v := 6) rfl rfl ?_
    refine ow_icmp_le C A68 at_185 (by decide) (pcY := 199) (by decide) (pcN := 188) rfl (fun _ => ?_) (fun zq => absurd zq (by decide))
    refine ow_iload C A68 at_199 rfl rfl ?_
    refine ow_bipush C A68 at_201 (v := 7) rfl rfl ?_
    refine ow_icmp_le C A68 at_203 (by decide) (pcY := 217) (by decide) (pcN := 206) rfl (fun _ => ?_) (fun zq => absurd zq (by decide))
    exact law_217 hw C A68 va vb vc vx p1 p2 b1 b2 k fe (3 : Int32) b49 kk50 [vx.toInt32.toInt8.toInt32.toInt8.toInt32, (own_ushrL vx (8 : Int32)).toInt32.toInt8.toInt32.toInt8.toInt32, (own_ushrL vx (16 : Int32)).toInt32.toInt8.toInt32.toInt8.toInt32] V72 (Nat.le_of_ble_eq_true rfl) (own_bytlist _ (by intro y hy; simp only [List.mem_cons, List.not_mem_nil, or_false] at hy; rcases hy with rfl | rfl | rfl <;> exact own_byb _)) hfe hk hp1 hp2 hb1 hb2
  · skip
    show OwnWP _ _ _ _ _ _ _ _ _ T (mkF m 81 #[.val (.int va), .val (.int vb), .val (.int vc), .val (.long vx), .second, .val (.int p1), .val (.int p2), .val (.int b1), .val (.int b2), .val (.int k), .val (.int fe), .unset, .unset, .unset, .unset, .unset, .unset, .unset, .unset] [(.int (4 : Int32))])
    refine ow_istore C A at_81 (Ls' := #[.val (.int va), .val (.int vb), .val (.int vc), .val (.long vx), .second, .val (.int p1), .val (.int p2), .val (.int b1), .val (.int b2), .val (.int k), .val (.int fe), .val (.int (4 : Int32)), .unset, .unset, .unset, .unset, .unset, .unset, .unset]) rfl rfl ?_
    refine ow_iload C A at_83 rfl rfl ?_
    refine ow_newA C A (ty := .byte) rfl tw_1 at_85 rfl (by decide) (cap := 8) (by decide) (by decide) (ck' := 1) (sk' := 8) rfl rfl (by decide) (by decide) ?_
    intro T73 h75 b76 kk77 g78 E79 V80 A74
    have ows_b76 : b76 ∈ ([] : List Addr) ∨ h0.size ≤ b76 := Or.inr (Nat.le_trans (ow_le A) (Nat.le_of_eq g78.symm))
    have V81 : Arv Z h75 b76 kk77 .byte (4 : Int32) [(.int (0 : Int32)), (.int (0 : Int32)), (.int (0 : Int32)), (.int (0 : Int32))] (.int (0 : Int32)) := V80.pad (pad_rep [] (.int (0 : Int32)) 4)
    refine ow_astore C A74 at_87 rfl (Ls' := #[.val (.int va), .val (.int vb), .val (.int vc), .val (.long vx), .second, .val (.int p1), .val (.int p2), .val (.int b1), .val (.int b2), .val (.int k), .val (.int fe), .val (.int (4 : Int32)), .val (.ref b76), .unset, .unset, .unset, .unset, .unset, .unset]) rfl rfl ?_
    refine ow_iload C A74 at_89 rfl rfl ?_
    refine ow_if_le C A74 at_91 (by decide) (pcY := 101) (by decide) (pcN := 94) rfl (fun zq => absurd (by decide) zq) (fun _ => ?_)
    refine ow_aload C A74 at_94 rfl rfl rfl ?_
    refine ow_iconst C A74 at_96 (v := 0) rfl rfl ?_
    refine ow_lloadN C A74 at_97 rfl rfl ?_
    refine ow_l2i C A74 at_98 rfl ?_
    refine ow_i2b C A74 at_99 rfl ?_
    refine ow_bastore C A74 V81 ⟨by decide, by decide⟩ (i := 0) rfl (Nat.le_of_ble_eq_true rfl) ows_b76 at_100 rfl ?_
    intro T82 h84 W85 V86 A83
    have V87 : Arv Z h84 b76 kk77 .byte (4 : Int32) [(.int vx.toInt32.toInt8.toInt32.toInt8.toInt32), (.int (0 : Int32)), (.int (0 : Int32)), (.int (0 : Int32))] (.int (0 : Int32)) := V86
    refine ow_iload C A83 at_101 rfl rfl ?_
    refine ow_iconst C A83 at_103 (v := 1) rfl rfl ?_
    refine ow_icmp_le C A83 at_104 (by decide) (pcY := 117) (by decide) (pcN := 107) rfl (fun zq => absurd (by decide) zq) (fun _ => ?_)
    refine ow_aload C A83 at_107 rfl rfl rfl ?_
    refine ow_iconst C A83 at_109 (v := 1) rfl rfl ?_
    refine ow_lloadN C A83 at_110 rfl rfl ?_
    refine ow_bipush C A83 at_111 (v := 8) rfl rfl ?_
    refine ow_lushr C A83 at_113 rfl ?_
    refine ow_l2i C A83 at_114 rfl ?_
    refine ow_i2b C A83 at_115 rfl ?_
    refine ow_bastore C A83 V87 ⟨by decide, by decide⟩ (i := 1) rfl (Nat.le_of_ble_eq_true rfl) ows_b76 at_116 rfl ?_
    intro T88 h90 W91 V92 A89
    have V93 : Arv Z h90 b76 kk77 .byte (4 : Int32) [(.int vx.toInt32.toInt8.toInt32.toInt8.toInt32), (.int (own_ushrL vx (8 : Int32)).toInt32.toInt8.toInt32.toInt8.toInt32), (.int (0 : Int32)), (.int (0 : Int32))] (.int (0 : Int32)) := V92
    refine ow_iload C A89 at_117 rfl rfl ?_
    refine ow_iconst C A89 at_119 (v := 2) rfl rfl ?_
    refine ow_icmp_le C A89 at_120 (by decide) (pcY := 133) (by decide) (pcN := 123) rfl (fun zq => absurd (by decide) zq) (fun _ => ?_)
    refine ow_aload C A89 at_123 rfl rfl rfl ?_
    refine ow_iconst C A89 at_125 (v := 2) rfl rfl ?_
    refine ow_lloadN C A89 at_126 rfl rfl ?_
    refine ow_bipush C A89 at_127 (v := 16) rfl rfl ?_
    refine ow_lushr C A89 at_129 rfl ?_
    refine ow_l2i C A89 at_130 rfl ?_
    refine ow_i2b C A89 at_131 rfl ?_
    refine ow_bastore C A89 V93 ⟨by decide, by decide⟩ (i := 2) rfl (Nat.le_of_ble_eq_true rfl) ows_b76 at_132 rfl ?_
    intro T94 h96 W97 V98 A95
    have V99 : Arv Z h96 b76 kk77 .byte (4 : Int32) [(.int vx.toInt32.toInt8.toInt32.toInt8.toInt32), (.int (own_ushrL vx (8 : Int32)).toInt32.toInt8.toInt32.toInt8.toInt32), (.int (own_ushrL vx (16 : Int32)).toInt32.toInt8.toInt32.toInt8.toInt32), (.int (0 : Int32))] (.int (0 : Int32)) := V98
    refine ow_iload C A95 at_133 rfl rfl ?_
    refine ow_iconst C A95 at_135 (v := 3) rfl rfl ?_
    refine ow_icmp_le C A95 at_136 (by decide) (pcY := 149) (by decide) (pcN := 139) rfl (fun zq => absurd (by decide) zq) (fun _ => ?_)
    refine ow_aload C A95 at_139 rfl rfl rfl ?_
    refine ow_iconst C A95 at_141 (v := 3) rfl rfl ?_
    refine ow_lloadN C A95 at_142 rfl rfl ?_
    refine ow_bipush C A95 at_143 (v := 24) rfl rfl ?_
    refine ow_lushr C A95 at_145 rfl ?_
    refine ow_l2i C A95 at_146 rfl ?_
    refine ow_i2b C A95 at_147 rfl ?_
    refine ow_bastore C A95 V99 ⟨by decide, by decide⟩ (i := 3) rfl (Nat.le_of_ble_eq_true rfl) ows_b76 at_148 rfl ?_
    intro T100 h102 W103 V104 A101
    have V105 : Arv Z h102 b76 kk77 .byte (4 : Int32) [(.int vx.toInt32.toInt8.toInt32.toInt8.toInt32), (.int (own_ushrL vx (8 : Int32)).toInt32.toInt8.toInt32.toInt8.toInt32), (.int (own_ushrL vx (16 : Int32)).toInt32.toInt8.toInt32.toInt8.toInt32), (.int (own_ushrL vx (24 : Int32)).toInt32.toInt8.toInt32.toInt8.toInt32)] (.int (0 : Int32)) := V104
    refine ow_iload C A101 at_149 rfl rfl ?_
    refine ow_iconst C A101 at_151 (v := 4) rfl rfl ?_
    refine ow_icmp_le C A101 at_152 (by decide) (pcY := 165) (by decide) (pcN := 155) rfl (fun _ => ?_) (fun zq => absurd zq (by decide))
    refine ow_iload C A101 at_165 rfl rfl ?_
    refine ow_iconst C A101 at_167 (v := 5) rfl rfl ?_
    refine ow_icmp_le C A101 at_168 (by decide) (pcY := 181) (by decide) (pcN := 171) rfl (fun _ => ?_) (fun zq => absurd zq (by decide))
    refine ow_iload C A101 at_181 rfl rfl ?_
    refine ow_bipush C A101 at_183 (v := 6) rfl rfl ?_
    refine ow_icmp_le C A101 at_185 (by decide) (pcY := 199) (by decide) (pcN := 188) rfl (fun _ => ?_) (fun zq => absurd zq (by decide))
    refine ow_iload C A101 at_199 rfl rfl ?_
    refine ow_bipush C A101 at_201 (v := 7) rfl rfl ?_
    refine ow_icmp_le C A101 at_203 (by decide) (pcY := 217) (by decide) (pcN := 206) rfl (fun _ => ?_) (fun zq => absurd zq (by decide))
    exact law_217 hw C A101 va vb vc vx p1 p2 b1 b2 k fe (4 : Int32) b76 kk77 [vx.toInt32.toInt8.toInt32.toInt8.toInt32, (own_ushrL vx (8 : Int32)).toInt32.toInt8.toInt32.toInt8.toInt32, (own_ushrL vx (16 : Int32)).toInt32.toInt8.toInt32.toInt8.toInt32, (own_ushrL vx (24 : Int32)).toInt32.toInt8.toInt32.toInt8.toInt32] V105 (Nat.le_of_ble_eq_true rfl) (own_bytlist _ (by intro y hy; simp only [List.mem_cons, List.not_mem_nil, or_false] at hy; rcases hy with rfl | rfl | rfl | rfl <;> exact own_byb _)) hfe hk hp1 hp2 hb1 hb2
  · skip
    show OwnWP _ _ _ _ _ _ _ _ _ T (mkF m 81 #[.val (.int va), .val (.int vb), .val (.int vc), .val (.long vx), .second, .val (.int p1), .val (.int p2), .val (.int b1), .val (.int b2), .val (.int k), .val (.int fe), .unset, .unset, .unset, .unset, .unset, .unset, .unset, .unset] [(.int (5 : Int32))])
    refine ow_istore C A at_81 (Ls' := #[.val (.int va), .val (.int vb), .val (.int vc), .val (.long vx), .second, .val (.int p1), .val (.int p2), .val (.int b1), .val (.int b2), .val (.int k), .val (.int fe), .val (.int (5 : Int32)), .unset, .unset, .unset, .unset, .unset, .unset, .unset]) rfl rfl ?_
    refine ow_iload C A at_83 rfl rfl ?_
    refine ow_newA C A (ty := .byte) rfl tw_1 at_85 rfl (by decide) (cap := 8) (by decide) (by decide) (ck' := 1) (sk' := 8) rfl rfl (by decide) (by decide) ?_
    intro T106 h108 b109 kk110 g111 E112 V113 A107
    have ows_b109 : b109 ∈ ([] : List Addr) ∨ h0.size ≤ b109 := Or.inr (Nat.le_trans (ow_le A) (Nat.le_of_eq g111.symm))
    have V114 : Arv Z h108 b109 kk110 .byte (5 : Int32) [(.int (0 : Int32)), (.int (0 : Int32)), (.int (0 : Int32)), (.int (0 : Int32)), (.int (0 : Int32))] (.int (0 : Int32)) := V113.pad (pad_rep [] (.int (0 : Int32)) 5)
    refine ow_astore C A107 at_87 rfl (Ls' := #[.val (.int va), .val (.int vb), .val (.int vc), .val (.long vx), .second, .val (.int p1), .val (.int p2), .val (.int b1), .val (.int b2), .val (.int k), .val (.int fe), .val (.int (5 : Int32)), .val (.ref b109), .unset, .unset, .unset, .unset, .unset, .unset]) rfl rfl ?_
    refine ow_iload C A107 at_89 rfl rfl ?_
    refine ow_if_le C A107 at_91 (by decide) (pcY := 101) (by decide) (pcN := 94) rfl (fun zq => absurd (by decide) zq) (fun _ => ?_)
    refine ow_aload C A107 at_94 rfl rfl rfl ?_
    refine ow_iconst C A107 at_96 (v := 0) rfl rfl ?_
    refine ow_lloadN C A107 at_97 rfl rfl ?_
    refine ow_l2i C A107 at_98 rfl ?_
    refine ow_i2b C A107 at_99 rfl ?_
    refine ow_bastore C A107 V114 ⟨by decide, by decide⟩ (i := 0) rfl (Nat.le_of_ble_eq_true rfl) ows_b109 at_100 rfl ?_
    intro T115 h117 W118 V119 A116
    have V120 : Arv Z h117 b109 kk110 .byte (5 : Int32) [(.int vx.toInt32.toInt8.toInt32.toInt8.toInt32), (.int (0 : Int32)), (.int (0 : Int32)), (.int (0 : Int32)), (.int (0 : Int32))] (.int (0 : Int32)) := V119
    refine ow_iload C A116 at_101 rfl rfl ?_
    refine ow_iconst C A116 at_103 (v := 1) rfl rfl ?_
    refine ow_icmp_le C A116 at_104 (by decide) (pcY := 117) (by decide) (pcN := 107) rfl (fun zq => absurd (by decide) zq) (fun _ => ?_)
    refine ow_aload C A116 at_107 rfl rfl rfl ?_
    refine ow_iconst C A116 at_109 (v := 1) rfl rfl ?_
    refine ow_lloadN C A116 at_110 rfl rfl ?_
    refine ow_bipush C A116 at_111 (v := 8) rfl rfl ?_
    refine ow_lushr C A116 at_113 rfl ?_
    refine ow_l2i C A116 at_114 rfl ?_
    refine ow_i2b C A116 at_115 rfl ?_
    refine ow_bastore C A116 V120 ⟨by decide, by decide⟩ (i := 1) rfl (Nat.le_of_ble_eq_true rfl) ows_b109 at_116 rfl ?_
    intro T121 h123 W124 V125 A122
    have V126 : Arv Z h123 b109 kk110 .byte (5 : Int32) [(.int vx.toInt32.toInt8.toInt32.toInt8.toInt32), (.int (own_ushrL vx (8 : Int32)).toInt32.toInt8.toInt32.toInt8.toInt32), (.int (0 : Int32)), (.int (0 : Int32)), (.int (0 : Int32))] (.int (0 : Int32)) := V125
    refine ow_iload C A122 at_117 rfl rfl ?_
    refine ow_iconst C A122 at_119 (v := 2) rfl rfl ?_
    refine ow_icmp_le C A122 at_120 (by decide) (pcY := 133) (by decide) (pcN := 123) rfl (fun zq => absurd (by decide) zq) (fun _ => ?_)
    refine ow_aload C A122 at_123 rfl rfl rfl ?_
    refine ow_iconst C A122 at_125 (v := 2) rfl rfl ?_
    refine ow_lloadN C A122 at_126 rfl rfl ?_
    refine ow_bipush C A122 at_127 (v := 16) rfl rfl ?_
    refine ow_lushr C A122 at_129 rfl ?_
    refine ow_l2i C A122 at_130 rfl ?_
    refine ow_i2b C A122 at_131 rfl ?_
    refine ow_bastore C A122 V126 ⟨by decide, by decide⟩ (i := 2) rfl (Nat.le_of_ble_eq_true rfl) ows_b109 at_132 rfl ?_
    intro T127 h129 W130 V131 A128
    have V132 : Arv Z h129 b109 kk110 .byte (5 : Int32) [(.int vx.toInt32.toInt8.toInt32.toInt8.toInt32), (.int (own_ushrL vx (8 : Int32)).toInt32.toInt8.toInt32.toInt8.toInt32), (.int (own_ushrL vx (16 : Int32)).toInt32.toInt8.toInt32.toInt8.toInt32), (.int (0 : Int32)), (.int (0 : Int32))] (.int (0 : Int32)) := V131
    refine ow_iload C A128 at_133 rfl rfl ?_
    refine ow_iconst C A128 at_135 (v := 3) rfl rfl ?_
    refine ow_icmp_le C A128 at_136 (by decide) (pcY := 149) (by decide) (pcN := 139) rfl (fun zq => absurd (by decide) zq) (fun _ => ?_)
    refine ow_aload C A128 at_139 rfl rfl rfl ?_
    refine ow_iconst C A128 at_141 (v := 3) rfl rfl ?_
    refine ow_lloadN C A128 at_142 rfl rfl ?_
    refine ow_bipush C A128 at_143 (v := 24) rfl rfl ?_
    refine ow_lushr C A128 at_145 rfl ?_
    refine ow_l2i C A128 at_146 rfl ?_
    refine ow_i2b C A128 at_147 rfl ?_
    refine ow_bastore C A128 V132 ⟨by decide, by decide⟩ (i := 3) rfl (Nat.le_of_ble_eq_true rfl) ows_b109 at_148 rfl ?_
    intro T133 h135 W136 V137 A134
    have V138 : Arv Z h135 b109 kk110 .byte (5 : Int32) [(.int vx.toInt32.toInt8.toInt32.toInt8.toInt32), (.int (own_ushrL vx (8 : Int32)).toInt32.toInt8.toInt32.toInt8.toInt32), (.int (own_ushrL vx (16 : Int32)).toInt32.toInt8.toInt32.toInt8.toInt32), (.int (own_ushrL vx (24 : Int32)).toInt32.toInt8.toInt32.toInt8.toInt32), (.int (0 : Int32))] (.int (0 : Int32)) := V137
    refine ow_iload C A134 at_149 rfl rfl ?_
    refine ow_iconst C A134 at_151 (v := 4) rfl rfl ?_
    refine ow_icmp_le C A134 at_152 (by decide) (pcY := 165) (by decide) (pcN := 155) rfl (fun zq => absurd (by decide) zq) (fun _ => ?_)
    refine ow_aload C A134 at_155 rfl rfl rfl ?_
    refine ow_iconst C A134 at_157 (v := 4) rfl rfl ?_
    refine ow_lloadN C A134 at_158 rfl rfl ?_
    refine ow_bipush C A134 at_159 (v := 32) rfl rfl ?_
    refine ow_lushr C A134 at_161 rfl ?_
    refine ow_l2i C A134 at_162 rfl ?_
    refine ow_i2b C A134 at_163 rfl ?_
    refine ow_bastore C A134 V138 ⟨by decide, by decide⟩ (i := 4) rfl (Nat.le_of_ble_eq_true rfl) ows_b109 at_164 rfl ?_
    intro T139 h141 W142 V143 A140
    have V144 : Arv Z h141 b109 kk110 .byte (5 : Int32) [(.int vx.toInt32.toInt8.toInt32.toInt8.toInt32), (.int (own_ushrL vx (8 : Int32)).toInt32.toInt8.toInt32.toInt8.toInt32), (.int (own_ushrL vx (16 : Int32)).toInt32.toInt8.toInt32.toInt8.toInt32), (.int (own_ushrL vx (24 : Int32)).toInt32.toInt8.toInt32.toInt8.toInt32), (.int (own_ushrL vx (32 : Int32)).toInt32.toInt8.toInt32.toInt8.toInt32)] (.int (0 : Int32)) := V143
    refine ow_iload C A140 at_165 rfl rfl ?_
    refine ow_iconst C A140 at_167 (v := 5) rfl rfl ?_
    refine ow_icmp_le C A140 at_168 (by decide) (pcY := 181) (by decide) (pcN := 171) rfl (fun _ => ?_) (fun zq => absurd zq (by decide))
    refine ow_iload C A140 at_181 rfl rfl ?_
    refine ow_bipush C A140 at_183 (v := 6) rfl rfl ?_
    refine ow_icmp_le C A140 at_185 (by decide) (pcY := 199) (by decide) (pcN := 188) rfl (fun _ => ?_) (fun zq => absurd zq (by decide))
    refine ow_iload C A140 at_199 rfl rfl ?_
    refine ow_bipush C A140 at_201 (v := 7) rfl rfl ?_
    refine ow_icmp_le C A140 at_203 (by decide) (pcY := 217) (by decide) (pcN := 206) rfl (fun _ => ?_) (fun zq => absurd zq (by decide))
    exact law_217 hw C A140 va vb vc vx p1 p2 b1 b2 k fe (5 : Int32) b109 kk110 [vx.toInt32.toInt8.toInt32.toInt8.toInt32, (own_ushrL vx (8 : Int32)).toInt32.toInt8.toInt32.toInt8.toInt32, (own_ushrL vx (16 : Int32)).toInt32.toInt8.toInt32.toInt8.toInt32, (own_ushrL vx (24 : Int32)).toInt32.toInt8.toInt32.toInt8.toInt32, (own_ushrL vx (32 : Int32)).toInt32.toInt8.toInt32.toInt8.toInt32] V144 (Nat.le_of_ble_eq_true rfl) (own_bytlist _ (by intro y hy; simp only [List.mem_cons, List.not_mem_nil, or_false] at hy; rcases hy with rfl | rfl | rfl | rfl | rfl <;> exact own_byb _)) hfe hk hp1 hp2 hb1 hb2
  · skip
    show OwnWP _ _ _ _ _ _ _ _ _ T (mkF m 81 #[.val (.int va), .val (.int vb), .val (.int vc), .val (.long vx), .second, .val (.int p1), .val (.int p2), .val (.int b1), .val (.int b2), .val (.int k), .val (.int fe), .unset, .unset, .unset, .unset, .unset, .unset, .unset, .unset] [(.int (6 : Int32))])
    refine ow_istore C A at_81 (Ls' := #[.val (.int va), .val (.int vb), .val (.int vc), .val (.long vx), .second, .val (.int p1), .val (.int p2), .val (.int b1), .val (.int b2), .val (.int k), .val (.int fe), .val (.int (6 : Int32)), .unset, .unset, .unset, .unset, .unset, .unset, .unset]) rfl rfl ?_
    refine ow_iload C A at_83 rfl rfl ?_
    refine ow_newA C A (ty := .byte) rfl tw_1 at_85 rfl (by decide) (cap := 8) (by decide) (by decide) (ck' := 1) (sk' := 8) rfl rfl (by decide) (by decide) ?_
    intro T145 h147 b148 kk149 g150 E151 V152 A146
    have ows_b148 : b148 ∈ ([] : List Addr) ∨ h0.size ≤ b148 := Or.inr (Nat.le_trans (ow_le A) (Nat.le_of_eq g150.symm))
    have V153 : Arv Z h147 b148 kk149 .byte (6 : Int32) [(.int (0 : Int32)), (.int (0 : Int32)), (.int (0 : Int32)), (.int (0 : Int32)), (.int (0 : Int32)), (.int (0 : Int32))] (.int (0 : Int32)) := V152.pad (pad_rep [] (.int (0 : Int32)) 6)
    refine ow_astore C A146 at_87 rfl (Ls' := #[.val (.int va), .val (.int vb), .val (.int vc), .val (.long vx), .second, .val (.int p1), .val (.int p2), .val (.int b1), .val (.int b2), .val (.int k), .val (.int fe), .val (.int (6 : Int32)), .val (.ref b148), .unset, .unset, .unset, .unset, .unset, .unset]) rfl rfl ?_
    refine ow_iload C A146 at_89 rfl rfl ?_
    refine ow_if_le C A146 at_91 (by decide) (pcY := 101) (by decide) (pcN := 94) rfl (fun zq => absurd (by decide) zq) (fun _ => ?_)
    refine ow_aload C A146 at_94 rfl rfl rfl ?_
    refine ow_iconst C A146 at_96 (v := 0) rfl rfl ?_
    refine ow_lloadN C A146 at_97 rfl rfl ?_
    refine ow_l2i C A146 at_98 rfl ?_
    refine ow_i2b C A146 at_99 rfl ?_
    refine ow_bastore C A146 V153 ⟨by decide, by decide⟩ (i := 0) rfl (Nat.le_of_ble_eq_true rfl) ows_b148 at_100 rfl ?_
    intro T154 h156 W157 V158 A155
    have V159 : Arv Z h156 b148 kk149 .byte (6 : Int32) [(.int vx.toInt32.toInt8.toInt32.toInt8.toInt32), (.int (0 : Int32)), (.int (0 : Int32)), (.int (0 : Int32)), (.int (0 : Int32)), (.int (0 : Int32))] (.int (0 : Int32)) := V158
    refine ow_iload C A155 at_101 rfl rfl ?_
    refine ow_iconst C A155 at_103 (v := 1) rfl rfl ?_
    refine ow_icmp_le C A155 at_104 (by decide) (pcY := 117) (by decide) (pcN := 107) rfl (fun zq => absurd (by decide) zq) (fun _ => ?_)
    refine ow_aload C A155 at_107 rfl rfl rfl ?_
    refine ow_iconst C A155 at_109 (v := 1) rfl rfl ?_
    refine ow_lloadN C A155 at_110 rfl rfl ?_
    refine ow_bipush C A155 at_111 (v := 8) rfl rfl ?_
    refine ow_lushr C A155 at_113 rfl ?_
    refine ow_l2i C A155 at_114 rfl ?_
    refine ow_i2b C A155 at_115 rfl ?_
    refine ow_bastore C A155 V159 ⟨by decide, by decide⟩ (i := 1) rfl (Nat.le_of_ble_eq_true rfl) ows_b148 at_116 rfl ?_
    intro T160 h162 W163 V164 A161
    have V165 : Arv Z h162 b148 kk149 .byte (6 : Int32) [(.int vx.toInt32.toInt8.toInt32.toInt8.toInt32), (.int (own_ushrL vx (8 : Int32)).toInt32.toInt8.toInt32.toInt8.toInt32), (.int (0 : Int32)), (.int (0 : Int32)), (.int (0 : Int32)), (.int (0 : Int32))] (.int (0 : Int32)) := V164
    refine ow_iload C A161 at_117 rfl rfl ?_
    refine ow_iconst C A161 at_119 (v := 2) rfl rfl ?_
    refine ow_icmp_le C A161 at_120 (by decide) (pcY := 133) (by decide) (pcN := 123) rfl (fun zq => absurd (by decide) zq) (fun _ => ?_)
    refine ow_aload C A161 at_123 rfl rfl rfl ?_
    refine ow_iconst C A161 at_125 (v := 2) rfl rfl ?_
    refine ow_lloadN C A161 at_126 rfl rfl ?_
    refine ow_bipush C A161 at_127 (v := 16) rfl rfl ?_
    refine ow_lushr C A161 at_129 rfl ?_
    refine ow_l2i C A161 at_130 rfl ?_
    refine ow_i2b C A161 at_131 rfl ?_
    refine ow_bastore C A161 V165 ⟨by decide, by decide⟩ (i := 2) rfl (Nat.le_of_ble_eq_true rfl) ows_b148 at_132 rfl ?_
    intro T166 h168 W169 V170 A167
    have V171 : Arv Z h168 b148 kk149 .byte (6 : Int32) [(.int vx.toInt32.toInt8.toInt32.toInt8.toInt32), (.int (own_ushrL vx (8 : Int32)).toInt32.toInt8.toInt32.toInt8.toInt32), (.int (own_ushrL vx (16 : Int32)).toInt32.toInt8.toInt32.toInt8.toInt32), (.int (0 : Int32)), (.int (0 : Int32)), (.int (0 : Int32))] (.int (0 : Int32)) := V170
    refine ow_iload C A167 at_133 rfl rfl ?_
    refine ow_iconst C A167 at_135 (v := 3) rfl rfl ?_
    refine ow_icmp_le C A167 at_136 (by decide) (pcY := 149) (by decide) (pcN := 139) rfl (fun zq => absurd (by decide) zq) (fun _ => ?_)
    refine ow_aload C A167 at_139 rfl rfl rfl ?_
    refine ow_iconst C A167 at_141 (v := 3) rfl rfl ?_
    refine ow_lloadN C A167 at_142 rfl rfl ?_
    refine ow_bipush C A167 at_143 (v := 24) rfl rfl ?_
    refine ow_lushr C A167 at_145 rfl ?_
    refine ow_l2i C A167 at_146 rfl ?_
    refine ow_i2b C A167 at_147 rfl ?_
    refine ow_bastore C A167 V171 ⟨by decide, by decide⟩ (i := 3) rfl (Nat.le_of_ble_eq_true rfl) ows_b148 at_148 rfl ?_
    intro T172 h174 W175 V176 A173
    have V177 : Arv Z h174 b148 kk149 .byte (6 : Int32) [(.int vx.toInt32.toInt8.toInt32.toInt8.toInt32), (.int (own_ushrL vx (8 : Int32)).toInt32.toInt8.toInt32.toInt8.toInt32), (.int (own_ushrL vx (16 : Int32)).toInt32.toInt8.toInt32.toInt8.toInt32), (.int (own_ushrL vx (24 : Int32)).toInt32.toInt8.toInt32.toInt8.toInt32), (.int (0 : Int32)), (.int (0 : Int32))] (.int (0 : Int32)) := V176
    refine ow_iload C A173 at_149 rfl rfl ?_
    refine ow_iconst C A173 at_151 (v := 4) rfl rfl ?_
    refine ow_icmp_le C A173 at_152 (by decide) (pcY := 165) (by decide) (pcN := 155) rfl (fun zq => absurd (by decide) zq) (fun _ => ?_)
    refine ow_aload C A173 at_155 rfl rfl rfl ?_
    refine ow_iconst C A173 at_157 (v := 4) rfl rfl ?_
    refine ow_lloadN C A173 at_158 rfl rfl ?_
    refine ow_bipush C A173 at_159 (v := 32) rfl rfl ?_
    refine ow_lushr C A173 at_161 rfl ?_
    refine ow_l2i C A173 at_162 rfl ?_
    refine ow_i2b C A173 at_163 rfl ?_
    refine ow_bastore C A173 V177 ⟨by decide, by decide⟩ (i := 4) rfl (Nat.le_of_ble_eq_true rfl) ows_b148 at_164 rfl ?_
    intro T178 h180 W181 V182 A179
    have V183 : Arv Z h180 b148 kk149 .byte (6 : Int32) [(.int vx.toInt32.toInt8.toInt32.toInt8.toInt32), (.int (own_ushrL vx (8 : Int32)).toInt32.toInt8.toInt32.toInt8.toInt32), (.int (own_ushrL vx (16 : Int32)).toInt32.toInt8.toInt32.toInt8.toInt32), (.int (own_ushrL vx (24 : Int32)).toInt32.toInt8.toInt32.toInt8.toInt32), (.int (own_ushrL vx (32 : Int32)).toInt32.toInt8.toInt32.toInt8.toInt32), (.int (0 : Int32))] (.int (0 : Int32)) := V182
    refine ow_iload C A179 at_165 rfl rfl ?_
    refine ow_iconst C A179 at_167 (v := 5) rfl rfl ?_
    refine ow_icmp_le C A179 at_168 (by decide) (pcY := 181) (by decide) (pcN := 171) rfl (fun zq => absurd (by decide) zq) (fun _ => ?_)
    refine ow_aload C A179 at_171 rfl rfl rfl ?_
    refine ow_iconst C A179 at_173 (v := 5) rfl rfl ?_
    refine ow_lloadN C A179 at_174 rfl rfl ?_
    refine ow_bipush C A179 at_175 (v := 40) rfl rfl ?_
    refine ow_lushr C A179 at_177 rfl ?_
    refine ow_l2i C A179 at_178 rfl ?_
    refine ow_i2b C A179 at_179 rfl ?_
    refine ow_bastore C A179 V183 ⟨by decide, by decide⟩ (i := 5) rfl (Nat.le_of_ble_eq_true rfl) ows_b148 at_180 rfl ?_
    intro T184 h186 W187 V188 A185
    have V189 : Arv Z h186 b148 kk149 .byte (6 : Int32) [(.int vx.toInt32.toInt8.toInt32.toInt8.toInt32), (.int (own_ushrL vx (8 : Int32)).toInt32.toInt8.toInt32.toInt8.toInt32), (.int (own_ushrL vx (16 : Int32)).toInt32.toInt8.toInt32.toInt8.toInt32), (.int (own_ushrL vx (24 : Int32)).toInt32.toInt8.toInt32.toInt8.toInt32), (.int (own_ushrL vx (32 : Int32)).toInt32.toInt8.toInt32.toInt8.toInt32), (.int (own_ushrL vx (40 : Int32)).toInt32.toInt8.toInt32.toInt8.toInt32)] (.int (0 : Int32)) := V188
    refine ow_iload C A185 at_181 rfl rfl ?_
    refine ow_bipush C A185 at_183 (v := 6) rfl rfl ?_
    refine ow_icmp_le C A185 at_185 (by decide) (pcY := 199) (by decide) (pcN := 188) rfl (fun _ => ?_) (fun zq => absurd zq (by decide))
    refine ow_iload C A185 at_199 rfl rfl ?_
    refine ow_bipush C A185 at_201 (v := 7) rfl rfl ?_
    refine ow_icmp_le C A185 at_203 (by decide) (pcY := 217) (by decide) (pcN := 206) rfl (fun _ => ?_) (fun zq => absurd zq (by decide))
    exact law_217 hw C A185 va vb vc vx p1 p2 b1 b2 k fe (6 : Int32) b148 kk149 [vx.toInt32.toInt8.toInt32.toInt8.toInt32, (own_ushrL vx (8 : Int32)).toInt32.toInt8.toInt32.toInt8.toInt32, (own_ushrL vx (16 : Int32)).toInt32.toInt8.toInt32.toInt8.toInt32, (own_ushrL vx (24 : Int32)).toInt32.toInt8.toInt32.toInt8.toInt32, (own_ushrL vx (32 : Int32)).toInt32.toInt8.toInt32.toInt8.toInt32, (own_ushrL vx (40 : Int32)).toInt32.toInt8.toInt32.toInt8.toInt32] V189 (Nat.le_of_ble_eq_true rfl) (own_bytlist _ (by intro y hy; simp only [List.mem_cons, List.not_mem_nil, or_false] at hy; rcases hy with rfl | rfl | rfl | rfl | rfl | rfl <;> exact own_byb _)) hfe hk hp1 hp2 hb1 hb2
  · skip
    show OwnWP _ _ _ _ _ _ _ _ _ T (mkF m 81 #[.val (.int va), .val (.int vb), .val (.int vc), .val (.long vx), .second, .val (.int p1), .val (.int p2), .val (.int b1), .val (.int b2), .val (.int k), .val (.int fe), .unset, .unset, .unset, .unset, .unset, .unset, .unset, .unset] [(.int (7 : Int32))])
    refine ow_istore C A at_81 (Ls' := #[.val (.int va), .val (.int vb), .val (.int vc), .val (.long vx), .second, .val (.int p1), .val (.int p2), .val (.int b1), .val (.int b2), .val (.int k), .val (.int fe), .val (.int (7 : Int32)), .unset, .unset, .unset, .unset, .unset, .unset, .unset]) rfl rfl ?_
    refine ow_iload C A at_83 rfl rfl ?_
    refine ow_newA C A (ty := .byte) rfl tw_1 at_85 rfl (by decide) (cap := 8) (by decide) (by decide) (ck' := 1) (sk' := 8) rfl rfl (by decide) (by decide) ?_
    intro T190 h192 b193 kk194 g195 E196 V197 A191
    have ows_b193 : b193 ∈ ([] : List Addr) ∨ h0.size ≤ b193 := Or.inr (Nat.le_trans (ow_le A) (Nat.le_of_eq g195.symm))
    have V198 : Arv Z h192 b193 kk194 .byte (7 : Int32) [(.int (0 : Int32)), (.int (0 : Int32)), (.int (0 : Int32)), (.int (0 : Int32)), (.int (0 : Int32)), (.int (0 : Int32)), (.int (0 : Int32))] (.int (0 : Int32)) := V197.pad (pad_rep [] (.int (0 : Int32)) 7)
    refine ow_astore C A191 at_87 rfl (Ls' := #[.val (.int va), .val (.int vb), .val (.int vc), .val (.long vx), .second, .val (.int p1), .val (.int p2), .val (.int b1), .val (.int b2), .val (.int k), .val (.int fe), .val (.int (7 : Int32)), .val (.ref b193), .unset, .unset, .unset, .unset, .unset, .unset]) rfl rfl ?_
    refine ow_iload C A191 at_89 rfl rfl ?_
    refine ow_if_le C A191 at_91 (by decide) (pcY := 101) (by decide) (pcN := 94) rfl (fun zq => absurd (by decide) zq) (fun _ => ?_)
    refine ow_aload C A191 at_94 rfl rfl rfl ?_
    refine ow_iconst C A191 at_96 (v := 0) rfl rfl ?_
    refine ow_lloadN C A191 at_97 rfl rfl ?_
    refine ow_l2i C A191 at_98 rfl ?_
    refine ow_i2b C A191 at_99 rfl ?_
    refine ow_bastore C A191 V198 ⟨by decide, by decide⟩ (i := 0) rfl (Nat.le_of_ble_eq_true rfl) ows_b193 at_100 rfl ?_
    intro T199 h201 W202 V203 A200
    have V204 : Arv Z h201 b193 kk194 .byte (7 : Int32) [(.int vx.toInt32.toInt8.toInt32.toInt8.toInt32), (.int (0 : Int32)), (.int (0 : Int32)), (.int (0 : Int32)), (.int (0 : Int32)), (.int (0 : Int32)), (.int (0 : Int32))] (.int (0 : Int32)) := V203
    refine ow_iload C A200 at_101 rfl rfl ?_
    refine ow_iconst C A200 at_103 (v := 1) rfl rfl ?_
    refine ow_icmp_le C A200 at_104 (by decide) (pcY := 117) (by decide) (pcN := 107) rfl (fun zq => absurd (by decide) zq) (fun _ => ?_)
    refine ow_aload C A200 at_107 rfl rfl rfl ?_
    refine ow_iconst C A200 at_109 (v := 1) rfl rfl ?_
    refine ow_lloadN C A200 at_110 rfl rfl ?_
    refine ow_bipush C A200 at_111 (v := 8) rfl rfl ?_
    refine ow_lushr C A200 at_113 rfl ?_
    refine ow_l2i C A200 at_114 rfl ?_
    refine ow_i2b C A200 at_115 rfl ?_
    refine ow_bastore C A200 V204 ⟨by decide, by decide⟩ (i := 1) rfl (Nat.le_of_ble_eq_true rfl) ows_b193 at_116 rfl ?_
    intro T205 h207 W208 V209 A206
    have V210 : Arv Z h207 b193 kk194 .byte (7 : Int32) [(.int vx.toInt32.toInt8.toInt32.toInt8.toInt32), (.int (own_ushrL vx (8 : Int32)).toInt32.toInt8.toInt32.toInt8.toInt32), (.int (0 : Int32)), (.int (0 : Int32)), (.int (0 : Int32)), (.int (0 : Int32)), (.int (0 : Int32))] (.int (0 : Int32)) := V209
    refine ow_iload C A206 at_117 rfl rfl ?_
    refine ow_iconst C A206 at_119 (v := 2) rfl rfl ?_
    refine ow_icmp_le C A206 at_120 (by decide) (pcY := 133) (by decide) (pcN := 123) rfl (fun zq => absurd (by decide) zq) (fun _ => ?_)
    refine ow_aload C A206 at_123 rfl rfl rfl ?_
    refine ow_iconst C A206 at_125 (v := 2) rfl rfl ?_
    refine ow_lloadN C A206 at_126 rfl rfl ?_
    refine ow_bipush C A206 at_127 (v := 16) rfl rfl ?_
    refine ow_lushr C A206 at_129 rfl ?_
    refine ow_l2i C A206 at_130 rfl ?_
    refine ow_i2b C A206 at_131 rfl ?_
    refine ow_bastore C A206 V210 ⟨by decide, by decide⟩ (i := 2) rfl (Nat.le_of_ble_eq_true rfl) ows_b193 at_132 rfl ?_
    intro T211 h213 W214 V215 A212
    have V216 : Arv Z h213 b193 kk194 .byte (7 : Int32) [(.int vx.toInt32.toInt8.toInt32.toInt8.toInt32), (.int (own_ushrL vx (8 : Int32)).toInt32.toInt8.toInt32.toInt8.toInt32), (.int (own_ushrL vx (16 : Int32)).toInt32.toInt8.toInt32.toInt8.toInt32), (.int (0 : Int32)), (.int (0 : Int32)), (.int (0 : Int32)), (.int (0 : Int32))] (.int (0 : Int32)) := V215
    refine ow_iload C A212 at_133 rfl rfl ?_
    refine ow_iconst C A212 at_135 (v := 3) rfl rfl ?_
    refine ow_icmp_le C A212 at_136 (by decide) (pcY := 149) (by decide) (pcN := 139) rfl (fun zq => absurd (by decide) zq) (fun _ => ?_)
    refine ow_aload C A212 at_139 rfl rfl rfl ?_
    refine ow_iconst C A212 at_141 (v := 3) rfl rfl ?_
    refine ow_lloadN C A212 at_142 rfl rfl ?_
    refine ow_bipush C A212 at_143 (v := 24) rfl rfl ?_
    refine ow_lushr C A212 at_145 rfl ?_
    refine ow_l2i C A212 at_146 rfl ?_
    refine ow_i2b C A212 at_147 rfl ?_
    refine ow_bastore C A212 V216 ⟨by decide, by decide⟩ (i := 3) rfl (Nat.le_of_ble_eq_true rfl) ows_b193 at_148 rfl ?_
    intro T217 h219 W220 V221 A218
    have V222 : Arv Z h219 b193 kk194 .byte (7 : Int32) [(.int vx.toInt32.toInt8.toInt32.toInt8.toInt32), (.int (own_ushrL vx (8 : Int32)).toInt32.toInt8.toInt32.toInt8.toInt32), (.int (own_ushrL vx (16 : Int32)).toInt32.toInt8.toInt32.toInt8.toInt32), (.int (own_ushrL vx (24 : Int32)).toInt32.toInt8.toInt32.toInt8.toInt32), (.int (0 : Int32)), (.int (0 : Int32)), (.int (0 : Int32))] (.int (0 : Int32)) := V221
    refine ow_iload C A218 at_149 rfl rfl ?_
    refine ow_iconst C A218 at_151 (v := 4) rfl rfl ?_
    refine ow_icmp_le C A218 at_152 (by decide) (pcY := 165) (by decide) (pcN := 155) rfl (fun zq => absurd (by decide) zq) (fun _ => ?_)
    refine ow_aload C A218 at_155 rfl rfl rfl ?_
    refine ow_iconst C A218 at_157 (v := 4) rfl rfl ?_
    refine ow_lloadN C A218 at_158 rfl rfl ?_
    refine ow_bipush C A218 at_159 (v := 32) rfl rfl ?_
    refine ow_lushr C A218 at_161 rfl ?_
    refine ow_l2i C A218 at_162 rfl ?_
    refine ow_i2b C A218 at_163 rfl ?_
    refine ow_bastore C A218 V222 ⟨by decide, by decide⟩ (i := 4) rfl (Nat.le_of_ble_eq_true rfl) ows_b193 at_164 rfl ?_
    intro T223 h225 W226 V227 A224
    have V228 : Arv Z h225 b193 kk194 .byte (7 : Int32) [(.int vx.toInt32.toInt8.toInt32.toInt8.toInt32), (.int (own_ushrL vx (8 : Int32)).toInt32.toInt8.toInt32.toInt8.toInt32), (.int (own_ushrL vx (16 : Int32)).toInt32.toInt8.toInt32.toInt8.toInt32), (.int (own_ushrL vx (24 : Int32)).toInt32.toInt8.toInt32.toInt8.toInt32), (.int (own_ushrL vx (32 : Int32)).toInt32.toInt8.toInt32.toInt8.toInt32), (.int (0 : Int32)), (.int (0 : Int32))] (.int (0 : Int32)) := V227
    refine ow_iload C A224 at_165 rfl rfl ?_
    refine ow_iconst C A224 at_167 (v := 5) rfl rfl ?_
    refine ow_icmp_le C A224 at_168 (by decide) (pcY := 181) (by decide) (pcN := 171) rfl (fun zq => absurd (by decide) zq) (fun _ => ?_)
    refine ow_aload C A224 at_171 rfl rfl rfl ?_
    refine ow_iconst C A224 at_173 (v := 5) rfl rfl ?_
    refine ow_lloadN C A224 at_174 rfl rfl ?_
    refine ow_bipush C A224 at_175 (v := 40) rfl rfl ?_
    refine ow_lushr C A224 at_177 rfl ?_
    refine ow_l2i C A224 at_178 rfl ?_
    refine ow_i2b C A224 at_179 rfl ?_
    refine ow_bastore C A224 V228 ⟨by decide, by decide⟩ (i := 5) rfl (Nat.le_of_ble_eq_true rfl) ows_b193 at_180 rfl ?_
    intro T229 h231 W232 V233 A230
    have V234 : Arv Z h231 b193 kk194 .byte (7 : Int32) [(.int vx.toInt32.toInt8.toInt32.toInt8.toInt32), (.int (own_ushrL vx (8 : Int32)).toInt32.toInt8.toInt32.toInt8.toInt32), (.int (own_ushrL vx (16 : Int32)).toInt32.toInt8.toInt32.toInt8.toInt32), (.int (own_ushrL vx (24 : Int32)).toInt32.toInt8.toInt32.toInt8.toInt32), (.int (own_ushrL vx (32 : Int32)).toInt32.toInt8.toInt32.toInt8.toInt32), (.int (own_ushrL vx (40 : Int32)).toInt32.toInt8.toInt32.toInt8.toInt32), (.int (0 : Int32))] (.int (0 : Int32)) := V233
    refine ow_iload C A230 at_181 rfl rfl ?_
    refine ow_bipush C A230 at_183 (v := 6) rfl rfl ?_
    refine ow_icmp_le C A230 at_185 (by decide) (pcY := 199) (by decide) (pcN := 188) rfl (fun zq => absurd (by decide) zq) (fun _ => ?_)
    refine ow_aload C A230 at_188 rfl rfl rfl ?_
    refine ow_bipush C A230 at_190 (v := 6) rfl rfl ?_
    refine ow_lloadN C A230 at_192 rfl rfl ?_
    refine ow_bipush C A230 at_193 (v := 48) rfl rfl ?_
    refine ow_lushr C A230 at_195 rfl ?_
    refine ow_l2i C A230 at_196 rfl ?_
    refine ow_i2b C A230 at_197 rfl ?_
    refine ow_bastore C A230 V234 ⟨by decide, by decide⟩ (i := 6) rfl (Nat.le_of_ble_eq_true rfl) ows_b193 at_198 rfl ?_
    intro T235 h237 W238 V239 A236
    have V240 : Arv Z h237 b193 kk194 .byte (7 : Int32) [(.int vx.toInt32.toInt8.toInt32.toInt8.toInt32), (.int (own_ushrL vx (8 : Int32)).toInt32.toInt8.toInt32.toInt8.toInt32), (.int (own_ushrL vx (16 : Int32)).toInt32.toInt8.toInt32.toInt8.toInt32), (.int (own_ushrL vx (24 : Int32)).toInt32.toInt8.toInt32.toInt8.toInt32), (.int (own_ushrL vx (32 : Int32)).toInt32.toInt8.toInt32.toInt8.toInt32), (.int (own_ushrL vx (40 : Int32)).toInt32.toInt8.toInt32.toInt8.toInt32), (.int (own_ushrL vx (48 : Int32)).toInt32.toInt8.toInt32.toInt8.toInt32)] (.int (0 : Int32)) := V239
    refine ow_iload C A236 at_199 rfl rfl ?_
    refine ow_bipush C A236 at_201 (v := 7) rfl rfl ?_
    refine ow_icmp_le C A236 at_203 (by decide) (pcY := 217) (by decide) (pcN := 206) rfl (fun _ => ?_) (fun zq => absurd zq (by decide))
    exact law_217 hw C A236 va vb vc vx p1 p2 b1 b2 k fe (7 : Int32) b193 kk194 [vx.toInt32.toInt8.toInt32.toInt8.toInt32, (own_ushrL vx (8 : Int32)).toInt32.toInt8.toInt32.toInt8.toInt32, (own_ushrL vx (16 : Int32)).toInt32.toInt8.toInt32.toInt8.toInt32, (own_ushrL vx (24 : Int32)).toInt32.toInt8.toInt32.toInt8.toInt32, (own_ushrL vx (32 : Int32)).toInt32.toInt8.toInt32.toInt8.toInt32, (own_ushrL vx (40 : Int32)).toInt32.toInt8.toInt32.toInt8.toInt32, (own_ushrL vx (48 : Int32)).toInt32.toInt8.toInt32.toInt8.toInt32] V240 (Nat.le_of_ble_eq_true rfl) (own_bytlist _ (by intro y hy; simp only [List.mem_cons, List.not_mem_nil, or_false] at hy; rcases hy with rfl | rfl | rfl | rfl | rfl | rfl | rfl <;> exact own_byb _)) hfe hk hp1 hp2 hb1 hb2
  · skip
    show OwnWP _ _ _ _ _ _ _ _ _ T (mkF m 81 #[.val (.int va), .val (.int vb), .val (.int vc), .val (.long vx), .second, .val (.int p1), .val (.int p2), .val (.int b1), .val (.int b2), .val (.int k), .val (.int fe), .unset, .unset, .unset, .unset, .unset, .unset, .unset, .unset] [(.int (8 : Int32))])
    refine ow_istore C A at_81 (Ls' := #[.val (.int va), .val (.int vb), .val (.int vc), .val (.long vx), .second, .val (.int p1), .val (.int p2), .val (.int b1), .val (.int b2), .val (.int k), .val (.int fe), .val (.int (8 : Int32)), .unset, .unset, .unset, .unset, .unset, .unset, .unset]) rfl rfl ?_
    refine ow_iload C A at_83 rfl rfl ?_
    refine ow_newA C A (ty := .byte) rfl tw_1 at_85 rfl (by decide) (cap := 8) (by decide) (by decide) (ck' := 1) (sk' := 8) rfl rfl (by decide) (by decide) ?_
    intro T241 h243 b244 kk245 g246 E247 V248 A242
    have ows_b244 : b244 ∈ ([] : List Addr) ∨ h0.size ≤ b244 := Or.inr (Nat.le_trans (ow_le A) (Nat.le_of_eq g246.symm))
    have V249 : Arv Z h243 b244 kk245 .byte (8 : Int32) [(.int (0 : Int32)), (.int (0 : Int32)), (.int (0 : Int32)), (.int (0 : Int32)), (.int (0 : Int32)), (.int (0 : Int32)), (.int (0 : Int32)), (.int (0 : Int32))] (.int (0 : Int32)) := V248.pad (pad_rep [] (.int (0 : Int32)) 8)
    refine ow_astore C A242 at_87 rfl (Ls' := #[.val (.int va), .val (.int vb), .val (.int vc), .val (.long vx), .second, .val (.int p1), .val (.int p2), .val (.int b1), .val (.int b2), .val (.int k), .val (.int fe), .val (.int (8 : Int32)), .val (.ref b244), .unset, .unset, .unset, .unset, .unset, .unset]) rfl rfl ?_
    refine ow_iload C A242 at_89 rfl rfl ?_
    refine ow_if_le C A242 at_91 (by decide) (pcY := 101) (by decide) (pcN := 94) rfl (fun zq => absurd (by decide) zq) (fun _ => ?_)
    refine ow_aload C A242 at_94 rfl rfl rfl ?_
    refine ow_iconst C A242 at_96 (v := 0) rfl rfl ?_
    refine ow_lloadN C A242 at_97 rfl rfl ?_
    refine ow_l2i C A242 at_98 rfl ?_
    refine ow_i2b C A242 at_99 rfl ?_
    refine ow_bastore C A242 V249 ⟨by decide, by decide⟩ (i := 0) rfl (Nat.le_of_ble_eq_true rfl) ows_b244 at_100 rfl ?_
    intro T250 h252 W253 V254 A251
    have V255 : Arv Z h252 b244 kk245 .byte (8 : Int32) [(.int vx.toInt32.toInt8.toInt32.toInt8.toInt32), (.int (0 : Int32)), (.int (0 : Int32)), (.int (0 : Int32)), (.int (0 : Int32)), (.int (0 : Int32)), (.int (0 : Int32)), (.int (0 : Int32))] (.int (0 : Int32)) := V254
    refine ow_iload C A251 at_101 rfl rfl ?_
    refine ow_iconst C A251 at_103 (v := 1) rfl rfl ?_
    refine ow_icmp_le C A251 at_104 (by decide) (pcY := 117) (by decide) (pcN := 107) rfl (fun zq => absurd (by decide) zq) (fun _ => ?_)
    refine ow_aload C A251 at_107 rfl rfl rfl ?_
    refine ow_iconst C A251 at_109 (v := 1) rfl rfl ?_
    refine ow_lloadN C A251 at_110 rfl rfl ?_
    refine ow_bipush C A251 at_111 (v := 8) rfl rfl ?_
    refine ow_lushr C A251 at_113 rfl ?_
    refine ow_l2i C A251 at_114 rfl ?_
    refine ow_i2b C A251 at_115 rfl ?_
    refine ow_bastore C A251 V255 ⟨by decide, by decide⟩ (i := 1) rfl (Nat.le_of_ble_eq_true rfl) ows_b244 at_116 rfl ?_
    intro T256 h258 W259 V260 A257
    have V261 : Arv Z h258 b244 kk245 .byte (8 : Int32) [(.int vx.toInt32.toInt8.toInt32.toInt8.toInt32), (.int (own_ushrL vx (8 : Int32)).toInt32.toInt8.toInt32.toInt8.toInt32), (.int (0 : Int32)), (.int (0 : Int32)), (.int (0 : Int32)), (.int (0 : Int32)), (.int (0 : Int32)), (.int (0 : Int32))] (.int (0 : Int32)) := V260
    refine ow_iload C A257 at_117 rfl rfl ?_
    refine ow_iconst C A257 at_119 (v := 2) rfl rfl ?_
    refine ow_icmp_le C A257 at_120 (by decide) (pcY := 133) (by decide) (pcN := 123) rfl (fun zq => absurd (by decide) zq) (fun _ => ?_)
    refine ow_aload C A257 at_123 rfl rfl rfl ?_
    refine ow_iconst C A257 at_125 (v := 2) rfl rfl ?_
    refine ow_lloadN C A257 at_126 rfl rfl ?_
    refine ow_bipush C A257 at_127 (v := 16) rfl rfl ?_
    refine ow_lushr C A257 at_129 rfl ?_
    refine ow_l2i C A257 at_130 rfl ?_
    refine ow_i2b C A257 at_131 rfl ?_
    refine ow_bastore C A257 V261 ⟨by decide, by decide⟩ (i := 2) rfl (Nat.le_of_ble_eq_true rfl) ows_b244 at_132 rfl ?_
    intro T262 h264 W265 V266 A263
    have V267 : Arv Z h264 b244 kk245 .byte (8 : Int32) [(.int vx.toInt32.toInt8.toInt32.toInt8.toInt32), (.int (own_ushrL vx (8 : Int32)).toInt32.toInt8.toInt32.toInt8.toInt32), (.int (own_ushrL vx (16 : Int32)).toInt32.toInt8.toInt32.toInt8.toInt32), (.int (0 : Int32)), (.int (0 : Int32)), (.int (0 : Int32)), (.int (0 : Int32)), (.int (0 : Int32))] (.int (0 : Int32)) := V266
    refine ow_iload C A263 at_133 rfl rfl ?_
    refine ow_iconst C A263 at_135 (v := 3) rfl rfl ?_
    refine ow_icmp_le C A263 at_136 (by decide) (pcY := 149) (by decide) (pcN := 139) rfl (fun zq => absurd (by decide) zq) (fun _ => ?_)
    refine ow_aload C A263 at_139 rfl rfl rfl ?_
    refine ow_iconst C A263 at_141 (v := 3) rfl rfl ?_
    refine ow_lloadN C A263 at_142 rfl rfl ?_
    refine ow_bipush C A263 at_143 (v := 24) rfl rfl ?_
    refine ow_lushr C A263 at_145 rfl ?_
    refine ow_l2i C A263 at_146 rfl ?_
    refine ow_i2b C A263 at_147 rfl ?_
    refine ow_bastore C A263 V267 ⟨by decide, by decide⟩ (i := 3) rfl (Nat.le_of_ble_eq_true rfl) ows_b244 at_148 rfl ?_
    intro T268 h270 W271 V272 A269
    have V273 : Arv Z h270 b244 kk245 .byte (8 : Int32) [(.int vx.toInt32.toInt8.toInt32.toInt8.toInt32), (.int (own_ushrL vx (8 : Int32)).toInt32.toInt8.toInt32.toInt8.toInt32), (.int (own_ushrL vx (16 : Int32)).toInt32.toInt8.toInt32.toInt8.toInt32), (.int (own_ushrL vx (24 : Int32)).toInt32.toInt8.toInt32.toInt8.toInt32), (.int (0 : Int32)), (.int (0 : Int32)), (.int (0 : Int32)), (.int (0 : Int32))] (.int (0 : Int32)) := V272
    refine ow_iload C A269 at_149 rfl rfl ?_
    refine ow_iconst C A269 at_151 (v := 4) rfl rfl ?_
    refine ow_icmp_le C A269 at_152 (by decide) (pcY := 165) (by decide) (pcN := 155) rfl (fun zq => absurd (by decide) zq) (fun _ => ?_)
    refine ow_aload C A269 at_155 rfl rfl rfl ?_
    refine ow_iconst C A269 at_157 (v := 4) rfl rfl ?_
    refine ow_lloadN C A269 at_158 rfl rfl ?_
    refine ow_bipush C A269 at_159 (v := 32) rfl rfl ?_
    refine ow_lushr C A269 at_161 rfl ?_
    refine ow_l2i C A269 at_162 rfl ?_
    refine ow_i2b C A269 at_163 rfl ?_
    refine ow_bastore C A269 V273 ⟨by decide, by decide⟩ (i := 4) rfl (Nat.le_of_ble_eq_true rfl) ows_b244 at_164 rfl ?_
    intro T274 h276 W277 V278 A275
    have V279 : Arv Z h276 b244 kk245 .byte (8 : Int32) [(.int vx.toInt32.toInt8.toInt32.toInt8.toInt32), (.int (own_ushrL vx (8 : Int32)).toInt32.toInt8.toInt32.toInt8.toInt32), (.int (own_ushrL vx (16 : Int32)).toInt32.toInt8.toInt32.toInt8.toInt32), (.int (own_ushrL vx (24 : Int32)).toInt32.toInt8.toInt32.toInt8.toInt32), (.int (own_ushrL vx (32 : Int32)).toInt32.toInt8.toInt32.toInt8.toInt32), (.int (0 : Int32)), (.int (0 : Int32)), (.int (0 : Int32))] (.int (0 : Int32)) := V278
    refine ow_iload C A275 at_165 rfl rfl ?_
    refine ow_iconst C A275 at_167 (v := 5) rfl rfl ?_
    refine ow_icmp_le C A275 at_168 (by decide) (pcY := 181) (by decide) (pcN := 171) rfl (fun zq => absurd (by decide) zq) (fun _ => ?_)
    refine ow_aload C A275 at_171 rfl rfl rfl ?_
    refine ow_iconst C A275 at_173 (v := 5) rfl rfl ?_
    refine ow_lloadN C A275 at_174 rfl rfl ?_
    refine ow_bipush C A275 at_175 (v := 40) rfl rfl ?_
    refine ow_lushr C A275 at_177 rfl ?_
    refine ow_l2i C A275 at_178 rfl ?_
    refine ow_i2b C A275 at_179 rfl ?_
    refine ow_bastore C A275 V279 ⟨by decide, by decide⟩ (i := 5) rfl (Nat.le_of_ble_eq_true rfl) ows_b244 at_180 rfl ?_
    intro T280 h282 W283 V284 A281
    have V285 : Arv Z h282 b244 kk245 .byte (8 : Int32) [(.int vx.toInt32.toInt8.toInt32.toInt8.toInt32), (.int (own_ushrL vx (8 : Int32)).toInt32.toInt8.toInt32.toInt8.toInt32), (.int (own_ushrL vx (16 : Int32)).toInt32.toInt8.toInt32.toInt8.toInt32), (.int (own_ushrL vx (24 : Int32)).toInt32.toInt8.toInt32.toInt8.toInt32), (.int (own_ushrL vx (32 : Int32)).toInt32.toInt8.toInt32.toInt8.toInt32), (.int (own_ushrL vx (40 : Int32)).toInt32.toInt8.toInt32.toInt8.toInt32), (.int (0 : Int32)), (.int (0 : Int32))] (.int (0 : Int32)) := V284
    refine ow_iload C A281 at_181 rfl rfl ?_
    refine ow_bipush C A281 at_183 (v := 6) rfl rfl ?_
    refine ow_icmp_le C A281 at_185 (by decide) (pcY := 199) (by decide) (pcN := 188) rfl (fun zq => absurd (by decide) zq) (fun _ => ?_)
    refine ow_aload C A281 at_188 rfl rfl rfl ?_
    refine ow_bipush C A281 at_190 (v := 6) rfl rfl ?_
    refine ow_lloadN C A281 at_192 rfl rfl ?_
    refine ow_bipush C A281 at_193 (v := 48) rfl rfl ?_
    refine ow_lushr C A281 at_195 rfl ?_
    refine ow_l2i C A281 at_196 rfl ?_
    refine ow_i2b C A281 at_197 rfl ?_
    refine ow_bastore C A281 V285 ⟨by decide, by decide⟩ (i := 6) rfl (Nat.le_of_ble_eq_true rfl) ows_b244 at_198 rfl ?_
    intro T286 h288 W289 V290 A287
    have V291 : Arv Z h288 b244 kk245 .byte (8 : Int32) [(.int vx.toInt32.toInt8.toInt32.toInt8.toInt32), (.int (own_ushrL vx (8 : Int32)).toInt32.toInt8.toInt32.toInt8.toInt32), (.int (own_ushrL vx (16 : Int32)).toInt32.toInt8.toInt32.toInt8.toInt32), (.int (own_ushrL vx (24 : Int32)).toInt32.toInt8.toInt32.toInt8.toInt32), (.int (own_ushrL vx (32 : Int32)).toInt32.toInt8.toInt32.toInt8.toInt32), (.int (own_ushrL vx (40 : Int32)).toInt32.toInt8.toInt32.toInt8.toInt32), (.int (own_ushrL vx (48 : Int32)).toInt32.toInt8.toInt32.toInt8.toInt32), (.int (0 : Int32))] (.int (0 : Int32)) := V290
    refine ow_iload C A287 at_199 rfl rfl ?_
    refine ow_bipush C A287 at_201 (v := 7) rfl rfl ?_
    refine ow_icmp_le C A287 at_203 (by decide) (pcY := 217) (by decide) (pcN := 206) rfl (fun zq => absurd (by decide) zq) (fun _ => ?_)
    refine ow_aload C A287 at_206 rfl rfl rfl ?_
    refine ow_bipush C A287 at_208 (v := 7) rfl rfl ?_
    refine ow_lloadN C A287 at_210 rfl rfl ?_
    refine ow_bipush C A287 at_211 (v := 56) rfl rfl ?_
    refine ow_lushr C A287 at_213 rfl ?_
    refine ow_l2i C A287 at_214 rfl ?_
    refine ow_i2b C A287 at_215 rfl ?_
    refine ow_bastore C A287 V291 ⟨by decide, by decide⟩ (i := 7) rfl (Nat.le_of_ble_eq_true rfl) ows_b244 at_216 rfl ?_
    intro T292 h294 W295 V296 A293
    have V297 : Arv Z h294 b244 kk245 .byte (8 : Int32) [(.int vx.toInt32.toInt8.toInt32.toInt8.toInt32), (.int (own_ushrL vx (8 : Int32)).toInt32.toInt8.toInt32.toInt8.toInt32), (.int (own_ushrL vx (16 : Int32)).toInt32.toInt8.toInt32.toInt8.toInt32), (.int (own_ushrL vx (24 : Int32)).toInt32.toInt8.toInt32.toInt8.toInt32), (.int (own_ushrL vx (32 : Int32)).toInt32.toInt8.toInt32.toInt8.toInt32), (.int (own_ushrL vx (40 : Int32)).toInt32.toInt8.toInt32.toInt8.toInt32), (.int (own_ushrL vx (48 : Int32)).toInt32.toInt8.toInt32.toInt8.toInt32), (.int (own_ushrL vx (56 : Int32)).toInt32.toInt8.toInt32.toInt8.toInt32)] (.int (0 : Int32)) := V296
    exact law_217 hw C A293 va vb vc vx p1 p2 b1 b2 k fe (8 : Int32) b244 kk245 [vx.toInt32.toInt8.toInt32.toInt8.toInt32, (own_ushrL vx (8 : Int32)).toInt32.toInt8.toInt32.toInt8.toInt32, (own_ushrL vx (16 : Int32)).toInt32.toInt8.toInt32.toInt8.toInt32, (own_ushrL vx (24 : Int32)).toInt32.toInt8.toInt32.toInt8.toInt32, (own_ushrL vx (32 : Int32)).toInt32.toInt8.toInt32.toInt8.toInt32, (own_ushrL vx (40 : Int32)).toInt32.toInt8.toInt32.toInt8.toInt32, (own_ushrL vx (48 : Int32)).toInt32.toInt8.toInt32.toInt8.toInt32, (own_ushrL vx (56 : Int32)).toInt32.toInt8.toInt32.toInt8.toInt32] V297 (Nat.le_of_ble_eq_true rfl) (own_bytlist _ (by intro y hy; simp only [List.mem_cons, List.not_mem_nil, or_false] at hy; rcases hy with rfl | rfl | rfl | rfl | rfl | rfl | rfl | rfl <;> exact own_byb _)) hfe hk hp1 hp2 hb1 hb2
set_option maxRecDepth 65536 in
set_option maxHeartbeats 40000000 in
theorem law_48 {p : Program} {l : Launch} {e : Env} {s : State} {m : MethodId} {args : Array Value} {below : List Frame} {meth : Method} {c : Code} {Z : State} {a0 : Array Value} {h0 h : Heap} {T : State} (hw : ∀ d ∈ tables_1, d.before a0 Z = true) (C : OwnCtx p s m meth c Z a0 tables_1 x code maxLocals ret) (A : OwnPos p l e room_1 s m args below meth c h0 [] T h 0 0) (va vb vc : Int32) (vx : Int64) (p1 p2 b1 b2 : Int32) (hp1 : Pok p1) (hp2 : Pok p2) (hb1 : b1 = 0 ∨ b1 = 1) (hb2 : b2 = 0 ∨ b2 = 1) :
    OwnWP p e below s h0 [] Q0 room_1.cells room_1.slots T (mkF m 48 #[.val (.int va), .val (.int vb), .val (.int vc), .val (.long vx), .second, .val (.int p1), .val (.int p2), .val (.int b1), .unset, .unset, .unset, .unset, .unset, .unset, .unset, .unset, .unset, .unset, .unset] [(.int b2)]) := by
  refine ow_istore C A at_48 (Ls' := #[.val (.int va), .val (.int vb), .val (.int vc), .val (.long vx), .second, .val (.int p1), .val (.int p2), .val (.int b1), .val (.int b2), .unset, .unset, .unset, .unset, .unset, .unset, .unset, .unset, .unset, .unset]) rfl rfl ?_
  refine ow_iloadN C A at_50 rfl rfl ?_
  refine ow_iconst C A at_51 (v := 2) rfl rfl ?_
  refine ow_iushr C A at_52 rfl ?_
  refine ow_iconst C A at_53 (v := 3) rfl rfl ?_
  refine ow_irem C A at_54 (by decide) rfl ?_
  have hk := own_mod3 vc
  obtain ⟨kq, hkq⟩ : ∃ z, z = own_ushr vc (2 : Int32) % (3 : Int32) := ⟨_, rfl⟩
  rw [← hkq] at hk ⊢
  refine ow_istore C A at_55 (Ls' := #[.val (.int va), .val (.int vb), .val (.int vc), .val (.long vx), .second, .val (.int p1), .val (.int p2), .val (.int b1), .val (.int b2), .val (.int kq), .unset, .unset, .unset, .unset, .unset, .unset, .unset, .unset, .unset]) rfl rfl ?_
  refine ow_iloadN C A at_57 rfl rfl ?_
  refine ow_iconst C A at_58 (v := 4) rfl rfl ?_
  refine ow_iushr C A at_59 rfl ?_
  refine ow_iconst C A at_60 (v := 1) rfl rfl ?_
  refine ow_iand C A at_61 rfl ?_
  refine ow_if_eq C A at_62 (by decide) (pcY := 69) (by decide) (pcN := 65) rfl (fun hc62 => ?_) (fun hc62 => ?_)
  · skip
    refine ow_iconst C A at_69 (v := 0) rfl rfl ?_
    exact law_70 hw C A va vb vc vx p1 p2 b1 b2 kq (0 : Int32) (Or.inl rfl) hk hp1 hp2 hb1 hb2
  · skip
    refine ow_iconst C A at_65 (v := 1) rfl rfl ?_
    refine ow_goto C A at_66 (by decide) (pc' := 70) (by decide) ?_
    exact law_70 hw C A va vb vc vx p1 p2 b1 b2 kq (1 : Int32) (Or.inr rfl) hk hp1 hp2 hb1 hb2
set_option maxRecDepth 65536 in
set_option maxHeartbeats 40000000 in
theorem law_35 {p : Program} {l : Launch} {e : Env} {s : State} {m : MethodId} {args : Array Value} {below : List Frame} {meth : Method} {c : Code} {Z : State} {a0 : Array Value} {h0 h : Heap} {T : State} (hw : ∀ d ∈ tables_1, d.before a0 Z = true) (C : OwnCtx p s m meth c Z a0 tables_1 x code maxLocals ret) (A : OwnPos p l e room_1 s m args below meth c h0 [] T h 0 0) (va vb vc : Int32) (vx : Int64) (p1 p2 b1 : Int32) (hp1 : Pok p1) (hp2 : Pok p2) (hb1 : b1 = 0 ∨ b1 = 1) :
    OwnWP p e below s h0 [] Q0 room_1.cells room_1.slots T (mkF m 35 #[.val (.int va), .val (.int vb), .val (.int vc), .val (.long vx), .second, .val (.int p1), .val (.int p2), .unset, .unset, .unset, .unset, .unset, .unset, .unset, .unset, .unset, .unset, .unset, .unset] [(.int b1)]) := by
  refine ow_istore C A at_35 (Ls' := #[.val (.int va), .val (.int vb), .val (.int vc), .val (.long vx), .second, .val (.int p1), .val (.int p2), .val (.int b1), .unset, .unset, .unset, .unset, .unset, .unset, .unset, .unset, .unset, .unset, .unset]) rfl rfl ?_
  refine ow_iloadN C A at_37 rfl rfl ?_
  refine ow_iconst C A at_38 (v := 2) rfl rfl ?_
  refine ow_iand C A at_39 rfl ?_
  refine ow_if_eq C A at_40 (by decide) (pcY := 47) (by decide) (pcN := 43) rfl (fun hc40 => ?_) (fun hc40 => ?_)
  · skip
    refine ow_iconst C A at_47 (v := 0) rfl rfl ?_
    exact law_48 hw C A va vb vc vx p1 p2 b1 (0 : Int32) hp1 hp2 hb1 (Or.inl rfl)
  · skip
    refine ow_iconst C A at_43 (v := 1) rfl rfl ?_
    refine ow_goto C A at_44 (by decide) (pc' := 48) (by decide) ?_
    exact law_48 hw C A va vb vc vx p1 p2 b1 (1 : Int32) hp1 hp2 hb1 (Or.inr rfl)
set_option maxRecDepth 65536 in
set_option maxHeartbeats 40000000 in
theorem rm0 (l : Launch) (Z : State) (a0 : Array Value) (hw : ∀ d ∈ tables_1, d.before a0 Z = true) (va vb vc : Int32) (vx : Int64) (h0 : Heap)  (cs : List Jvm.Cond) :
    OwnCtr l Z x code maxLocals ret room_1 #[(.int va), (.int vb), (.int vc), (.long vx)] h0 [] Q0 cs := by
  refine ow_ctr pn_0 hw (Ls := #[.val (.int va), .val (.int vb), .val (.int vc), .val (.long vx), .second, .unset, .unset, .unset, .unset, .unset, .unset, .unset, .unset, .unset, .unset, .unset, .unset, .unset, .unset]) (fun m => by first | (simp [entryFrame, mkF, argsToLocals, Value.category, maxLocals]; done) | rfl) ?_
  intro p e s m below meth c T0 C A0
  refine ow_iconst C A0 at_0 (v := 1) rfl rfl ?_
  refine ow_iloadN C A0 at_1 rfl rfl ?_
  refine ow_ldcInt C A0 tw_0 at_2 rfl ?_
  refine ow_iand C A0 at_4 rfl ?_
  refine ow_sipush C A0 at_5 (v := 4095) rfl rfl ?_
  refine ow_irem C A0 at_8 (by decide) rfl ?_
  refine ow_iadd C A0 at_9 rfl ?_
  have hp1 := own_pr va
  obtain ⟨pp1, dp1⟩ : ∃ z, z = ((1 : Int32) + ((va &&& (2147483647 : Int32)) % (4095 : Int32))) := ⟨_, rfl⟩
  rw [← dp1] at hp1 ⊢
  refine ow_istore C A0 at_10 (Ls' := #[.val (.int va), .val (.int vb), .val (.int vc), .val (.long vx), .second, .val (.int pp1), .unset, .unset, .unset, .unset, .unset, .unset, .unset, .unset, .unset, .unset, .unset, .unset, .unset]) rfl rfl ?_
  refine ow_iconst C A0 at_12 (v := 1) rfl rfl ?_
  refine ow_iloadN C A0 at_13 rfl rfl ?_
  refine ow_ldcInt C A0 tw_0 at_14 rfl ?_
  refine ow_iand C A0 at_16 rfl ?_
  refine ow_sipush C A0 at_17 (v := 4095) rfl rfl ?_
  refine ow_irem C A0 at_20 (by decide) rfl ?_
  refine ow_iadd C A0 at_21 rfl ?_
  have hp2 := own_pr vb
  obtain ⟨pp2, dp2⟩ : ∃ z, z = ((1 : Int32) + ((vb &&& (2147483647 : Int32)) % (4095 : Int32))) := ⟨_, rfl⟩
  rw [← dp2] at hp2 ⊢
  refine ow_istore C A0 at_22 (Ls' := #[.val (.int va), .val (.int vb), .val (.int vc), .val (.long vx), .second, .val (.int pp1), .val (.int pp2), .unset, .unset, .unset, .unset, .unset, .unset, .unset, .unset, .unset, .unset, .unset, .unset]) rfl rfl ?_
  refine ow_iloadN C A0 at_24 rfl rfl ?_
  refine ow_iconst C A0 at_25 (v := 1) rfl rfl ?_
  refine ow_iand C A0 at_26 rfl ?_
  refine ow_if_eq C A0 at_27 (by decide) (pcY := 34) (by decide) (pcN := 30) rfl (fun hc27 => ?_) (fun hc27 => ?_)
  · skip
    refine ow_iconst C A0 at_34 (v := 0) rfl rfl ?_
    exact law_35 hw C A0 va vb vc vx pp1 pp2 (0 : Int32) hp1 hp2 (Or.inl rfl)
  · skip
    refine ow_iconst C A0 at_30 (v := 1) rfl rfl ?_
    refine ow_goto C A0 at_31 (by decide) (pc' := 35) (by decide) ?_
    exact law_35 hw C A0 va vb vc vx pp1 pp2 (1 : Int32) hp1 hp2 (Or.inr rfl)
set_option maxRecDepth 65536 in
set_option maxHeartbeats 40000000 in
theorem comes_1 {Post : Tables → Env → Array Value → State → Outcome → State → Prop} (hpost : ∀ tb e args s v u, (limb_1_1.after args s (.returned v) u = true ∧ limb_1_2.after args s (.returned v) u = true ∧ True) → FrameEnd s (.returned v) u (Jvm.fieldLocs frame_1_writes args s ++ Jvm.arrayLocs frame_1_arrays args s ++ Jvm.staticLocs frame_1_statics s) 24 192 → Post tb e args s (.returned v) u) :
    ArmFor flags0 classFile x code maxLocals ret World_1 tables_1 room_1 Calls_1 rest_1 Pre_1 Post := by
  intro l hfl _ _ p e ha hc hk s m args below hf hA hF happ hP
  obtain ⟨hcalls, hrest, hpre⟩ := hP
  obtain ⟨-, -, -, hnamed, -, -, -, hat⟩ := (Spec.applies_iff hf).mp happ
  obtain ⟨hg, hn⟩ := and_e (Cond.before_iff.mp (show (Jvm.Cond.and given_1 narrow_1).before args s = true from hpre))
  obtain ⟨gg1, gg2⟩ := and_e hg
  obtain ⟨gg3, gg4⟩ := and_e gg2
  obtain ⟨gg5, gg6⟩ := and_e gg4
  obtain ⟨gg7, gg8⟩ := and_e gg6
  obtain ⟨w0, w1, w2, w3, rfl⟩ : ∃ w0 w1 w2 w3 : Value, args = #[w0, w1, w2, w3] := by
    have hs : args.size = 4 := by simpa [Cond.value, given_1] using gg1
    obtain ⟨L⟩ := args
    match L, hs with
    | [w0, w1, w2, w3], _ => exact ⟨w0, w1, w2, w3, rfl⟩
  have hw := fun d (hd : d ∈ tables_1) => atoms_spec (ws := Jvm.Cond.code x code maxLocals ret :: tables_1) hat d (List.mem_cons_of_mem _ hd)
  have hfit : Fit s := fun {y c} hc i hi => by
    obtain ⟨ha, rfl⟩ := Array.getElem?_eq_some_iff.mp hc
    have q := List.all_eq_true.mp ((Array.all_eq_true_iff_forall_mem.mp hF) _ (Array.getElem_mem ha)) i (List.mem_range.mpr hi)
    simpa [Array.getElem?_eq_getElem hi] using q
  obtain ⟨i0, ei0⟩ := is_v gg3
  obtain rfl : w0 = (.int i0) := Option.some.inj ei0
  obtain ⟨i1, ei1⟩ := is_v gg5
  obtain rfl : w1 = (.int i1) := Option.some.inj ei1
  obtain ⟨i2, ei2⟩ := is_v gg7
  obtain rfl : w2 = (.int i2) := Option.some.inj ei2
  obtain ⟨i3, ei3⟩ := isL_v gg8
  obtain rfl : w3 = (.long i3) := Option.some.inj ei3
  obtain ⟨n, o, h1, h2, h3, _, L, rfl, ⟨N, -, rfl⟩, hq⟩ := rm0 l s _ hw i0 i1 i2 i3 s.heap  tables_1 p e ha hc hk s m _ below hf ((Spec.applies_iff_loose hf).mp happ).1 ⟨rfl, State.Warmed39.refl s, rfl⟩ trivial
  refine ⟨n, _, h1, h2, h3, hpost _ _ _ _ _ _ ⟨Cond.after_iff.mpr rfl, Cond.after_iff.mpr (eq_i res_at (Term.int_eval (1)) rfl), trivial⟩ ⟨hq.1, hq.2.1, (hq.2.2.sift fun y hy => Or.inr ((N y hy).elim (fun q => nomatch q) id)).mono (by decide) (by decide)⟩⟩
theorem main_1_1 : Claimed_1_1 := comes_1 fun _ _ _ _ _ _ h hF => ⟨h.1, hF⟩
theorem main_1_2 : Claimed_1_2 := comes_1 fun _ _ _ _ _ _ h hF => ⟨h.2.1, hF⟩
end Jvm.Pilot.@@N@@
namespace Jvm.Pilot.@@N@@
open Jvm Jvm.ClassFile Sem Op Lib Jvm.Free Jvm.Stand Jvm.Pilot.@@N@@.Jvm.D
/-! MADE BY PROGRAM (witnessworld.py) out of the Statement's table words and the real class files: 13 classes; the members and pool entries that the words name. The judged class is class 1, her method 1. -/
namespace start1
open Jvm.ClassFile
def u (s : String) : CpInfo := .utf8 (stringToUtf16 s)
/-- a pool by its gaps: so many unusable entries, then the entry; so many at the end -/
def gap : Nat → List CpInfo → List CpInfo
  | 0, r => r
  | n + 1, r => .unusable :: gap n r
def poolList (es : List (Nat × CpInfo)) (last : Nat) : List CpInfo := es.foldr (fun e r => gap e.1 (e.2 :: r)) (gap last [])
def pool (es : List (Nat × CpInfo)) (last : Nat) : Array CpInfo := ⟨poolList es last⟩
def fileOf (pool : Array CpInfo) (this : Nat) (attrs : Array Attribute := #[]) (ms : Array MethodInfo := #[]) (fl : Nat := 33) (sup : Nat := 0) (ifs : Array Nat := #[]) (fds : Array FieldInfo := #[]) : ClassFile where
  minorVersion := 0
  majorVersion := 65
  constantPool := pool
  accessFlags := fl
  thisClass := this
  superClass := sup
  interfaces := ifs
  fields := fds
  methods := ms
  attributes := attrs
def plain (name : String) (sup : Option ClassId) : Class where
  name := name
  kind := .ordinary
  loader := none
  accessFlags := 33
  super := sup
  interfaces := #[]
  cf := none
  fields := #[]
  methods := #[]
  instanceTypes := #[]
  staticTypes := #[]
  resolved := #[]
  callSites := []
  init := .initialized
  statics := none
  mirror := none

def pool0 : Array CpInfo := pool [(5, u "<init>"), (0, u "()V"), (1, .class_ 10), (1, u "java/lang/Object")] 113

def k0c0 : Code := { maxStack := 0, maxLocals := 1, code := object_method_1_code, exceptionTable := #[], attributes := #[] }
def k0m0 : Method := { name := "<init>", desc := "()V", sig := { parameters := [], returnType := none }, accessFlags := 1, code := some k0c0 }
/-- java/lang/Object -/
def k0 : Class := { plain "java/lang/Object" none with
  accessFlags := 33
  interfaces := #[]
  cf := some (fileOf pool0 8 #[] #[{ accessFlags := 1, nameIndex := 5, descriptorIndex := 6, attributes := #[] }] 33 0 #[] #[])
  fields := #[]
  methods := #[k0m0]
  instanceTypes := #[]
  staticTypes := #[]
  resolved := Array.replicate 124 none
  statics := none }

def pool1 : Array CpInfo := pool [(2, .class_ 4), (0, .nameAndType 5 6), (0, u "java/lang/Object"), (0, u "<init>"), (0, u "()V"), (0, .integer 2147483647), (0, .class_ 9), (0, u "com/example/phasorwire/phasorwire/RangeEncoder"), (0, .methodref 8 3), (0, .methodref 8 12), (0, .nameAndType 13 14), (0, u "encode"), (0, u "(IZ)V"), (0, .methodref 8 16), (0, .nameAndType 17 18), (0, u "finish"), (0, u "()[B"), (0, .class_ 20), (0, u "com/example/phasorwire/phasorwire/RangeDecoder"), (0, .methodref 19 22), (0, .nameAndType 5 23), (0, u "([B)V"), (0, .methodref 19 25), (0, .nameAndType 26 27), (0, u "decode"), (0, u "(I)Z"), (0, .methodref 19 29), (0, .nameAndType 30 31), (0, u "isCanonical"), (0, u "()Z"), (0, .methodref 33 34), (0, .class_ 35), (0, .nameAndType 36 37), (0, u "com/example/phasorwire/phasorwire/RangeDecoderIsCanonicalPinLaw"), (0, u "equal"), (0, u "([B[B)Z"), (0, .methodref 33 39), (0, .nameAndType 40 41), (0, u "at"), (0, u "([B[BI)Z"), (2, u "law"), (0, u "(IIIJ)Z")] 5

def k1m0 : Method := { name := "<init>", desc := "()V", sig := { parameters := [], returnType := none }, accessFlags := 1, code := none }
def k1c1 : Code := { maxStack := 5, maxLocals := 19, code := code, exceptionTable := #[], attributes := #[] }
def k1m1 : Method := { name := "law", desc := "(IIIJ)Z", sig := { parameters := [.int, .int, .int, .long], returnType := some .boolean }, accessFlags := 9, code := some k1c1 }
def k1c2 : Code := { maxStack := 3, maxLocals := 2, code := method_3_code, exceptionTable := #[], attributes := #[] }
def k1m2 : Method := { name := "equal", desc := "([B[B)Z", sig := { parameters := [(.array .byte), (.array .byte)], returnType := some .boolean }, accessFlags := 10, code := some k1c2 }
def k1c3 : Code := { maxStack := 3, maxLocals := 3, code := method_4_code, exceptionTable := #[], attributes := #[] }
def k1m3 : Method := { name := "at", desc := "([B[BI)Z", sig := { parameters := [(.array .byte), (.array .byte), .int], returnType := some .boolean }, accessFlags := 10, code := some k1c3 }
/-- com/example/phasorwire/phasorwire/RangeDecoderIsCanonicalPinLaw -/
def k1 : Class := { plain "com/example/phasorwire/phasorwire/RangeDecoderIsCanonicalPinLaw" (some 0) with
  accessFlags := 49
  interfaces := #[]
  cf := some (fileOf pool1 33 #[] #[{ accessFlags := 1, nameIndex := 5, descriptorIndex := 6, attributes := #[] }, { accessFlags := 9, nameIndex := 44, descriptorIndex := 45, attributes := #[] }, { accessFlags := 10, nameIndex := 36, descriptorIndex := 37, attributes := #[] }, { accessFlags := 10, nameIndex := 40, descriptorIndex := 41, attributes := #[] }] 49 2 #[] #[])
  fields := #[]
  methods := #[k1m0, k1m1, k1m2, k1m3]
  instanceTypes := #[]
  staticTypes := #[]
  resolved := Array.replicate 51 none
  statics := none }

def pool2 : Array CpInfo := pool [(1, .class_ 2), (0, u "com/example/phasorwire/phasorwire/RangeEncoder"), (0, .methodref 4 5), (0, .class_ 6), (0, .nameAndType 7 8), (0, u "java/lang/Object"), (0, u "<init>"), (0, u "()V"), (0, .long 4294967295), (1, .fieldref 1 12), (0, .nameAndType 13 14), (0, u "range"), (0, u "J"), (0, .fieldref 1 16), (0, .nameAndType 17 18), (0, u "held"), (0, u "I"), (0, .fieldref 1 20), (0, .nameAndType 21 22), (0, u "bytes"), (0, u "[B"), (0, .long 18446744073709551615), (1, .fieldref 1 26), (0, .nameAndType 27 14), (0, u "low"), (0, .long 2), (1, .long 16777216), (1, .methodref 1 33), (0, .nameAndType 34 8), (0, u "shift"), (0, .fieldref 1 36), (0, .nameAndType 37 18), (0, u "length"), (0, .fieldref 1 39), (0, .nameAndType 40 14), (0, u "heldOnes"), (2, .methodref 44 45), (0, .class_ 46), (0, .nameAndType 47 48), (0, u "java/util/Arrays"), (0, u "copyOf"), (0, u "([BI)[B"), (0, .long 4278190080), (1, .long 4294967296), (1, .methodref 1 54), (0, .nameAndType 55 56), (0, u "write"), (0, u "(I)V"), (0, .long 16777215), (1, u "PROBABILITY_BITS"), (2, u "TOP"), (0, u "WINDOW"), (0, u "FULL_RANGE"), (2, u "encode"), (0, u "(IZ)V"), (3, u "finish"), (0, u "()[B")] 2

def k2c0 : Code := { maxStack := 3, maxLocals := 1, code := prog_64_method_1_code, exceptionTable := #[], attributes := #[] }
def k2m0 : Method := { name := "<init>", desc := "()V", sig := { parameters := [], returnType := none }, accessFlags := 0, code := some k2c0 }
def k2c1 : Code := { maxStack := 9, maxLocals := 7, code := prog_64_method_2_code, exceptionTable := #[], attributes := #[] }
def k2m1 : Method := { name := "encode", desc := "(IZ)V", sig := { parameters := [.int, .boolean], returnType := none }, accessFlags := 0, code := some k2c1 }
def k2c2 : Code := { maxStack := 6, maxLocals := 7, code := prog_64_method_4_code, exceptionTable := #[], attributes := #[] }
def k2m2 : Method := { name := "finish", desc := "()[B", sig := { parameters := [], returnType := some (.array .byte) }, accessFlags := 0, code := some k2c2 }
def k2c3 : Code := { maxStack := 5, maxLocals := 2, code := prog_64_method_5_code, exceptionTable := #[], attributes := #[] }
def k2m3 : Method := { name := "shift", desc := "()V", sig := { parameters := [], returnType := none }, accessFlags := 2, code := some k2c3 }
def k2c4 : Code := { maxStack := 5, maxLocals := 2, code := prog_64_method_6_code, exceptionTable := #[], attributes := #[] }
def k2m4 : Method := { name := "write", desc := "(I)V", sig := { parameters := [.int], returnType := none }, accessFlags := 2, code := some k2c4 }
/-- com/example/phasorwire/phasorwire/RangeEncoder -/
def k2 : Class := { plain "com/example/phasorwire/phasorwire/RangeEncoder" (some 0) with
  accessFlags := 48
  interfaces := #[]
  cf := some (fileOf pool2 1 #[] #[{ accessFlags := 0, nameIndex := 7, descriptorIndex := 8, attributes := #[] }, { accessFlags := 0, nameIndex := 67, descriptorIndex := 68, attributes := #[] }, { accessFlags := 0, nameIndex := 72, descriptorIndex := 73, attributes := #[] }, { accessFlags := 2, nameIndex := 34, descriptorIndex := 8, attributes := #[] }, { accessFlags := 2, nameIndex := 55, descriptorIndex := 56, attributes := #[] }] 48 4 #[] #[{ accessFlags := 24, nameIndex := 59, descriptorIndex := 18, attributes := #[] }, { accessFlags := 24, nameIndex := 62, descriptorIndex := 14, attributes := #[] }, { accessFlags := 26, nameIndex := 63, descriptorIndex := 14, attributes := #[] }, { accessFlags := 24, nameIndex := 64, descriptorIndex := 14, attributes := #[] }, { accessFlags := 2, nameIndex := 27, descriptorIndex := 14, attributes := #[] }, { accessFlags := 2, nameIndex := 13, descriptorIndex := 14, attributes := #[] }, { accessFlags := 2, nameIndex := 17, descriptorIndex := 18, attributes := #[] }, { accessFlags := 2, nameIndex := 40, descriptorIndex := 14, attributes := #[] }, { accessFlags := 2, nameIndex := 21, descriptorIndex := 22, attributes := #[] }, { accessFlags := 2, nameIndex := 37, descriptorIndex := 18, attributes := #[] }])
  fields := #[{ name := "PROBABILITY_BITS", type := .int, accessFlags := 24, slot := 0, constantValue := 0 }, { name := "TOP", type := .long, accessFlags := 24, slot := 1, constantValue := 0 }, { name := "WINDOW", type := .long, accessFlags := 26, slot := 2, constantValue := 0 }, { name := "FULL_RANGE", type := .long, accessFlags := 24, slot := 3, constantValue := 0 }, { name := "low", type := .long, accessFlags := 2, slot := 0, constantValue := 0 }, { name := "range", type := .long, accessFlags := 2, slot := 1, constantValue := 0 }, { name := "held", type := .int, accessFlags := 2, slot := 2, constantValue := 0 }, { name := "heldOnes", type := .long, accessFlags := 2, slot := 3, constantValue := 0 }, { name := "bytes", type := (.array .byte), accessFlags := 2, slot := 4, constantValue := 0 }, { name := "length", type := .int, accessFlags := 2, slot := 5, constantValue := 0 }]
  methods := #[k2m0, k2m1, k2m2, k2m3, k2m4]
  instanceTypes := #[.long, .long, .int, .long, (.array .byte), .int]
  staticTypes := #[.int, .long, .long, .long]
  resolved := Array.replicate 76 none
  statics := none }

def pool3 : Array CpInfo := pool [(2, .class_ 4), (1, u "java/lang/Object"), (0, u "<init>"), (0, u "()V"), (7, .class_ 16), (1, u "java/util/Arrays"), (57, .class_ 76), (1, u "java/util/Arrays$NaturalOrder"), (36, .class_ 115), (1, u "java/util/Arrays$LegacyMergeSort"), (1, u "Z"), (32, .methodref 151 152), (0, .class_ 153), (0, .nameAndType 154 155), (0, u "java/lang/System"), (0, u "arraycopy"), (0, u "(Ljava/lang/Object;ILjava/lang/Object;II)V"), (146, u "copyOf"), (1, .methodref 305 306), (0, .class_ 307), (0, .nameAndType 308 309), (0, u "java/lang/Math"), (0, u "min"), (0, u "(II)I"), (65, .class_ 376), (0, u "java/util/Arrays$ArrayList"), (68, u "$assertionsDisabled"), (269, u "MIN_ARRAY_SORT_GRAN"), (0, u "I"), (2, u "INSERTIONSORT_THRESHOLD"), (149, u "([BI)[B"), (105, .class_ 976), (0, u "java/util/Arrays$ArrayItr")] 52

def k3m0 : Method := { name := "<init>", desc := "()V", sig := { parameters := [], returnType := none }, accessFlags := 2, code := none }
def k3c1 : Code := { maxStack := 6, maxLocals := 3, code := jdk_65_method_121_code, exceptionTable := #[], attributes := #[] }
def k3m1 : Method := { name := "copyOf", desc := "([BI)[B", sig := { parameters := [(.array .byte), .int], returnType := some (.array .byte) }, accessFlags := 9, code := some k3c1 }
/-- java/util/Arrays -/
def k3 : Class := { plain "java/util/Arrays" (some 0) with
  accessFlags := 49
  interfaces := #[]
  cf := some (fileOf pool3 14 #[.nestMembers #[975, 375, 113, 74]] #[{ accessFlags := 2, nameIndex := 5, descriptorIndex := 6, attributes := #[] }, { accessFlags := 9, nameIndex := 302, descriptorIndex := 869, attributes := #[] }] 49 2 #[] #[{ accessFlags := 26, nameIndex := 715, descriptorIndex := 716, attributes := #[] }, { accessFlags := 26, nameIndex := 719, descriptorIndex := 716, attributes := #[] }, { accessFlags := 4120, nameIndex := 445, descriptorIndex := 117, attributes := #[] }])
  fields := #[{ name := "MIN_ARRAY_SORT_GRAN", type := .int, accessFlags := 26, slot := 0, constantValue := 0 }, { name := "INSERTIONSORT_THRESHOLD", type := .int, accessFlags := 26, slot := 1, constantValue := 0 }, { name := "$assertionsDisabled", type := .boolean, accessFlags := 4120, slot := 2, constantValue := 0 }]
  methods := #[k3m0, k3m1]
  instanceTypes := #[]
  staticTypes := #[.int, .int, .boolean]
  resolved := Array.replicate 1029 none
  statics := none }

def pool4 : Array CpInfo := pool [(1, .class_ 2), (0, u "java/lang/Math"), (1, .class_ 6), (1, u "java/lang/Object"), (0, u "<init>"), (0, u "()V"), (89, .class_ 100), (1, u "java/lang/Math$RandomNumberGeneratorHolder"), (71, u "negativeZeroFloatBits"), (0, u "J"), (2, u "negativeZeroDoubleBits"), (24, u "min"), (43, u "$assertionsDisabled"), (0, u "Z"), (88, u "(II)I"), (2, u "twoToTheDoubleScaleDown"), (0, u "D"), (4, u "twoToTheDoubleScaleUp"), (9, u "E"), (3, u "PI"), (2, u "TAU"), (2, u "DEGREES_TO_RADIANS"), (0, u "RADIANS_TO_DEGREES")] 94

def k4m0 : Method := { name := "<init>", desc := "()V", sig := { parameters := [], returnType := none }, accessFlags := 2, code := none }
def k4c1 : Code := { maxStack := 2, maxLocals := 2, code := jdk_29_method_69_code, exceptionTable := #[], attributes := #[] }
def k4m1 : Method := { name := "min", desc := "(II)I", sig := { parameters := [.int, .int], returnType := some .int }, accessFlags := 9, code := some k4c1 }
/-- java/lang/Math -/
def k4 : Class := { plain "java/lang/Math" (some 0) with
  accessFlags := 49
  interfaces := #[]
  cf := some (fileOf pool4 1 #[.nestMembers #[98]] #[{ accessFlags := 2, nameIndex := 7, descriptorIndex := 8, attributes := #[] }, { accessFlags := 9, nameIndex := 201, descriptorIndex := 335, attributes := #[] }] 49 4 #[] #[{ accessFlags := 25, nameIndex := 354, descriptorIndex := 339, attributes := #[] }, { accessFlags := 25, nameIndex := 358, descriptorIndex := 339, attributes := #[] }, { accessFlags := 25, nameIndex := 361, descriptorIndex := 339, attributes := #[] }, { accessFlags := 26, nameIndex := 364, descriptorIndex := 339, attributes := #[] }, { accessFlags := 26, nameIndex := 365, descriptorIndex := 339, attributes := #[] }, { accessFlags := 26, nameIndex := 172, descriptorIndex := 173, attributes := #[] }, { accessFlags := 26, nameIndex := 176, descriptorIndex := 173, attributes := #[] }, { accessFlags := 8, nameIndex := 344, descriptorIndex := 339, attributes := #[] }, { accessFlags := 8, nameIndex := 338, descriptorIndex := 339, attributes := #[] }, { accessFlags := 4120, nameIndex := 245, descriptorIndex := 246, attributes := #[] }])
  fields := #[{ name := "E", type := .double, accessFlags := 25, slot := 0, constantValue := 0 }, { name := "PI", type := .double, accessFlags := 25, slot := 1, constantValue := 0 }, { name := "TAU", type := .double, accessFlags := 25, slot := 2, constantValue := 0 }, { name := "DEGREES_TO_RADIANS", type := .double, accessFlags := 26, slot := 3, constantValue := 0 }, { name := "RADIANS_TO_DEGREES", type := .double, accessFlags := 26, slot := 4, constantValue := 0 }, { name := "negativeZeroFloatBits", type := .long, accessFlags := 26, slot := 5, constantValue := 0 }, { name := "negativeZeroDoubleBits", type := .long, accessFlags := 26, slot := 6, constantValue := 0 }, { name := "twoToTheDoubleScaleUp", type := .double, accessFlags := 8, slot := 7, constantValue := 0 }, { name := "twoToTheDoubleScaleDown", type := .double, accessFlags := 8, slot := 8, constantValue := 0 }, { name := "$assertionsDisabled", type := .boolean, accessFlags := 4120, slot := 9, constantValue := 0 }]
  methods := #[k4m0, k4m1]
  instanceTypes := #[]
  staticTypes := #[.double, .double, .double, .double, .double, .long, .long, .double, .double, .boolean]
  resolved := Array.replicate 460 none
  statics := none }

def pool5 : Array CpInfo := pool [(2, .class_ 4), (1, u "java/lang/Object"), (0, u "<init>"), (0, u "()V"), (1, .class_ 10), (1, u "java/lang/System"), (0, u "allowSecurityManager"), (0, u "I"), (16, u "cons"), (0, u "Ljava/io/Console;"), (77, .class_ 110), (1, u "java/lang/System$CallersHolder"), (43, u "initialErrStream"), (0, u "Ljava/io/PrintStream;"), (19, u "security"), (0, u "Ljava/lang/SecurityManager;"), (31, .class_ 209), (0, u "java/lang/System$1"), (7, u "props"), (0, u "Ljava/util/Properties;"), (2, u "lineSeparator"), (0, u "Ljava/lang/String;"), (96, .class_ 321), (1, u "java/lang/System$LoggerFinder"), (5, .class_ 328), (0, u "java/lang/System$Logger"), (67, u "err"), (2, u "out"), (91, u "notSupportedJnuEncoding"), (15, u "in"), (17, u "initialIn"), (0, u "Ljava/io/InputStream;"), (35, u "bootLayer"), (0, u "Ljava/lang/ModuleLayer;"), (99, .class_ 664), (0, u "java/lang/System$2"), (9, u "NEVER"), (2, u "MAYBE"), (49, u "arraycopy"), (0, u "(Ljava/lang/Object;ILjava/lang/Object;II)V"), (72, .class_ 802), (0, u "java/lang/System$Logger$Level")] 31

def k5m0 : Method := { name := "<init>", desc := "()V", sig := { parameters := [], returnType := none }, accessFlags := 2, code := none }
def k5m1 : Method := { name := "arraycopy", desc := "(Ljava/lang/Object;ILjava/lang/Object;II)V", sig := { parameters := [(.object "java/lang/Object"), .int, (.object "java/lang/Object"), .int, .int], returnType := none }, accessFlags := 265, code := none }
/-- java/lang/System -/
def k5 : Class := { plain "java/lang/System" (some 0) with
  accessFlags := 49
  interfaces := #[]
  cf := some (fileOf pool5 8 #[.nestMembers #[319, 327, 801, 108, 663, 208]] #[{ accessFlags := 2, nameIndex := 5, descriptorIndex := 6, attributes := #[] }, { accessFlags := 265, nameIndex := 727, descriptorIndex := 728, attributes := #[] }] 49 2 #[] #[{ accessFlags := 25, nameIndex := 507, descriptorIndex := 526, attributes := #[] }, { accessFlags := 25, nameIndex := 399, descriptorIndex := 155, attributes := #[] }, { accessFlags := 25, nameIndex := 396, descriptorIndex := 155, attributes := #[] }, { accessFlags := 10, nameIndex := 525, descriptorIndex := 526, attributes := #[] }, { accessFlags := 26, nameIndex := 674, descriptorIndex := 12, attributes := #[] }, { accessFlags := 26, nameIndex := 677, descriptorIndex := 12, attributes := #[] }, { accessFlags := 10, nameIndex := 11, descriptorIndex := 12, attributes := #[] }, { accessFlags := 74, nameIndex := 175, descriptorIndex := 176, attributes := #[] }, { accessFlags := 10, nameIndex := 491, descriptorIndex := 222, attributes := #[] }, { accessFlags := 74, nameIndex := 29, descriptorIndex := 30, attributes := #[] }, { accessFlags := 74, nameIndex := 154, descriptorIndex := 155, attributes := #[] }, { accessFlags := 10, nameIndex := 217, descriptorIndex := 218, attributes := #[] }, { accessFlags := 10, nameIndex := 221, descriptorIndex := 222, attributes := #[] }, { accessFlags := 8, nameIndex := 562, descriptorIndex := 563, attributes := #[] }])
  fields := #[{ name := "in", type := (.object "java/io/InputStream"), accessFlags := 25, slot := 0, constantValue := 0 }, { name := "out", type := (.object "java/io/PrintStream"), accessFlags := 25, slot := 1, constantValue := 0 }, { name := "err", type := (.object "java/io/PrintStream"), accessFlags := 25, slot := 2, constantValue := 0 }, { name := "initialIn", type := (.object "java/io/InputStream"), accessFlags := 10, slot := 3, constantValue := 0 }, { name := "NEVER", type := .int, accessFlags := 26, slot := 4, constantValue := 0 }, { name := "MAYBE", type := .int, accessFlags := 26, slot := 5, constantValue := 0 }, { name := "allowSecurityManager", type := .int, accessFlags := 10, slot := 6, constantValue := 0 }, { name := "security", type := (.object "java/lang/SecurityManager"), accessFlags := 74, slot := 7, constantValue := 0 }, { name := "notSupportedJnuEncoding", type := (.object "java/lang/String"), accessFlags := 10, slot := 8, constantValue := 0 }, { name := "cons", type := (.object "java/io/Console"), accessFlags := 74, slot := 9, constantValue := 0 }, { name := "initialErrStream", type := (.object "java/io/PrintStream"), accessFlags := 74, slot := 10, constantValue := 0 }, { name := "props", type := (.object "java/util/Properties"), accessFlags := 10, slot := 11, constantValue := 0 }, { name := "lineSeparator", type := (.object "java/lang/String"), accessFlags := 10, slot := 12, constantValue := 0 }, { name := "bootLayer", type := (.object "java/lang/ModuleLayer"), accessFlags := 8, slot := 13, constantValue := 0 }]
  methods := #[k5m0, k5m1]
  instanceTypes := #[]
  staticTypes := #[(.object "java/io/InputStream"), (.object "java/io/PrintStream"), (.object "java/io/PrintStream"), (.object "java/io/InputStream"), .int, .int, .int, (.object "java/lang/SecurityManager"), (.object "java/lang/String"), (.object "java/io/Console"), (.object "java/io/PrintStream"), (.object "java/util/Properties"), (.object "java/lang/String"), (.object "java/lang/ModuleLayer")]
  resolved := Array.replicate 834 none
  statics := none }

def pool6 : Array CpInfo := pool [(1, .methodref 2 3), (0, .class_ 4), (0, .nameAndType 5 6), (0, u "java/lang/Object"), (0, u "<init>"), (0, u "()V"), (2, .long 4294967295), (1, .fieldref 12 13), (0, .class_ 14), (0, .nameAndType 15 16), (0, u "com/example/phasorwire/phasorwire/RangeDecoder"), (0, u "range"), (0, u "J"), (0, .methodref 18 19), (0, .class_ 20), (0, .nameAndType 21 22), (0, u "java/util/Arrays"), (0, u "copyOf"), (0, u "([BI)[B"), (0, .fieldref 12 24), (0, .nameAndType 25 26), (0, u "data"), (0, u "[B"), (0, .fieldref 12 28), (0, .nameAndType 29 30), (0, u "length"), (0, u "I"), (0, .methodref 12 32), (0, .nameAndType 33 6), (0, u "shiftIn"), (0, .fieldref 12 35), (0, .nameAndType 36 16), (0, u "code"), (0, .long 18446744073709551615), (1, .long 2), (1, .long 16777216), (1, .fieldref 12 44), (0, .nameAndType 45 16), (0, u "window"), (0, .fieldref 12 47), (0, .nameAndType 48 30), (0, u "position"), (0, .methodref 50 51), (0, .class_ 52), (0, .nameAndType 53 54), (0, u "java/lang/Math"), (0, u "min"), (0, u "(II)I"), (0, u "([B)V"), (4, u "decode"), (0, u "(I)Z"), (0, u "isCanonical"), (0, u "()Z")] 2

def k6c0 : Code := { maxStack := 4, maxLocals := 3, code := prog_62_method_1_code, exceptionTable := #[], attributes := #[] }
def k6m0 : Method := { name := "<init>", desc := "([B)V", sig := { parameters := [(.array .byte)], returnType := none }, accessFlags := 0, code := some k6c0 }
def k6c1 : Code := { maxStack := 9, maxLocals := 6, code := prog_62_method_2_code, exceptionTable := #[], attributes := #[] }
def k6m1 : Method := { name := "decode", desc := "(I)Z", sig := { parameters := [.int], returnType := some .boolean }, accessFlags := 0, code := some k6c1 }
def k6c2 : Code := { maxStack := 6, maxLocals := 10, code := prog_62_method_3_code, exceptionTable := #[], attributes := #[] }
def k6m2 : Method := { name := "isCanonical", desc := "()Z", sig := { parameters := [], returnType := some .boolean }, accessFlags := 0, code := some k6c2 }
def k6c3 : Code := { maxStack := 5, maxLocals := 2, code := prog_62_method_4_code, exceptionTable := #[], attributes := #[] }
def k6m3 : Method := { name := "shiftIn", desc := "()V", sig := { parameters := [], returnType := none }, accessFlags := 2, code := some k6c3 }
/-- com/example/phasorwire/phasorwire/RangeDecoder -/
def k6 : Class := { plain "com/example/phasorwire/phasorwire/RangeDecoder" (some 0) with
  accessFlags := 48
  interfaces := #[]
  cf := some (fileOf pool6 12 #[] #[{ accessFlags := 0, nameIndex := 5, descriptorIndex := 55, attributes := #[] }, { accessFlags := 0, nameIndex := 60, descriptorIndex := 61, attributes := #[] }, { accessFlags := 0, nameIndex := 62, descriptorIndex := 63, attributes := #[] }, { accessFlags := 2, nameIndex := 33, descriptorIndex := 6, attributes := #[] }] 48 2 #[] #[{ accessFlags := 18, nameIndex := 25, descriptorIndex := 26, attributes := #[] }, { accessFlags := 18, nameIndex := 29, descriptorIndex := 30, attributes := #[] }, { accessFlags := 2, nameIndex := 48, descriptorIndex := 30, attributes := #[] }, { accessFlags := 2, nameIndex := 15, descriptorIndex := 16, attributes := #[] }, { accessFlags := 2, nameIndex := 36, descriptorIndex := 16, attributes := #[] }, { accessFlags := 2, nameIndex := 45, descriptorIndex := 16, attributes := #[] }])
  fields := #[{ name := "data", type := (.array .byte), accessFlags := 18, slot := 0, constantValue := 0 }, { name := "length", type := .int, accessFlags := 18, slot := 1, constantValue := 0 }, { name := "position", type := .int, accessFlags := 2, slot := 2, constantValue := 0 }, { name := "range", type := .long, accessFlags := 2, slot := 3, constantValue := 0 }, { name := "code", type := .long, accessFlags := 2, slot := 4, constantValue := 0 }, { name := "window", type := .long, accessFlags := 2, slot := 5, constantValue := 0 }]
  methods := #[k6m0, k6m1, k6m2, k6m3]
  instanceTypes := #[(.array .byte), .int, .int, .long, .long, .long]
  staticTypes := #[]
  resolved := Array.replicate 66 none
  statics := none }

def pool7 : Array CpInfo := pool [(1, u "java/lang/Cloneable"), (0, .class_ 1), (0, u "java/lang/Object"), (0, .class_ 3)] 3

/-- java/lang/Cloneable -/
def k7 : Class := { plain "java/lang/Cloneable" (some 0) with
  accessFlags := 1537
  interfaces := #[]
  cf := some (fileOf pool7 2 #[] #[] 1537 4 #[] #[])
  fields := #[]
  methods := #[]
  instanceTypes := #[]
  staticTypes := #[]
  resolved := Array.replicate 8 none
  statics := none }

def pool8 : Array CpInfo := pool [(1, u "java/io/Serializable"), (0, .class_ 1), (0, u "java/lang/Object"), (0, .class_ 3)] 3

/-- java/io/Serializable -/
def k8 : Class := { plain "java/io/Serializable" (some 0) with
  accessFlags := 1537
  interfaces := #[]
  cf := some (fileOf pool8 2 #[] #[] 1537 4 #[] #[])
  fields := #[]
  methods := #[]
  instanceTypes := #[]
  staticTypes := #[]
  resolved := Array.replicate 8 none
  statics := none }

/-- the primitive byte -/
def k9 : Class := { plain "byte" none with kind := .primitive 'B', accessFlags := 0x411 }
/-- [B -/
def k10 : Class := { plain "[B" (some 0) with kind := .array 9 .byte, interfaces := #[7, 8], accessFlags := 1041 }

/-- the primitive int -/
def k11 : Class := { plain "int" none with kind := .primitive 'I', accessFlags := 0x411 }
/-- [I -/
def k12 : Class := { plain "[I" (some 0) with kind := .array 11 .int, interfaces := #[7, 8], accessFlags := 1041 }

def heap : Heap := #[]
def classes : Array Class := #[k0, k1, k2, k3, k4, k5, k6, k7, k8, k9, k10, k11, k12]
def interned : List (Array UInt16 × Addr) := []
def slotsUsed : Nat := 0
def theMethod : MethodId := ⟨1, 1⟩
def args0 : Array Value := #[.int 5, .int 5, .int 5, .long 5]
def aboutOver (below : List Frame) : State where
  vm := { classes := classes, interned := interned.toArray }
  heap := heap
  slotsUsed := slotsUsed
  threads := #[{ frames := .invoking theMethod args0 :: below }]
def below0 : List Frame := [.native { method := ⟨0, 0⟩, args := #[] }]
def about1 : State := aboutOver below0
def p0 : Program := .bare "" "" ""
def e0 : Env := launch0.env 0 0 0
theorem w_frames : about1.frames = Frame.invoking theMethod args0 :: below0 := rfl
set_option maxRecDepth 65536 in
theorem w_args : argsFit about1.vm theMethod args0 = true := by decide +kernel
set_option maxRecDepth 65536 in
theorem w_heap : heapFits about1 = true := by decide +kernel
set_option maxRecDepth 65536 in
theorem w_runnable : about1.curStatus? = some .runnable := by decide +kernel
set_option maxRecDepth 65536 in
theorem w_alone : about1.alone = true := by decide +kernel
set_option maxRecDepth 65536 in
theorem w_named : about1.methodNamed? x = some theMethod := by decide +kernel
set_option maxRecDepth 65536 in
theorem w_hears : about1.hears theMethod below0 = true := by decide +kernel
set_option maxRecDepth 65536 in
theorem w_ripe : about1.ripe theMethod args0 below0 = true := by decide +kernel
theorem w_running : about1.status = .running := rfl
set_option maxRecDepth 65536 in
theorem w_room : about1.hasRoom e0.platform room_1 = true :=
  launch0.hasRoom_least _ room_1 (by decide +kernel) (by decide +kernel) (by decide +kernel) (by decide +kernel) (by decide +kernel) (by decide +kernel)
theorem allAtoms_all (ts : List Jvm.Cond) (a : Array Jvm.Value) (st : Jvm.State) : (allAtoms ts).before a st = ts.all (fun c => c.before a st) := by
  induction ts with
  | nil => rfl
  | cons c t ih =>
    show (Jvm.Cond.and c (allAtoms t)).before a st = _
    rw [Jvm.Cond.before_and, ih, List.all_cons]
def words1 : List Jvm.Cond := Jvm.Cond.code x code maxLocals ret :: tables_1
/-- a 'code' word, met by the world's own term for the bytes: nothing is compared byte by byte -/
theorem code_word {y : MethodName} {bytes : ByteArray} {mx : Nat} {rt : Option FieldType} {a : Array Value} {s : State} {m : MethodId} {meth : Method} {c : Code} (h1 : s.methodNamed? y = some m) (h2 : s.vm.method? m = some meth) (h3 : meth.code = some c) (h4 : c.code = bytes)
    (h5 : (c.maxLocals == mx && c.exceptionTable.isEmpty && decide (c.maxStack ≤ mostOperands) && decide (meth.sig.returnType = rt) && !meth.locks && decide (parseMethodDescriptor y.desc = some meth.sig)) = true) : (Jvm.Cond.code y bytes mx rt).before a s = true := by
  simp only [Bool.and_eq_true, beq_iff_eq, Bool.not_eq_true', decide_eq_true_eq] at h5
  obtain ⟨⟨⟨⟨⟨g1, g2⟩, g3⟩, g4⟩, g5⟩, g6⟩ := h5
  simp [Cond.before, Cond.holds, Cond.value, h1, h2, h3, h4, g1, g2, g3, g4, g5, g6]
def isCode : Jvm.Cond → Bool
  | .code _ _ _ _ => true
  | _ => false
theorem all_split {L : List Jvm.Cond} {P : Jvm.Cond → Bool} (h1 : L.all (fun c => isCode c || P c) = true) (h2 : ∀ c ∈ L.filter isCode, P c = true) : L.all P = true := by
  refine List.all_eq_true.mpr fun c hc => ?_
  have h := List.all_eq_true.mp h1 c hc
  rcases Bool.eq_false_or_eq_true (isCode c) with hi | hi
  · exact h2 c (List.mem_filter.mpr ⟨hc, hi⟩)
  · simpa [hi] using h
set_option maxRecDepth 65536 in
theorem w_c0 : (Jvm.Cond.code x code maxLocals ret).before args0 about1 = true := code_word (m := ⟨1, 1⟩) (meth := k1m1) (c := k1c1) (by decide +kernel) rfl rfl rfl (by decide +kernel)
set_option maxRecDepth 65536 in
theorem w_c1 : (Jvm.Cond.code ({ cls := "com/example/phasorwire/phasorwire/RangeEncoder", name := "<init>", desc := "()V" } : Jvm.MethodName) prog_64_method_1_code (1 : Nat) (Option.none : Option Jvm.ClassFile.FieldType)).before args0 about1 = true := code_word (m := ⟨2, 0⟩) (meth := k2m0) (c := k2c0) (by decide +kernel) rfl rfl rfl (by decide +kernel)
set_option maxRecDepth 65536 in
theorem w_c2 : (Jvm.Cond.code ({ cls := "java/lang/Object", name := "<init>", desc := "()V" } : Jvm.MethodName) object_method_1_code (1 : Nat) (Option.none : Option Jvm.ClassFile.FieldType)).before args0 about1 = true := code_word (m := ⟨0, 0⟩) (meth := k0m0) (c := k0c0) (by decide +kernel) rfl rfl rfl (by decide +kernel)
set_option maxRecDepth 65536 in
theorem w_c3 : (Jvm.Cond.code ({ cls := "com/example/phasorwire/phasorwire/RangeEncoder", name := "finish", desc := "()[B" } : Jvm.MethodName) prog_64_method_4_code (7 : Nat) (Option.some (Jvm.ClassFile.FieldType.array Jvm.ClassFile.FieldType.byte))).before args0 about1 = true := code_word (m := ⟨2, 2⟩) (meth := k2m2) (c := k2c2) (by decide +kernel) rfl rfl rfl (by decide +kernel)
set_option maxRecDepth 65536 in
theorem w_c4 : (Jvm.Cond.code ({ cls := "com/example/phasorwire/phasorwire/RangeEncoder", name := "shift", desc := "()V" } : Jvm.MethodName) prog_64_method_5_code (2 : Nat) (Option.none : Option Jvm.ClassFile.FieldType)).before args0 about1 = true := code_word (m := ⟨2, 3⟩) (meth := k2m3) (c := k2c3) (by decide +kernel) rfl rfl rfl (by decide +kernel)
set_option maxRecDepth 65536 in
theorem w_c5 : (Jvm.Cond.code ({ cls := "java/util/Arrays", name := "copyOf", desc := "([BI)[B" } : Jvm.MethodName) jdk_65_method_121_code (3 : Nat) (Option.some (Jvm.ClassFile.FieldType.array Jvm.ClassFile.FieldType.byte))).before args0 about1 = true := code_word (m := ⟨3, 1⟩) (meth := k3m1) (c := k3c1) (by decide +kernel) rfl rfl rfl (by decide +kernel)
set_option maxRecDepth 65536 in
theorem w_c6 : (Jvm.Cond.code ({ cls := "java/lang/Math", name := "min", desc := "(II)I" } : Jvm.MethodName) jdk_29_method_69_code (2 : Nat) (Option.some Jvm.ClassFile.FieldType.int)).before args0 about1 = true := code_word (m := ⟨4, 1⟩) (meth := k4m1) (c := k4c1) (by decide +kernel) rfl rfl rfl (by decide +kernel)
set_option maxRecDepth 65536 in
theorem w_c7 : (Jvm.Cond.code ({ cls := "com/example/phasorwire/phasorwire/RangeDecoder", name := "<init>", desc := "([B)V" } : Jvm.MethodName) prog_62_method_1_code (3 : Nat) (Option.none : Option Jvm.ClassFile.FieldType)).before args0 about1 = true := code_word (m := ⟨6, 0⟩) (meth := k6m0) (c := k6c0) (by decide +kernel) rfl rfl rfl (by decide +kernel)
set_option maxRecDepth 65536 in
theorem w_c8 : (Jvm.Cond.code ({ cls := "com/example/phasorwire/phasorwire/RangeDecoder", name := "shiftIn", desc := "()V" } : Jvm.MethodName) prog_62_method_4_code (2 : Nat) (Option.none : Option Jvm.ClassFile.FieldType)).before args0 about1 = true := code_word (m := ⟨6, 3⟩) (meth := k6m3) (c := k6c3) (by decide +kernel) rfl rfl rfl (by decide +kernel)
set_option maxRecDepth 65536 in
theorem w_c9 : (Jvm.Cond.code ({ cls := "com/example/phasorwire/phasorwire/RangeDecoder", name := "isCanonical", desc := "()Z" } : Jvm.MethodName) prog_62_method_3_code (10 : Nat) (Option.some Jvm.ClassFile.FieldType.boolean)).before args0 about1 = true := code_word (m := ⟨6, 2⟩) (meth := k6m2) (c := k6c2) (by decide +kernel) rfl rfl rfl (by decide +kernel)
set_option maxRecDepth 65536 in
theorem w_c10 : (Jvm.Cond.code ({ cls := "com/example/phasorwire/phasorwire/RangeDecoderIsCanonicalPinLaw", name := "equal", desc := "([B[B)Z" } : Jvm.MethodName) method_3_code (2 : Nat) (Option.some Jvm.ClassFile.FieldType.boolean)).before args0 about1 = true := code_word (m := ⟨1, 2⟩) (meth := k1m2) (c := k1c2) (by decide +kernel) rfl rfl rfl (by decide +kernel)
set_option maxRecDepth 65536 in
theorem w_c11 : (Jvm.Cond.code ({ cls := "com/example/phasorwire/phasorwire/RangeDecoderIsCanonicalPinLaw", name := "at", desc := "([B[BI)Z" } : Jvm.MethodName) method_4_code (3 : Nat) (Option.some Jvm.ClassFile.FieldType.boolean)).before args0 about1 = true := code_word (m := ⟨1, 3⟩) (meth := k1m3) (c := k1c3) (by decide +kernel) rfl rfl rfl (by decide +kernel)
set_option maxRecDepth 65536 in
theorem w_c12 : (Jvm.Cond.code ({ cls := "com/example/phasorwire/phasorwire/RangeEncoder", name := "encode", desc := "(IZ)V" } : Jvm.MethodName) prog_64_method_2_code (7 : Nat) (Option.none : Option Jvm.ClassFile.FieldType)).before args0 about1 = true := code_word (m := ⟨2, 1⟩) (meth := k2m1) (c := k2c1) (by decide +kernel) rfl rfl rfl (by decide +kernel)
set_option maxRecDepth 65536 in
theorem w_c13 : (Jvm.Cond.code ({ cls := "com/example/phasorwire/phasorwire/RangeEncoder", name := "write", desc := "(I)V" } : Jvm.MethodName) prog_64_method_6_code (2 : Nat) (Option.none : Option Jvm.ClassFile.FieldType)).before args0 about1 = true := code_word (m := ⟨2, 4⟩) (meth := k2m4) (c := k2c4) (by decide +kernel) rfl rfl rfl (by decide +kernel)
set_option maxRecDepth 65536 in
theorem w_c14 : (Jvm.Cond.code ({ cls := "com/example/phasorwire/phasorwire/RangeDecoder", name := "decode", desc := "(I)Z" } : Jvm.MethodName) prog_62_method_2_code (6 : Nat) (Option.some Jvm.ClassFile.FieldType.boolean)).before args0 about1 = true := code_word (m := ⟨6, 1⟩) (meth := k6m1) (c := k6c1) (by decide +kernel) rfl rfl rfl (by decide +kernel)
def codes1 : List Jvm.Cond := [Jvm.Cond.code x code maxLocals ret, Jvm.Cond.code ({ cls := "com/example/phasorwire/phasorwire/RangeEncoder", name := "<init>", desc := "()V" } : Jvm.MethodName) prog_64_method_1_code (1 : Nat) (Option.none : Option Jvm.ClassFile.FieldType), Jvm.Cond.code ({ cls := "java/lang/Object", name := "<init>", desc := "()V" } : Jvm.MethodName) object_method_1_code (1 : Nat) (Option.none : Option Jvm.ClassFile.FieldType), Jvm.Cond.code ({ cls := "com/example/phasorwire/phasorwire/RangeEncoder", name := "finish", desc := "()[B" } : Jvm.MethodName) prog_64_method_4_code (7 : Nat) (Option.some (Jvm.ClassFile.FieldType.array Jvm.ClassFile.FieldType.byte)), Jvm.Cond.code ({ cls := "com/example/phasorwire/phasorwire/RangeEncoder", name := "shift", desc := "()V" } : Jvm.MethodName) prog_64_method_5_code (2 : Nat) (Option.none : Option Jvm.ClassFile.FieldType), Jvm.Cond.code ({ cls := "java/util/Arrays", name := "copyOf", desc := "([BI)[B" } : Jvm.MethodName) jdk_65_method_121_code (3 : Nat) (Option.some (Jvm.ClassFile.FieldType.array Jvm.ClassFile.FieldType.byte)), Jvm.Cond.code ({ cls := "java/lang/Math", name := "min", desc := "(II)I" } : Jvm.MethodName) jdk_29_method_69_code (2 : Nat) (Option.some Jvm.ClassFile.FieldType.int), Jvm.Cond.code ({ cls := "com/example/phasorwire/phasorwire/RangeDecoder", name := "<init>", desc := "([B)V" } : Jvm.MethodName) prog_62_method_1_code (3 : Nat) (Option.none : Option Jvm.ClassFile.FieldType), Jvm.Cond.code ({ cls := "com/example/phasorwire/phasorwire/RangeDecoder", name := "shiftIn", desc := "()V" } : Jvm.MethodName) prog_62_method_4_code (2 : Nat) (Option.none : Option Jvm.ClassFile.FieldType), Jvm.Cond.code ({ cls := "com/example/phasorwire/phasorwire/RangeDecoder", name := "isCanonical", desc := "()Z" } : Jvm.MethodName) prog_62_method_3_code (10 : Nat) (Option.some Jvm.ClassFile.FieldType.boolean), Jvm.Cond.code ({ cls := "com/example/phasorwire/phasorwire/RangeDecoderIsCanonicalPinLaw", name := "equal", desc := "([B[B)Z" } : Jvm.MethodName) method_3_code (2 : Nat) (Option.some Jvm.ClassFile.FieldType.boolean), Jvm.Cond.code ({ cls := "com/example/phasorwire/phasorwire/RangeDecoderIsCanonicalPinLaw", name := "at", desc := "([B[BI)Z" } : Jvm.MethodName) method_4_code (3 : Nat) (Option.some Jvm.ClassFile.FieldType.boolean), Jvm.Cond.code ({ cls := "com/example/phasorwire/phasorwire/RangeEncoder", name := "encode", desc := "(IZ)V" } : Jvm.MethodName) prog_64_method_2_code (7 : Nat) (Option.none : Option Jvm.ClassFile.FieldType), Jvm.Cond.code ({ cls := "com/example/phasorwire/phasorwire/RangeEncoder", name := "write", desc := "(I)V" } : Jvm.MethodName) prog_64_method_6_code (2 : Nat) (Option.none : Option Jvm.ClassFile.FieldType), Jvm.Cond.code ({ cls := "com/example/phasorwire/phasorwire/RangeDecoder", name := "decode", desc := "(I)Z" } : Jvm.MethodName) prog_62_method_2_code (6 : Nat) (Option.some Jvm.ClassFile.FieldType.boolean)]
set_option maxRecDepth 65536 in
theorem codes_eq : words1.filter isCode = codes1 := rfl
theorem w_codes : ∀ c ∈ words1.filter isCode, c.before args0 about1 = true := by
  rw [codes_eq]
  intro c hc
  simp only [codes1, List.mem_cons, List.not_mem_nil, or_false] at hc
  rcases hc with rfl | rfl | rfl | rfl | rfl | rfl | rfl | rfl | rfl | rfl | rfl | rfl | rfl | rfl | rfl
  · exact w_c0
  · exact w_c1
  · exact w_c2
  · exact w_c3
  · exact w_c4
  · exact w_c5
  · exact w_c6
  · exact w_c7
  · exact w_c8
  · exact w_c9
  · exact w_c10
  · exact w_c11
  · exact w_c12
  · exact w_c13
  · exact w_c14
set_option maxRecDepth 65536 in
theorem w_t1 : (words1.take 24).all (fun c => isCode c || c.before args0 about1) = true := by decide +kernel
set_option maxRecDepth 65536 in
theorem w_t2 : ((words1.drop 24).take 24).all (fun c => isCode c || c.before args0 about1) = true := by decide +kernel
set_option maxRecDepth 65536 in
theorem w_t3 : (((words1.drop 24).drop 24).take 24).all (fun c => isCode c || c.before args0 about1) = true := by decide +kernel
set_option maxRecDepth 65536 in
theorem w_t4 : ((((words1.drop 24).drop 24).drop 24).take 24).all (fun c => isCode c || c.before args0 about1) = true := by decide +kernel
set_option maxRecDepth 65536 in
theorem w_t5 : ((((words1.drop 24).drop 24).drop 24).drop 24).all (fun c => isCode c || c.before args0 about1) = true := by decide +kernel
theorem w_tables : (allAtoms (Jvm.Cond.code x code maxLocals ret :: tables_1)).before args0 about1 = true := by
  rw [allAtoms_all]
  show words1.all (fun c => c.before args0 about1) = true
  refine all_split ?_ w_codes
  rw [← List.take_append_drop 24 words1, List.all_append, w_t1, ← List.take_append_drop 24 (words1.drop 24), List.all_append, w_t2, ← List.take_append_drop 24 ((words1.drop 24).drop 24), List.all_append, w_t3, ← List.take_append_drop 24 (((words1.drop 24).drop 24).drop 24), List.all_append, w_t4, w_t5]
  rfl
set_option maxRecDepth 65536 in
theorem w_case : (Jvm.Cond.and given_1 narrow_1).before args0 about1 = true := by decide +kernel
theorem w_applies : (headSpec (Jvm.Cond.code x code maxLocals ret :: tables_1) room_1).applies x e0.platform about1 = true :=
  (Spec.applies_iff w_frames).mpr ⟨w_running, w_runnable, w_alone, w_named, w_hears, w_ripe, w_room, w_tables⟩
theorem atStart : AtStart classFile x code maxLocals ret World_1 tables_1 room_1 Calls_1 rest_1 Pre_1 launch0 p0 e0 about1 theMethod args0 below0 :=
  ⟨lists_1, trivial, launch0.admits_env _ _ _, launch0.least_env, fairChoices_fair.cas, fairChoices_fair.clock, w_frames, w_args, w_heap, w_applies, trivial, trivial, w_case⟩
end start1
theorem witness_1 : WitnessClaimed_1 := ⟨start1.p0, start1.e0, start1.about1, start1.theMethod, start1.args0, start1.below0, start1.atStart⟩
end Jvm.Pilot.@@N@@
